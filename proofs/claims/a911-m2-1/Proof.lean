import JvmDerived
import JvmDerived.Pilot.@@N@@Statement
import JvmDerived.Pilot.@@N@@Code
set_option linter.unusedVariables false
set_option linter.unusedSimpArgs false
namespace Jvm.OwnGo
open Jvm Jvm.ClassFile Sem Op Lib Jvm.Free Jvm.Stand Jvm.LawKit Jvm.RoadKit
section Own
variable {p : Program} {l : Launch} {e : Env} {R : Room} {s : State} {m : MethodId} {args : Array Value} {below : List Frame} {meth : Method} {c : Code} {T : State} {locs : List Loc} {cells slots : Nat} {Q : Option Value → Heap → List Loc → Prop} {C N : Nat}
/-- from A on the run comes to its return, and what it returns and leaves is as Q says -/
def Go (p : Program) (e : Env) (below : List Frame) (s : State) (Q : Option Value → Heap → List Loc → Prop) (C N : Nat) (A : State) : Prop :=
  ∃ s₂ o, Steps p.tables e below A s₂ ∧ s₂.status = .running ∧ Ended s₂ below o ∧ ∃ v L, o = .returned v ∧ Q v s₂.heap L ∧ FrameEnd s o s₂ L C N
theorem Go.st {A B : State} (h : ∀ t, Steps p.tables e below B t → Steps p.tables e below A t) (k : Go p e below s Q C N B) : Go p e below s Q C N A := by
  obtain ⟨s₂, o, h1, r⟩ := k
  exact ⟨s₂, o, h _ h1, r⟩
theorem Go.tr {A B : State} (h : Steps p.tables e below A B) (k : Go p e below s Q C N B) : Go p e below s Q C N A := k.st fun _ q => h.trans q
theorem Go.retI (X : Stand p l e R s m args below meth c T locs cells slots) (hx : p.tables.exec = Jvm.exec) (hlk : meth.locks = false) (hret : meth.sig.returnType = some .int) {pc : Nat} {Ls : Array Slot} {z : Int32} {rest : List Value} (hd : decode c.code pc = .ok (.ireturn, 1))
    (q : Q (some (.int z)) T.heap locs) (hc : cells ≤ C) (hn : slots ≤ N) : Go p e below s Q C N (T.setTop (mkF m pc Ls (.int z :: rest))) := by
  obtain ⟨fs, hr, hrun, hended, hW, hsame⟩ := X.leave (v := some (.int z)) (fun h => by rw [hret] at h; cases h) hlk
  exact ⟨_, _, retOut X hx hret rfl (Or.inl ⟨rfl, Or.inl rfl, _, rfl⟩) hd hr, hrun, hended, _, _, rfl, q, ⟨_, rfl⟩, hW, hsame.mono hc hn⟩
theorem Go.retN (X : Stand p l e R s m args below meth c T locs cells slots) (hx : p.tables.exec = Jvm.exec) (hlk : meth.locks = false) {t : FieldType} (ht : t = .boolean ∨ t = .byte ∨ t = .char ∨ t = .short) (hret : meth.sig.returnType = some t) {pc : Nat} {Ls : Array Slot} {z z' : Int32} {rest : List Value} (hd : decode c.code pc = .ok (.ireturn, 1))
    (hz : nar t z = z') (q : Q (some (.int z')) T.heap locs) (hc : cells ≤ C) (hn : slots ≤ N) : Go p e below s Q C N (T.setTop (mkF m pc Ls (.int z :: rest))) := by
  subst hz
  obtain ⟨fs, hr, hrun, hended, hW, hsame⟩ := X.leave (v := some (.int (nar t z))) (fun h => by rw [hret] at h; cases h) hlk
  exact ⟨_, _, Jvm.RoadKit.retN X hx hret ht hd hr, hrun, hended, _, _, rfl, q, ⟨_, rfl⟩, hW, hsame.mono hc hn⟩
theorem Go.retJ (X : Stand p l e R s m args below meth c T locs cells slots) (hx : p.tables.exec = Jvm.exec) (hlk : meth.locks = false) (hret : meth.sig.returnType = some .long) {pc : Nat} {Ls : Array Slot} {z : Int64} {rest : List Value} (hd : decode c.code pc = .ok (.lreturn, 1))
    (q : Q (some (.long z)) T.heap locs) (hc : cells ≤ C) (hn : slots ≤ N) : Go p e below s Q C N (T.setTop (mkF m pc Ls (.long z :: rest))) := by
  obtain ⟨fs, hr, hrun, hended, hW, hsame⟩ := X.leave (v := some (.long z)) (fun h => by rw [hret] at h; cases h) hlk
  exact ⟨_, _, retOut X hx hret rfl (Or.inr (Or.inl ⟨rfl, rfl, _, rfl⟩)) hd hr, hrun, hended, _, _, rfl, q, ⟨_, rfl⟩, hW, hsame.mono hc hn⟩
theorem nar_ref {t : FieldType} {w : Value} (hw : w.isRef = true) : narrow t w = w := by
  cases t <;> cases w <;> first | rfl | (simp [Value.isRef] at hw)
theorem Go.retA (X : Stand p l e R s m args below meth c T locs cells slots) (hx : p.tables.exec = Jvm.exec) (hlk : meth.locks = false) {t : FieldType} (ht : t.isReference = true) (hret : meth.sig.returnType = some t) {pc : Nat} {Ls : Array Slot} {w : Value} {rest : List Value} (hw : w.isRef = true) (hd : decode c.code pc = .ok (.areturn, 1))
    (q : Q (some w) T.heap locs) (hc : cells ≤ C) (hn : slots ≤ N) : Go p e below s Q C N (T.setTop (mkF m pc Ls (w :: rest))) := by
  obtain ⟨fs, hr, hrun, hended, hW, hsame⟩ := X.leave (v := some w) (fun h => by rw [hret] at h; cases h) hlk
  exact ⟨_, _, retOut X hx hret (nar_ref hw) (Or.inr (Or.inr (Or.inr (Or.inr ⟨rfl, ht, hw⟩)))) hd hr, hrun, hended, _, _, rfl, q, ⟨_, rfl⟩, hW, hsame.mono hc hn⟩
theorem Go.retV (X : Stand p l e R s m args below meth c T locs cells slots) (hx : p.tables.exec = Jvm.exec) (hlk : meth.locks = false) (hret : meth.sig.returnType = none) {pc : Nat} {Ls : Array Slot} (hd : decode c.code pc = .ok (.return_, 1))
    (q : Q none T.heap locs) (hc : cells ≤ C) (hn : slots ≤ N) : Go p e below s Q C N (T.setTop (mkF m pc Ls [])) := by
  obtain ⟨fs, hr, hrun, hended, hW, hsame⟩ := X.leave (v := none) (fun _ => rfl) hlk
  exact ⟨_, _, X.returnOut hx hret hd hr, hrun, hended, _, _, rfl, q, ⟨_, rfl⟩, hW, hsame.mono hc hn⟩
theorem up {k n : Nat} (X : Stand p l e R s m args below meth c T locs cells slots) (hc : cells ≤ k) (hn : slots ≤ n) : Stand p l e R s m args below meth c T locs k n := { X with same := X.same.mono hc hn }
end Own
section Num
variable {x y : Int32} {u v : Int64} {a b : Int}
theorem ltI (ha : x.toInt = a) (hb : y.toInt = b) (h : a < b) : x < y := by rw [Int32.lt_iff_toInt_lt, ha, hb]; exact h
theorem nltI (ha : x.toInt = a) (hb : y.toInt = b) (h : ¬ a < b) : ¬ x < y := by rw [Int32.lt_iff_toInt_lt, ha, hb]; exact h
theorem eqI (ha : x.toInt = a) (hb : y.toInt = b) (h : a = b) : x = y := Int32.toInt_inj.mp (by rw [ha, hb]; exact h)
theorem neI (ha : x.toInt = a) (hb : y.toInt = b) (h : ¬ a = b) : ¬ x = y := fun q => h (by rw [← ha, ← hb, q])
theorem ltJ (ha : u.toInt = a) (hb : v.toInt = b) (h : a < b) : u < v := by rw [Int64.lt_iff_toInt_lt, ha, hb]; exact h
theorem nltJ (ha : u.toInt = a) (hb : v.toInt = b) (h : ¬ a < b) : ¬ u < v := by rw [Int64.lt_iff_toInt_lt, ha, hb]; exact h
theorem eqJ (ha : u.toInt = a) (hb : v.toInt = b) (h : a = b) : u = v := Int64.toInt_inj.mp (by rw [ha, hb]; exact h)
theorem neJ (ha : u.toInt = a) (hb : v.toInt = b) (h : ¬ a = b) : ¬ u = v := fun q => h (by rw [← ha, ← hb, q])
theorem bool_nar (h : x.toInt = 0 ∨ x.toInt = 1) : nar .boolean x = x := by
  rcases h with h | h
  · rw [Int32.toInt_inj.mp (h.trans (by decide : (0 : Int) = (0 : Int32).toInt))]; decide
  · rw [Int32.toInt_inj.mp (h.trans (by decide : (1 : Int) = (1 : Int32).toInt))]; decide
end Num
section Words
variable {Z : State} {args : Array Value} {t : Term} {C n d : String} {a : Addr}
theorem fld_int {k : Int32} (ht : t.eval args Z none [] Z = some (.ref a)) (h : (Cond.eq (Term.field t C n d) (Term.int k)).value args Z none Z [] = some true) : Fld Z Z.heap a C n d (.int k) := by
  obtain ⟨u, v, e1, e2, k1, k2⟩ := cmp_v (Or.inl h)
  have e3 : v = .int k := Option.some.inj (e2.symm.trans (Term.int_eval k))
  subst e3
  obtain ⟨w, rfl⟩ : ∃ w, u = .int w := k2
  have q := gotT (Cond.eq_ints e1 (Term.int_eval k)) h
  subst q
  exact Fld.start (by rw [← fld_at (args := args) (first := Z) (o := none) (idx := []) ht]; exact e1)
theorem sta_long {k : Int64} (h : (Cond.eq (Term.static C n d) (Term.long k)).value args Z none Z [] = some true) : (Term.static C n d).eval args Z none [] Z = some (.long k) := by
  obtain ⟨u, v, e1, e2, k1, k2⟩ := cmp_v (Or.inl h)
  have e3 : v = .long k := Option.some.inj (e2.symm.trans rfl)
  subst e3
  obtain ⟨w, rfl⟩ : ∃ w, u = .long w := k2
  have q := gotT (eq_L (y := k) e1 rfl) h
  subst q
  exact e1
theorem sta_int {k : Int32} (h : (Cond.eq (Term.static C n d) (Term.int k)).value args Z none Z [] = some true) : (Term.static C n d).eval args Z none [] Z = some (.int k) := by
  obtain ⟨u, v, e1, e2, k1, k2⟩ := cmp_v (Or.inl h)
  have e3 : v = .int k := Option.some.inj (e2.symm.trans rfl)
  subst e3
  obtain ⟨w, rfl⟩ : ∃ w, u = .int w := k2
  have q := gotT (Cond.eq_ints e1 (Term.int_eval k)) h
  subst q
  exact e1
/-- a cell that is no class's statics -/
def Exi (h : Heap) (x : Addr) : Prop := ∃ c : Cell, h[x]? = some c ∧ c.vm.isStatics = false
theorem exi_exa {h : Heap} (F : Exa Z h a C) : Exi h a := by obtain ⟨c, k, h1, -, -, h4, -⟩ := F; exact ⟨c, h1, h4⟩
theorem sta_keep {h h' : Heap} {v : Value} {ws : List Addr} (F : Sta Z h C n d v) (K : Keep h h' ws) (q : ∀ x ∈ ws, Exi h x) : Sta Z h' C n d v := by
  obtain ⟨cf, i, k, f, st, cell, h1, h2, h3, h4, h5, h6, h7⟩ := F
  refine ⟨cf, i, k, f, st, cell, h1, h2, h3, h4, K.2.1 st cell h5 (fun hm => ?_), h6, h7⟩
  obtain ⟨c, e1, e2⟩ := q st hm
  cases h5.symm.trans e1
  rw [h6] at e2; cases e2
theorem self_sel {s : State} {as as' : Array Value} {y z : MethodName} (hs : (Cond.selects C z z).before as s = true) (hc : z.cls = y.cls) (hp : s.PrivateAt y) (hi : (Cond.instanceMethod y).before as' s = true) (hy : y.cls ≠ "java/lang/invoke/MethodHandle" ∧ y.cls ≠ "java/lang/invoke/VarHandle") : (Cond.selects y.cls y y).before as' s = true := by
  obtain ⟨c, r, m, h1, h2, h3, h4, mk, h5, h6⟩ := Cond.selects_spec hs
  exact selects_self_of_private (hc ▸ findClass_of_methodNamed h3) h5 h6 hp hi hy
end Words
end Jvm.OwnGo
namespace Jvm.Pilot.@@N@@
open Jvm Jvm.ClassFile Sem Op Lib Jvm.Free Jvm.Stand Jvm.LawKit Jvm.RoadKit Bundle Jvm.OwnGo Jvm.Pilot.@@N@@.Jvm.D
theorem pn_0 : plainName "com/example/ballast/ballast/database/CompactionPolicy" = true := by first | (simp [plainName, overriddenIn]; done) | decide +kernel
theorem d1_0 : decode prog_7_method_1_code 0 = .ok (.aload_n 0, 1) := by decide +kernel
theorem d1_1 : decode prog_7_method_1_code 1 = .ok (.invokespecial 1, 3) := by decide +kernel
theorem d1_4 : decode prog_7_method_1_code 4 = .ok (.aload_n 0, 1) := by decide +kernel
theorem d1_5 : decode prog_7_method_1_code 5 = .ok (.lload_n 1, 1) := by decide +kernel
theorem d1_6 : decode prog_7_method_1_code 6 = .ok (.putfield 7, 3) := by decide +kernel
theorem sn_0 {Z : State} {a0 : Array Value} (hw : ∀ d ∈ tables_1, d.before a0 Z = true) : Jvm.RoadKit.slotOf Z "com/example/ballast/ballast/database/CompactionPolicy" "since" "J" ≠ Jvm.RoadKit.slotOf Z "com/example/ballast/ballast/database/CompactionPolicy" "baseBytes" "J" := slot_ne (Or.inl (hw _ (List.mem_of_getElem? (i := 13) rfl))) (Or.inl (hw _ (List.mem_of_getElem? (i := 11) rfl))) (by decide) (t := .long) (t' := .long) (by decide) (by decide)
theorem sn_1 {Z : State} {a0 : Array Value} (hw : ∀ d ∈ tables_1, d.before a0 Z = true) : Jvm.RoadKit.slotOf Z "com/example/ballast/ballast/database/CompactionPolicy" "transactions" "J" ≠ Jvm.RoadKit.slotOf Z "com/example/ballast/ballast/database/CompactionPolicy" "baseBytes" "J" := slot_ne (Or.inl (hw _ (List.mem_of_getElem? (i := 20) rfl))) (Or.inl (hw _ (List.mem_of_getElem? (i := 11) rfl))) (by decide) (t := .long) (t' := .long) (by decide) (by decide)
theorem d1_9 : decode prog_7_method_1_code 9 = .ok (.aload_n 0, 1) := by decide +kernel
theorem d1_10 : decode prog_7_method_1_code 10 = .ok (.lload_n 3, 1) := by decide +kernel
theorem d1_11 : decode prog_7_method_1_code 11 = .ok (.putfield 13, 3) := by decide +kernel
theorem sn_2 {Z : State} {a0 : Array Value} (hw : ∀ d ∈ tables_1, d.before a0 Z = true) : Jvm.RoadKit.slotOf Z "com/example/ballast/ballast/database/CompactionPolicy" "baseBytes" "J" ≠ Jvm.RoadKit.slotOf Z "com/example/ballast/ballast/database/CompactionPolicy" "since" "J" := slot_ne (Or.inl (hw _ (List.mem_of_getElem? (i := 11) rfl))) (Or.inl (hw _ (List.mem_of_getElem? (i := 13) rfl))) (by decide) (t := .long) (t' := .long) (by decide) (by decide)
theorem sn_3 {Z : State} {a0 : Array Value} (hw : ∀ d ∈ tables_1, d.before a0 Z = true) : Jvm.RoadKit.slotOf Z "com/example/ballast/ballast/database/CompactionPolicy" "transactions" "J" ≠ Jvm.RoadKit.slotOf Z "com/example/ballast/ballast/database/CompactionPolicy" "since" "J" := slot_ne (Or.inl (hw _ (List.mem_of_getElem? (i := 20) rfl))) (Or.inl (hw _ (List.mem_of_getElem? (i := 13) rfl))) (by decide) (t := .long) (t' := .long) (by decide) (by decide)
theorem d1_14 : decode prog_7_method_1_code 14 = .ok (.return_, 1) := by decide +kernel
theorem ef_rm1 (m : MethodId) (o : Addr) (by0 : Int64) (si0 : Int64) : entryFrame m #[(.ref o), (.long by0), (.long si0)] 5 = mkF m 0 #[.val (.ref o), .val (.long by0), .second, .val (.long si0), .second] [] := by first | (simp [entryFrame, mkF, argsToLocals, Value.category]; done) | rfl
def Q1 (Z : State) (o : Addr) (by0 : Int64) (si0 : Int64) (b_ : Int64) (s_ : Int64) (t_ : Int64) (h0 : Heap) (n0 : Nat) (vv : Option Value) (h : Heap) (LL : List Loc) : Prop := vv = none ∧ Fr n0 LL ∧ Keep h0 h [o] ∧ (Exa Z h o "com/example/ballast/ballast/database/CompactionPolicy") ∧ (Fld Z h o "com/example/ballast/ballast/database/CompactionPolicy" "baseBytes" "J" (.long by0)) ∧ (Fld Z h o "com/example/ballast/ballast/database/CompactionPolicy" "since" "J" (.long si0)) ∧ (Fld Z h o "com/example/ballast/ballast/database/CompactionPolicy" "transactions" "J" (.long t_))
set_option maxRecDepth 65536 in
set_option maxHeartbeats 40000000 in
theorem rm1 (l : Launch) (Z : State) (a0 : Array Value) (hw : ∀ d ∈ tables_1, d.before a0 Z = true) (ws : List Jvm.Cond) (o : Addr) (by0 : Int64) (si0 : Int64) (b_ : Int64) (s_ : Int64) (t_ : Int64) (h0 : Heap) (n0 : Nat) (Z0 : n0 ≤ h0.size) (hE : Exa Z h0 o "com/example/ballast/ballast/database/CompactionPolicy") (hG : n0 ≤ o) (hb_ : Fld Z h0 o "com/example/ballast/ballast/database/CompactionPolicy" "baseBytes" "J" (.long b_)) (hs_ : Fld Z h0 o "com/example/ballast/ballast/database/CompactionPolicy" "since" "J" (.long s_)) (ht_ : Fld Z h0 o "com/example/ballast/ballast/database/CompactionPolicy" "transactions" "J" (.long t_)) :
    MetFree l (⟨"com/example/ballast/ballast/database/CompactionPolicy", "<init>", "(JJ)V"⟩ : MethodName) (head1 (Jvm.Cond.code (⟨"com/example/ballast/ballast/database/CompactionPolicy", "<init>", "(JJ)V"⟩ : MethodName) prog_7_method_1_code 5 none :: ws) ({ frames := 1, cells := 0, slots := 0, locals := 12 } : Room)) (fun aa UU => aa = #[(.ref o), (.long by0), (.long si0)] ∧ Z.Warmed39 UU.vm ∧ UU.heap = h0) (fun _ _ _ _ _ => True) (fun _ UU oo UU' => ∃ vv LL, oo = .returned vv ∧ Q1 Z o by0 si0 b_ s_ t_ h0 n0 vv UU'.heap LL ∧ FrameEnd UU oo UU' LL 0 0) := by
  refine MetFree.of_bodySF (plainFor_of_name pn_0) hisR ?_
  intro p e s m args below meth c s₁ Bd hml0 hP hK
  obtain ⟨rfl, hZ, hh⟩ := hP
  have hx := Bd.exec
  have hby := Bd.bytes
  have hlk : meth.locks = false := BodyLoose.notSynchronized Bd
  have hml : c.maxLocals = 5 := hml0
  have hown : s.vm.findClass "com/example/ballast/ballast/database/CompactionPolicy" = some m.cls := findClass_of_methodNamed Bd.named
  have hnm := (name_of_methodNamed Bd.named Bd.method).1
  have X0 : Stand p l e ({ frames := 1, cells := 0, slots := 0, locals := 12 } : Room) s m #[(.ref o), (.long by0), (.long si0)] below meth c s₁ [] 0 0 := Stand.of_body Bd
  have e0 : s₁.heap = h0 := by rw [← hh, Bd.state]; rfl
  have N0 := Fr.nil n0
  have K0 : Keep h0 h0 [o] := Keep.refl h0 _
  refine (?_ : Go p e below s (Q1 Z o by0 si0 b_ s_ t_ h0 n0) 0 0 (s₁.setTop (entryFrame m #[(.ref o), (.long by0), (.long si0)] 5)))
  rw [ef_rm1]
  generalize hQ : Q1 Z o by0 si0 b_ s_ t_ h0 n0 = Q
  show Go p e below s Q 0 0 (s₁.setTop (mkF m 0 #[.val (.ref o), .val (.long by0), .second, .val (.long si0), .second] []))
  have f1 := rng64 by0
  have f2 := rng64 si0
  refine Go.st (fun _ k => XS.aloadN X0.here hx rfl (hb hby d1_0) rfl rfl k) ?_
  show Go p e below s Q 0 0 (s₁.setTop (mkF m 1 #[.val (.ref o), .val (.long by0), .second, .val (.long si0), .second] [(.ref o)]))
  obtain ⟨T3, X3, e3, st3⟩ := initO X0 hx hZ hown (hw _ (List.mem_of_getElem? (i := 7) rfl)) (hw _ (List.mem_of_getElem? (i := 8) rfl)) (hw _ (List.mem_of_getElem? (i := 9) rfl)) e0 (g := (mkF m 1 #[.val (.ref o), .val (.long by0), .second, .val (.long si0), .second] [(.ref o)])) rfl (by rw [hml]; rfl) rfl (hb hby d1_1) (by decide) (W := 0) (by show 2 * 0 + _ ≤ _; exact Nat.le_of_eq rfl) (by decide)
  refine Go.st st3 ?_
  show Go p e below s Q 0 0 (T3.setTop (mkF m 4 #[.val (.ref o), .val (.long by0), .second, .val (.long si0), .second] []))
  refine Go.st (fun _ k => XS.aloadN X3.here hx rfl (hb hby d1_4) rfl rfl k) ?_
  show Go p e below s Q 0 0 (T3.setTop (mkF m 5 #[.val (.ref o), .val (.long by0), .second, .val (.long si0), .second] [(.ref o)]))
  refine Go.st (fun _ k => XS.lloadN X3.here hx rfl (hb hby d1_5) rfl k) ?_
  show Go p e below s Q 0 0 (T3.setTop (mkF m 6 #[.val (.ref o), .val (.long by0), .second, .val (.long si0), .second] [(.long by0), (.ref o)]))
  obtain ⟨T4, h4, X4, e4, W4, st4⟩ := putF X3 hx hZ hown (host := "") (Or.inl (hw _ (List.mem_of_getElem? (i := 10) rfl))) Via.refl e3 hb_ hE (Or.inl (hw _ (List.mem_of_getElem? (i := 11) rfl))) (hw _ (List.mem_of_getElem? (i := 2) rfl)) (ty := .long) (by decide) rfl rfl (g := (mkF m 6 #[.val (.ref o), .val (.long by0), .second, .val (.long si0), .second] [(.long by0), (.ref o)])) rfl rfl (hb hby d1_6)
  have h5 : Exa Z h4 o "com/example/ballast/ballast/database/CompactionPolicy" := hE.wr W4
  have h6 : Fld Z h4 o "com/example/ballast/ballast/database/CompactionPolicy" "baseBytes" "J" (.long by0) := hb_.same W4
  have h7 : Fld Z h4 o "com/example/ballast/ballast/database/CompactionPolicy" "since" "J" (.long s_) := hs_.other W4 (Or.inr (sn_0 hw))
  have h8 : Fld Z h4 o "com/example/ballast/ballast/database/CompactionPolicy" "transactions" "J" (.long t_) := ht_.other W4 (Or.inr (sn_1 hw))
  have K4 : Keep h0 h4 [o] := K0.wr W4 (Or.inl (List.mem_of_getElem? (i := 0) rfl))
  have N4 := Fr.snoc X4 N0 hG
  refine Go.st st4 ?_
  show Go p e below s Q 0 0 (T4.setTop (mkF m 9 #[.val (.ref o), .val (.long by0), .second, .val (.long si0), .second] []))
  refine Go.st (fun _ k => XS.aloadN X4.here hx rfl (hb hby d1_9) rfl rfl k) ?_
  show Go p e below s Q 0 0 (T4.setTop (mkF m 10 #[.val (.ref o), .val (.long by0), .second, .val (.long si0), .second] [(.ref o)]))
  refine Go.st (fun _ k => XS.lloadN X4.here hx rfl (hb hby d1_10) rfl k) ?_
  show Go p e below s Q 0 0 (T4.setTop (mkF m 11 #[.val (.ref o), .val (.long by0), .second, .val (.long si0), .second] [(.long si0), (.ref o)]))
  obtain ⟨T9, h9, X9, e9, W9, st9⟩ := putF X4 hx hZ hown (host := "") (Or.inl (hw _ (List.mem_of_getElem? (i := 12) rfl))) Via.refl e4 h7 h5 (Or.inl (hw _ (List.mem_of_getElem? (i := 13) rfl))) (hw _ (List.mem_of_getElem? (i := 2) rfl)) (ty := .long) (by decide) rfl rfl (g := (mkF m 11 #[.val (.ref o), .val (.long by0), .second, .val (.long si0), .second] [(.long si0), (.ref o)])) rfl rfl (hb hby d1_11)
  have h10 : Exa Z h9 o "com/example/ballast/ballast/database/CompactionPolicy" := h5.wr W9
  have h11 : Fld Z h9 o "com/example/ballast/ballast/database/CompactionPolicy" "baseBytes" "J" (.long by0) := h6.other W9 (Or.inr (sn_2 hw))
  have h12 : Fld Z h9 o "com/example/ballast/ballast/database/CompactionPolicy" "since" "J" (.long si0) := h7.same W9
  have h13 : Fld Z h9 o "com/example/ballast/ballast/database/CompactionPolicy" "transactions" "J" (.long t_) := h8.other W9 (Or.inr (sn_3 hw))
  have K9 : Keep h0 h9 [o] := K4.wr W9 (Or.inl (List.mem_of_getElem? (i := 0) rfl))
  have N9 := Fr.snoc X9 N4 hG
  refine Go.st st9 ?_
  show Go p e below s Q 0 0 (T9.setTop (mkF m 14 #[.val (.ref o), .val (.long by0), .second, .val (.long si0), .second] []))
  exact Go.retV X9 hx hlk Bd.returns (hb hby d1_14) (by rw [← hQ, e9]; exact ⟨rfl, N9, K9, h10, h11, h12, h13⟩) (by decide) (by decide)
theorem d3_0 : decode prog_7_method_2_code 0 = .ok (.aload_n 0, 1) := by decide +kernel
theorem d3_1 : decode prog_7_method_2_code 1 = .ok (.dup, 1) := by decide +kernel
theorem d3_2 : decode prog_7_method_2_code 2 = .ok (.getfield 16, 3) := by decide +kernel
theorem d3_5 : decode prog_7_method_2_code 5 = .ok (.lconst 1, 1) := by decide +kernel
theorem d3_6 : decode prog_7_method_2_code 6 = .ok (.ladd, 1) := by decide +kernel
theorem d3_7 : decode prog_7_method_2_code 7 = .ok (.putfield 16, 3) := by decide +kernel
theorem sn_4 {Z : State} {a0 : Array Value} (hw : ∀ d ∈ tables_1, d.before a0 Z = true) : Jvm.RoadKit.slotOf Z "com/example/ballast/ballast/database/CompactionPolicy" "baseBytes" "J" ≠ Jvm.RoadKit.slotOf Z "com/example/ballast/ballast/database/CompactionPolicy" "transactions" "J" := slot_ne (Or.inl (hw _ (List.mem_of_getElem? (i := 11) rfl))) (Or.inl (hw _ (List.mem_of_getElem? (i := 20) rfl))) (by decide) (t := .long) (t' := .long) (by decide) (by decide)
theorem sn_5 {Z : State} {a0 : Array Value} (hw : ∀ d ∈ tables_1, d.before a0 Z = true) : Jvm.RoadKit.slotOf Z "com/example/ballast/ballast/database/CompactionPolicy" "since" "J" ≠ Jvm.RoadKit.slotOf Z "com/example/ballast/ballast/database/CompactionPolicy" "transactions" "J" := slot_ne (Or.inl (hw _ (List.mem_of_getElem? (i := 13) rfl))) (Or.inl (hw _ (List.mem_of_getElem? (i := 20) rfl))) (by decide) (t := .long) (t' := .long) (by decide) (by decide)
theorem d3_10 : decode prog_7_method_2_code 10 = .ok (.lload_n 3, 1) := by decide +kernel
theorem d3_11 : decode prog_7_method_2_code 11 = .ok (.aload_n 0, 1) := by decide +kernel
theorem d3_12 : decode prog_7_method_2_code 12 = .ok (.getfield 13, 3) := by decide +kernel
theorem d3_15 : decode prog_7_method_2_code 15 = .ok (.lsub, 1) := by decide +kernel
theorem d3_16 : decode prog_7_method_2_code 16 = .ok (.lstore 5, 2) := by decide +kernel
theorem d3_18 : decode prog_7_method_2_code 18 = .ok (.lload_n 1, 1) := by decide +kernel
theorem d3_19 : decode prog_7_method_2_code 19 = .ok (.ldc2_w 19, 3) := by decide +kernel
theorem d3_22 : decode prog_7_method_2_code 22 = .ok (.aload_n 0, 1) := by decide +kernel
theorem d3_23 : decode prog_7_method_2_code 23 = .ok (.getfield 7, 3) := by decide +kernel
theorem d3_26 : decode prog_7_method_2_code 26 = .ok (.lmul, 1) := by decide +kernel
theorem d3_27 : decode prog_7_method_2_code 27 = .ok (.lcmp, 1) := by decide +kernel
theorem d3_28 : decode prog_7_method_2_code 28 = .ok (.ifCond .le 15, 3) := by decide +kernel
theorem liJ_2 : (2 : Int64).toInt = 2 := by decide
theorem d3_31 : decode prog_7_method_2_code 31 = .ok (.lload_n 1, 1) := by decide +kernel
theorem d3_32 : decode prog_7_method_2_code 32 = .ok (.ldc2_w 21, 3) := by decide +kernel
theorem d3_35 : decode prog_7_method_2_code 35 = .ok (.lcmp, 1) := by decide +kernel
theorem d3_36 : decode prog_7_method_2_code 36 = .ok (.ifCond .lt 7, 3) := by decide +kernel
theorem liJ_10485760 : (10485760 : Int64).toInt = 10485760 := by decide
theorem d3_43 : decode prog_7_method_2_code 43 = .ok (.iconst 0, 1) := by decide +kernel
theorem d3_44 : decode prog_7_method_2_code 44 = .ok (.istore 7, 2) := by decide +kernel
theorem d3_46 : decode prog_7_method_2_code 46 = .ok (.aload_n 0, 1) := by decide +kernel
theorem d3_47 : decode prog_7_method_2_code 47 = .ok (.getfield 16, 3) := by decide +kernel
theorem d3_50 : decode prog_7_method_2_code 50 = .ok (.ldc2_w 23, 3) := by decide +kernel
theorem d3_53 : decode prog_7_method_2_code 53 = .ok (.lcmp, 1) := by decide +kernel
theorem d3_54 : decode prog_7_method_2_code 54 = .ok (.ifCond .lt 7, 3) := by decide +kernel
theorem liJ_1 : (1 : Int64).toInt = 1 := by decide
theorem liJ_100 : (100 : Int64).toInt = 100 := by decide
theorem d3_61 : decode prog_7_method_2_code 61 = .ok (.iconst 0, 1) := by decide +kernel
theorem d3_62 : decode prog_7_method_2_code 62 = .ok (.istore 8, 2) := by decide +kernel
theorem d3_64 : decode prog_7_method_2_code 64 = .ok (.iload 7, 2) := by decide +kernel
theorem d3_66 : decode prog_7_method_2_code 66 = .ok (.ifCond .eq 17, 3) := by decide +kernel
theorem liI_0 : (0 : Int32).toInt = 0 := by decide
theorem d3_83 : decode prog_7_method_2_code 83 = .ok (.iload 8, 2) := by decide +kernel
theorem d3_85 : decode prog_7_method_2_code 85 = .ok (.ifCond .eq 16, 3) := by decide +kernel
theorem d3_101 : decode prog_7_method_2_code 101 = .ok (.iconst 0, 1) := by decide +kernel
theorem d3_102 : decode prog_7_method_2_code 102 = .ok (.ireturn, 1) := by decide +kernel
theorem d3_39 : decode prog_7_method_2_code 39 = .ok (.iconst 1, 1) := by decide +kernel
theorem d3_40 : decode prog_7_method_2_code 40 = .ok (.goto 4, 3) := by decide +kernel
theorem liI_1 : (1 : Int32).toInt = 1 := by decide
theorem d3_69 : decode prog_7_method_2_code 69 = .ok (.iload 8, 2) := by decide +kernel
theorem d3_71 : decode prog_7_method_2_code 71 = .ok (.ifCond .ne 26, 3) := by decide +kernel
theorem d3_74 : decode prog_7_method_2_code 74 = .ok (.lload 5, 2) := by decide +kernel
theorem d3_76 : decode prog_7_method_2_code 76 = .ok (.getstatic 25, 3) := by decide +kernel
theorem d3_79 : decode prog_7_method_2_code 79 = .ok (.lcmp, 1) := by decide +kernel
theorem d3_80 : decode prog_7_method_2_code 80 = .ok (.ifCond .ge 17, 3) := by decide +kernel
theorem liJ_600000000000 : (600000000000 : Int64).toInt = 600000000000 := by decide
theorem d3_97 : decode prog_7_method_2_code 97 = .ok (.iconst 1, 1) := by decide +kernel
theorem d3_98 : decode prog_7_method_2_code 98 = .ok (.goto 4, 3) := by decide +kernel
theorem ef_rm3 (m : MethodId) (o : Addr) (by0 : Int64) (now : Int64) : entryFrame m #[(.ref o), (.long by0), (.long now)] 9 = mkF m 0 #[.val (.ref o), .val (.long by0), .second, .val (.long now), .second, .unset, .unset, .unset, .unset] [] := by first | (simp [entryFrame, mkF, argsToLocals, Value.category]; done) | rfl
def Q3 (Z : State) (o : Addr) (by0 : Int64) (now : Int64) (b_ : Int64) (s_ : Int64) (t_ : Int64) (h0 : Heap) (n0 : Nat) (vv : Option Value) (h : Heap) (LL : List Loc) : Prop := ∃ (r : Int32) (tn : Int64), vv = some (.int r) ∧ Fr n0 LL ∧ ((r.toInt = 1 ∧ (((2 : Int64) * b_).toInt < by0.toInt ∧ 10485760 ≤ by0.toInt ∧ 600000000000 ≤ (now - s_).toInt)) ∨ (r.toInt = 0 ∧ ¬ (((2 : Int64) * b_).toInt < by0.toInt ∧ 10485760 ≤ by0.toInt ∧ 600000000000 ≤ (now - s_).toInt))) ∧ (tn.toInt = t_.toInt + 1) ∧ Keep h0 h [o] ∧ (Exa Z h o "com/example/ballast/ballast/database/CompactionPolicy") ∧ (Fld Z h o "com/example/ballast/ballast/database/CompactionPolicy" "baseBytes" "J" (.long b_)) ∧ (Fld Z h o "com/example/ballast/ballast/database/CompactionPolicy" "since" "J" (.long s_)) ∧ (Fld Z h o "com/example/ballast/ballast/database/CompactionPolicy" "transactions" "J" (.long tn))
set_option maxRecDepth 65536 in
set_option maxHeartbeats 40000000 in
theorem rm3 (l : Launch) (Z : State) (a0 : Array Value) (hw : ∀ d ∈ tables_1, d.before a0 Z = true) (ws : List Jvm.Cond) (o : Addr) (by0 : Int64) (now : Int64) (b_ : Int64) (s_ : Int64) (t_ : Int64) (h0 : Heap) (n0 : Nat) (Z0 : n0 ≤ h0.size) (hE : Exa Z h0 o "com/example/ballast/ballast/database/CompactionPolicy") (hG : n0 ≤ o) (hS : Sta Z h0 "com/example/ballast/ballast/database/CompactionPolicy" "MIN_NANOS" "J" (.long (600000000000 : Int64))) (hb_ : Fld Z h0 o "com/example/ballast/ballast/database/CompactionPolicy" "baseBytes" "J" (.long b_)) (hs_ : Fld Z h0 o "com/example/ballast/ballast/database/CompactionPolicy" "since" "J" (.long s_)) (ht_ : Fld Z h0 o "com/example/ballast/ballast/database/CompactionPolicy" "transactions" "J" (.long t_)) (hp : 0 ≤ t_.toInt ∧ t_.toInt < 50) :
    MetFree l (⟨"com/example/ballast/ballast/database/CompactionPolicy", "written", "(JJ)Z"⟩ : MethodName) (head1 (Jvm.Cond.code (⟨"com/example/ballast/ballast/database/CompactionPolicy", "written", "(JJ)Z"⟩ : MethodName) prog_7_method_2_code 9 (some .boolean) :: ws) ({ frames := 0, cells := 0, slots := 0, locals := 0 } : Room)) (fun aa UU => aa = #[(.ref o), (.long by0), (.long now)] ∧ Z.Warmed39 UU.vm ∧ UU.heap = h0) (fun _ _ _ _ _ => True) (fun _ UU oo UU' => ∃ vv LL, oo = .returned vv ∧ Q3 Z o by0 now b_ s_ t_ h0 n0 vv UU'.heap LL ∧ FrameEnd UU oo UU' LL 0 0) := by
  refine MetFree.of_bodySF (plainFor_of_name pn_0) hisR ?_
  intro p e s m args below meth c s₁ Bd hml0 hP hK
  obtain ⟨rfl, hZ, hh⟩ := hP
  have hx := Bd.exec
  have hby := Bd.bytes
  have hlk : meth.locks = false := BodyLoose.notSynchronized Bd
  have hml : c.maxLocals = 9 := hml0
  have hown : s.vm.findClass "com/example/ballast/ballast/database/CompactionPolicy" = some m.cls := findClass_of_methodNamed Bd.named
  have hnm := (name_of_methodNamed Bd.named Bd.method).1
  have X0 : Stand p l e ({ frames := 0, cells := 0, slots := 0, locals := 0 } : Room) s m #[(.ref o), (.long by0), (.long now)] below meth c s₁ [] 0 0 := Stand.of_body Bd
  have e0 : s₁.heap = h0 := by rw [← hh, Bd.state]; rfl
  have N0 := Fr.nil n0
  have K0 : Keep h0 h0 [o] := Keep.refl h0 _
  refine (?_ : Go p e below s (Q3 Z o by0 now b_ s_ t_ h0 n0) 0 0 (s₁.setTop (entryFrame m #[(.ref o), (.long by0), (.long now)] 9)))
  rw [ef_rm3]
  generalize hQ : Q3 Z o by0 now b_ s_ t_ h0 n0 = Q
  show Go p e below s Q 0 0 (s₁.setTop (mkF m 0 #[.val (.ref o), .val (.long by0), .second, .val (.long now), .second, .unset, .unset, .unset, .unset] []))
  have f1 := rng64 by0
  have f2 := rng64 now
  refine Go.st (fun _ k => XS.aloadN X0.here hx rfl (hb hby d3_0) rfl rfl k) ?_
  show Go p e below s Q 0 0 (s₁.setTop (mkF m 1 #[.val (.ref o), .val (.long by0), .second, .val (.long now), .second, .unset, .unset, .unset, .unset] [(.ref o)]))
  refine Go.st (fun _ k => XS.dup X0.here hx rfl (hb hby d3_1) rfl rfl k) ?_
  show Go p e below s Q 0 0 (s₁.setTop (mkF m 2 #[.val (.ref o), .val (.long by0), .second, .val (.long now), .second, .unset, .unset, .unset, .unset] [(.ref o), (.ref o)]))
  obtain ⟨T3, X3, e3, st3⟩ := getF X0 hx hZ hown (host := "") (Or.inl (hw _ (List.mem_of_getElem? (i := 19) rfl))) Via.refl e0 ht_ (g := (mkF m 2 #[.val (.ref o), .val (.long by0), .second, .val (.long now), .second, .unset, .unset, .unset, .unset] [(.ref o), (.ref o)])) rfl rfl (hb hby d3_2)
  refine Go.st st3 ?_
  show Go p e below s Q 0 0 (T3.setTop (mkF m 5 #[.val (.ref o), .val (.long by0), .second, .val (.long now), .second, .unset, .unset, .unset, .unset] [(.long t_), (.ref o)]))
  refine Go.st (fun _ k => XS.lconst X3.here hx rfl (hb hby d3_5) k) ?_
  show Go p e below s Q 0 0 (T3.setTop (mkF m 6 #[.val (.ref o), .val (.long by0), .second, .val (.long now), .second, .unset, .unset, .unset, .unset] [(.long (1 : Int64)), (.long t_), (.ref o)]))
  refine Go.st (fun _ k => XS.ladd X3.here hx rfl (hb hby d3_6) rfl k) ?_
  show Go p e below s Q 0 0 (T3.setTop (mkF m 7 #[.val (.ref o), .val (.long by0), .second, .val (.long now), .second, .unset, .unset, .unset, .unset] [(.long (t_ + (1 : Int64))), (.ref o)]))
  obtain ⟨T4, h4, X4, e4, W4, st4⟩ := putF X3 hx hZ hown (host := "") (Or.inl (hw _ (List.mem_of_getElem? (i := 19) rfl))) Via.refl e3 ht_ hE (Or.inl (hw _ (List.mem_of_getElem? (i := 20) rfl))) (hw _ (List.mem_of_getElem? (i := 2) rfl)) (ty := .long) (by decide) rfl rfl (g := (mkF m 7 #[.val (.ref o), .val (.long by0), .second, .val (.long now), .second, .unset, .unset, .unset, .unset] [(.long (t_ + (1 : Int64))), (.ref o)])) rfl rfl (hb hby d3_7)
  have h5 : Exa Z h4 o "com/example/ballast/ballast/database/CompactionPolicy" := hE.wr W4
  have h6 : Sta Z h4 "com/example/ballast/ballast/database/CompactionPolicy" "MIN_NANOS" "J" (.long (600000000000 : Int64)) := hS.wr W4
  have h7 : Fld Z h4 o "com/example/ballast/ballast/database/CompactionPolicy" "baseBytes" "J" (.long b_) := hb_.other W4 (Or.inr (sn_4 hw))
  have h8 : Fld Z h4 o "com/example/ballast/ballast/database/CompactionPolicy" "since" "J" (.long s_) := hs_.other W4 (Or.inr (sn_5 hw))
  have h9 : Fld Z h4 o "com/example/ballast/ballast/database/CompactionPolicy" "transactions" "J" (.long (t_ + (1 : Int64))) := ht_.same W4
  have K4 : Keep h0 h4 [o] := K0.wr W4 (Or.inl (List.mem_of_getElem? (i := 0) rfl))
  have N4 := Fr.snoc X4 N0 hG
  refine Go.st st4 ?_
  show Go p e below s Q 0 0 (T4.setTop (mkF m 10 #[.val (.ref o), .val (.long by0), .second, .val (.long now), .second, .unset, .unset, .unset, .unset] []))
  refine Go.st (fun _ k => XS.lloadN X4.here hx rfl (hb hby d3_10) rfl k) ?_
  show Go p e below s Q 0 0 (T4.setTop (mkF m 11 #[.val (.ref o), .val (.long by0), .second, .val (.long now), .second, .unset, .unset, .unset, .unset] [(.long now)]))
  refine Go.st (fun _ k => XS.aloadN X4.here hx rfl (hb hby d3_11) rfl rfl k) ?_
  show Go p e below s Q 0 0 (T4.setTop (mkF m 12 #[.val (.ref o), .val (.long by0), .second, .val (.long now), .second, .unset, .unset, .unset, .unset] [(.ref o), (.long now)]))
  obtain ⟨T10, X10, e10, st10⟩ := getF X4 hx hZ hown (host := "") (Or.inl (hw _ (List.mem_of_getElem? (i := 12) rfl))) Via.refl e4 h8 (g := (mkF m 12 #[.val (.ref o), .val (.long by0), .second, .val (.long now), .second, .unset, .unset, .unset, .unset] [(.ref o), (.long now)])) rfl rfl (hb hby d3_12)
  refine Go.st st10 ?_
  show Go p e below s Q 0 0 (T10.setTop (mkF m 15 #[.val (.ref o), .val (.long by0), .second, .val (.long now), .second, .unset, .unset, .unset, .unset] [(.long s_), (.long now)]))
  refine Go.st (fun _ k => XS.lsub X10.here hx rfl (hb hby d3_15) rfl k) ?_
  show Go p e below s Q 0 0 (T10.setTop (mkF m 16 #[.val (.ref o), .val (.long by0), .second, .val (.long now), .second, .unset, .unset, .unset, .unset] [(.long (now - s_))]))
  refine Go.st (fun _ k => XS.lstore X10.here hx rfl (hb hby d3_16) rfl (l' := #[.val (.ref o), .val (.long by0), .second, .val (.long now), .second, .val (.long (now - s_)), .second, .unset, .unset]) rfl k) ?_
  show Go p e below s Q 0 0 (T10.setTop (mkF m 18 #[.val (.ref o), .val (.long by0), .second, .val (.long now), .second, .val (.long (now - s_)), .second, .unset, .unset] []))
  refine Go.st (fun _ k => XS.lloadN X10.here hx rfl (hb hby d3_18) rfl k) ?_
  show Go p e below s Q 0 0 (T10.setTop (mkF m 19 #[.val (.ref o), .val (.long by0), .second, .val (.long now), .second, .val (.long (now - s_)), .second, .unset, .unset] [(.long by0)]))
  refine Go.st (X10.ldc2Long hx hown (mvT hZ (hw _ (List.mem_of_getElem? (i := 21) rfl))) (g := (mkF m 19 #[.val (.ref o), .val (.long by0), .second, .val (.long now), .second, .val (.long (now - s_)), .second, .unset, .unset] [(.long by0)])) rfl (hb hby d3_19)) ?_
  show Go p e below s Q 0 0 (T10.setTop (mkF m 22 #[.val (.ref o), .val (.long by0), .second, .val (.long now), .second, .val (.long (now - s_)), .second, .unset, .unset] [(.long (2 : Int64)), (.long by0)]))
  refine Go.st (fun _ k => XS.aloadN X10.here hx rfl (hb hby d3_22) rfl rfl k) ?_
  show Go p e below s Q 0 0 (T10.setTop (mkF m 23 #[.val (.ref o), .val (.long by0), .second, .val (.long now), .second, .val (.long (now - s_)), .second, .unset, .unset] [(.ref o), (.long (2 : Int64)), (.long by0)]))
  obtain ⟨T11, X11, e11, st11⟩ := getF X10 hx hZ hown (host := "") (Or.inl (hw _ (List.mem_of_getElem? (i := 10) rfl))) Via.refl e10 h7 (g := (mkF m 23 #[.val (.ref o), .val (.long by0), .second, .val (.long now), .second, .val (.long (now - s_)), .second, .unset, .unset] [(.ref o), (.long (2 : Int64)), (.long by0)])) rfl rfl (hb hby d3_23)
  refine Go.st st11 ?_
  show Go p e below s Q 0 0 (T11.setTop (mkF m 26 #[.val (.ref o), .val (.long by0), .second, .val (.long now), .second, .val (.long (now - s_)), .second, .unset, .unset] [(.long b_), (.long (2 : Int64)), (.long by0)]))
  refine Go.st (fun _ k => XS.lmul X11.here hx rfl (hb hby d3_26) rfl k) ?_
  show Go p e below s Q 0 0 (T11.setTop (mkF m 27 #[.val (.ref o), .val (.long by0), .second, .val (.long now), .second, .val (.long (now - s_)), .second, .unset, .unset] [(.long ((2 : Int64) * b_)), (.long by0)]))
  refine Go.st (fun _ k => XS.lcmp X11.here hx rfl (hb hby d3_27) rfl k) ?_
  show Go p e below s Q 0 0 (T11.setTop (mkF m 28 #[.val (.ref o), .val (.long by0), .second, .val (.long now), .second, .val (.long (now - s_)), .second, .unset, .unset] [(.int (lcmpW by0 ((2 : Int64) * b_)))]))
  have f12 := liJ_2
  have f13 := rng64 b_
  have f14 : (((2 : Int64) * b_).toInt - 2 * b_.toInt) % 18446744073709551616 = 0 := (by have q := c_lmul (2 : Int64) b_; rw [liJ_2] at q; exact q)
  have f15 := rng64 ((2 : Int64) * b_)
  by_cases c16 : ((2 : Int64) * b_).toInt < by0.toInt
  ·
    refine Go.st (fun _ k => XS.ifNo X11.here hx rfl (hb hby d3_28) rfl ((if0 _ _).trans (tlt ((lw_gt by0 ((2 : Int64) * b_)).mpr (ltJ rfl rfl c16))).2.2.2) k) ?_
    show Go p e below s Q 0 0 (T11.setTop (mkF m 31 #[.val (.ref o), .val (.long by0), .second, .val (.long now), .second, .val (.long (now - s_)), .second, .unset, .unset] []))
    refine Go.st (fun _ k => XS.lloadN X11.here hx rfl (hb hby d3_31) rfl k) ?_
    show Go p e below s Q 0 0 (T11.setTop (mkF m 32 #[.val (.ref o), .val (.long by0), .second, .val (.long now), .second, .val (.long (now - s_)), .second, .unset, .unset] [(.long by0)]))
    refine Go.st (X11.ldc2Long hx hown (mvT hZ (hw _ (List.mem_of_getElem? (i := 22) rfl))) (g := (mkF m 32 #[.val (.ref o), .val (.long by0), .second, .val (.long now), .second, .val (.long (now - s_)), .second, .unset, .unset] [(.long by0)])) rfl (hb hby d3_32)) ?_
    show Go p e below s Q 0 0 (T11.setTop (mkF m 35 #[.val (.ref o), .val (.long by0), .second, .val (.long now), .second, .val (.long (now - s_)), .second, .unset, .unset] [(.long (10485760 : Int64)), (.long by0)]))
    refine Go.st (fun _ k => XS.lcmp X11.here hx rfl (hb hby d3_35) rfl k) ?_
    show Go p e below s Q 0 0 (T11.setTop (mkF m 36 #[.val (.ref o), .val (.long by0), .second, .val (.long now), .second, .val (.long (now - s_)), .second, .unset, .unset] [(.int (lcmpW by0 (10485760 : Int64)))]))
    have f17 := liJ_10485760
    by_cases c18 : by0.toInt < 10485760
    ·
      refine Go.st (fun _ k => XS.ifYes X11.here hx rfl (pc0 := 36) (pc' := 43) rfl (hb hby d3_36) rfl ((if0 _ _).trans (tlt ((lw_lt by0 (10485760 : Int64)).mpr (ltJ rfl liJ_10485760 c18))).1) (by decide) (by decide) k) ?_
      show Go p e below s Q 0 0 (T11.setTop (mkF m 43 #[.val (.ref o), .val (.long by0), .second, .val (.long now), .second, .val (.long (now - s_)), .second, .unset, .unset] []))
      refine Go.st (fun _ k => XS.iconst X11.here hx rfl (hb hby d3_43) k) ?_
      show Go p e below s Q 0 0 (T11.setTop (mkF m 44 #[.val (.ref o), .val (.long by0), .second, .val (.long now), .second, .val (.long (now - s_)), .second, .unset, .unset] [(.int (0 : Int32))]))
      refine Go.st (fun _ k => XS.istore X11.here hx rfl (hb hby d3_44) rfl (l' := #[.val (.ref o), .val (.long by0), .second, .val (.long now), .second, .val (.long (now - s_)), .second, .val (.int (0 : Int32)), .unset]) rfl k) ?_
      show Go p e below s Q 0 0 (T11.setTop (mkF m 46 #[.val (.ref o), .val (.long by0), .second, .val (.long now), .second, .val (.long (now - s_)), .second, .val (.int (0 : Int32)), .unset] []))
      refine Go.st (fun _ k => XS.aloadN X11.here hx rfl (hb hby d3_46) rfl rfl k) ?_
      show Go p e below s Q 0 0 (T11.setTop (mkF m 47 #[.val (.ref o), .val (.long by0), .second, .val (.long now), .second, .val (.long (now - s_)), .second, .val (.int (0 : Int32)), .unset] [(.ref o)]))
      obtain ⟨T19, X19, e19, st19⟩ := getF X11 hx hZ hown (host := "") (Or.inl (hw _ (List.mem_of_getElem? (i := 19) rfl))) Via.refl e11 h9 (g := (mkF m 47 #[.val (.ref o), .val (.long by0), .second, .val (.long now), .second, .val (.long (now - s_)), .second, .val (.int (0 : Int32)), .unset] [(.ref o)])) rfl rfl (hb hby d3_47)
      refine Go.st st19 ?_
      show Go p e below s Q 0 0 (T19.setTop (mkF m 50 #[.val (.ref o), .val (.long by0), .second, .val (.long now), .second, .val (.long (now - s_)), .second, .val (.int (0 : Int32)), .unset] [(.long (t_ + (1 : Int64)))]))
      refine Go.st (X19.ldc2Long hx hown (mvT hZ (hw _ (List.mem_of_getElem? (i := 23) rfl))) (g := (mkF m 50 #[.val (.ref o), .val (.long by0), .second, .val (.long now), .second, .val (.long (now - s_)), .second, .val (.int (0 : Int32)), .unset] [(.long (t_ + (1 : Int64)))])) rfl (hb hby d3_50)) ?_
      show Go p e below s Q 0 0 (T19.setTop (mkF m 53 #[.val (.ref o), .val (.long by0), .second, .val (.long now), .second, .val (.long (now - s_)), .second, .val (.int (0 : Int32)), .unset] [(.long (100 : Int64)), (.long (t_ + (1 : Int64)))]))
      refine Go.st (fun _ k => XS.lcmp X19.here hx rfl (hb hby d3_53) rfl k) ?_
      show Go p e below s Q 0 0 (T19.setTop (mkF m 54 #[.val (.ref o), .val (.long by0), .second, .val (.long now), .second, .val (.long (now - s_)), .second, .val (.int (0 : Int32)), .unset] [(.int (lcmpW (t_ + (1 : Int64)) (100 : Int64)))]))
      have f20 := rng64 t_
      have f21 := liJ_1
      have f22 := c_ladd t_ (1 : Int64)
      have f23 := rng64 (t_ + (1 : Int64))
      have f24 := liJ_100
      have c25 : (t_ + (1 : Int64)).toInt < 100 := by omega
      refine Go.st (fun _ k => XS.ifYes X19.here hx rfl (pc0 := 54) (pc' := 61) rfl (hb hby d3_54) rfl ((if0 _ _).trans (tlt ((lw_lt (t_ + (1 : Int64)) (100 : Int64)).mpr (ltJ rfl liJ_100 c25))).1) (by decide) (by decide) k) ?_
      show Go p e below s Q 0 0 (T19.setTop (mkF m 61 #[.val (.ref o), .val (.long by0), .second, .val (.long now), .second, .val (.long (now - s_)), .second, .val (.int (0 : Int32)), .unset] []))
      refine Go.st (fun _ k => XS.iconst X19.here hx rfl (hb hby d3_61) k) ?_
      show Go p e below s Q 0 0 (T19.setTop (mkF m 62 #[.val (.ref o), .val (.long by0), .second, .val (.long now), .second, .val (.long (now - s_)), .second, .val (.int (0 : Int32)), .unset] [(.int (0 : Int32))]))
      refine Go.st (fun _ k => XS.istore X19.here hx rfl (hb hby d3_62) rfl (l' := #[.val (.ref o), .val (.long by0), .second, .val (.long now), .second, .val (.long (now - s_)), .second, .val (.int (0 : Int32)), .val (.int (0 : Int32))]) rfl k) ?_
      show Go p e below s Q 0 0 (T19.setTop (mkF m 64 #[.val (.ref o), .val (.long by0), .second, .val (.long now), .second, .val (.long (now - s_)), .second, .val (.int (0 : Int32)), .val (.int (0 : Int32))] []))
      refine Go.st (fun _ k => XS.iload X19.here hx rfl (hb hby d3_64) rfl k) ?_
      show Go p e below s Q 0 0 (T19.setTop (mkF m 66 #[.val (.ref o), .val (.long by0), .second, .val (.long now), .second, .val (.long (now - s_)), .second, .val (.int (0 : Int32)), .val (.int (0 : Int32))] [(.int (0 : Int32))]))
      refine Go.st (fun _ k => XS.ifYes X19.here hx rfl (pc0 := 66) (pc' := 83) rfl (hb hby d3_66) rfl ((if0 _ _).trans (teq (eqI liI_0 liI_0 (by decide))).1) (by decide) (by decide) k) ?_
      show Go p e below s Q 0 0 (T19.setTop (mkF m 83 #[.val (.ref o), .val (.long by0), .second, .val (.long now), .second, .val (.long (now - s_)), .second, .val (.int (0 : Int32)), .val (.int (0 : Int32))] []))
      refine Go.st (fun _ k => XS.iload X19.here hx rfl (hb hby d3_83) rfl k) ?_
      show Go p e below s Q 0 0 (T19.setTop (mkF m 85 #[.val (.ref o), .val (.long by0), .second, .val (.long now), .second, .val (.long (now - s_)), .second, .val (.int (0 : Int32)), .val (.int (0 : Int32))] [(.int (0 : Int32))]))
      refine Go.st (fun _ k => XS.ifYes X19.here hx rfl (pc0 := 85) (pc' := 101) rfl (hb hby d3_85) rfl ((if0 _ _).trans (teq (eqI liI_0 liI_0 (by decide))).1) (by decide) (by decide) k) ?_
      show Go p e below s Q 0 0 (T19.setTop (mkF m 101 #[.val (.ref o), .val (.long by0), .second, .val (.long now), .second, .val (.long (now - s_)), .second, .val (.int (0 : Int32)), .val (.int (0 : Int32))] []))
      refine Go.st (fun _ k => XS.iconst X19.here hx rfl (hb hby d3_101) k) ?_
      show Go p e below s Q 0 0 (T19.setTop (mkF m 102 #[.val (.ref o), .val (.long by0), .second, .val (.long now), .second, .val (.long (now - s_)), .second, .val (.int (0 : Int32)), .val (.int (0 : Int32))] [(.int (0 : Int32))]))
      have f26 := liI_0
      exact Go.retN X19 hx hlk (by simp) Bd.returns (hb hby d3_102) (z' := (0 : Int32)) (by decide) (by rw [← hQ, e19]; exact ⟨(0 : Int32), (t_ + (1 : Int64)), rfl, N4, (by omega), (by omega), K4, h5, h7, h8, h9⟩) (by decide) (by decide)
    ·
      refine Go.st (fun _ k => XS.ifNo X11.here hx rfl (hb hby d3_36) rfl ((if0 _ _).trans (flt (fun q => (nltJ rfl liJ_10485760 c18) ((lw_lt by0 (10485760 : Int64)).mp q))).1) k) ?_
      show Go p e below s Q 0 0 (T11.setTop (mkF m 39 #[.val (.ref o), .val (.long by0), .second, .val (.long now), .second, .val (.long (now - s_)), .second, .unset, .unset] []))
      refine Go.st (fun _ k => XS.iconst X11.here hx rfl (hb hby d3_39) k) ?_
      show Go p e below s Q 0 0 (T11.setTop (mkF m 40 #[.val (.ref o), .val (.long by0), .second, .val (.long now), .second, .val (.long (now - s_)), .second, .unset, .unset] [(.int (1 : Int32))]))
      refine Go.st (fun _ k => XS.goto X11.here hx rfl (pc0 := 40) (pc' := 44) rfl (hb hby d3_40) (by decide) (by decide) k) ?_
      show Go p e below s Q 0 0 (T11.setTop (mkF m 44 #[.val (.ref o), .val (.long by0), .second, .val (.long now), .second, .val (.long (now - s_)), .second, .unset, .unset] [(.int (1 : Int32))]))
      refine Go.st (fun _ k => XS.istore X11.here hx rfl (hb hby d3_44) rfl (l' := #[.val (.ref o), .val (.long by0), .second, .val (.long now), .second, .val (.long (now - s_)), .second, .val (.int (1 : Int32)), .unset]) rfl k) ?_
      show Go p e below s Q 0 0 (T11.setTop (mkF m 46 #[.val (.ref o), .val (.long by0), .second, .val (.long now), .second, .val (.long (now - s_)), .second, .val (.int (1 : Int32)), .unset] []))
      refine Go.st (fun _ k => XS.aloadN X11.here hx rfl (hb hby d3_46) rfl rfl k) ?_
      show Go p e below s Q 0 0 (T11.setTop (mkF m 47 #[.val (.ref o), .val (.long by0), .second, .val (.long now), .second, .val (.long (now - s_)), .second, .val (.int (1 : Int32)), .unset] [(.ref o)]))
      obtain ⟨T27, X27, e27, st27⟩ := getF X11 hx hZ hown (host := "") (Or.inl (hw _ (List.mem_of_getElem? (i := 19) rfl))) Via.refl e11 h9 (g := (mkF m 47 #[.val (.ref o), .val (.long by0), .second, .val (.long now), .second, .val (.long (now - s_)), .second, .val (.int (1 : Int32)), .unset] [(.ref o)])) rfl rfl (hb hby d3_47)
      refine Go.st st27 ?_
      show Go p e below s Q 0 0 (T27.setTop (mkF m 50 #[.val (.ref o), .val (.long by0), .second, .val (.long now), .second, .val (.long (now - s_)), .second, .val (.int (1 : Int32)), .unset] [(.long (t_ + (1 : Int64)))]))
      refine Go.st (X27.ldc2Long hx hown (mvT hZ (hw _ (List.mem_of_getElem? (i := 23) rfl))) (g := (mkF m 50 #[.val (.ref o), .val (.long by0), .second, .val (.long now), .second, .val (.long (now - s_)), .second, .val (.int (1 : Int32)), .unset] [(.long (t_ + (1 : Int64)))])) rfl (hb hby d3_50)) ?_
      show Go p e below s Q 0 0 (T27.setTop (mkF m 53 #[.val (.ref o), .val (.long by0), .second, .val (.long now), .second, .val (.long (now - s_)), .second, .val (.int (1 : Int32)), .unset] [(.long (100 : Int64)), (.long (t_ + (1 : Int64)))]))
      refine Go.st (fun _ k => XS.lcmp X27.here hx rfl (hb hby d3_53) rfl k) ?_
      show Go p e below s Q 0 0 (T27.setTop (mkF m 54 #[.val (.ref o), .val (.long by0), .second, .val (.long now), .second, .val (.long (now - s_)), .second, .val (.int (1 : Int32)), .unset] [(.int (lcmpW (t_ + (1 : Int64)) (100 : Int64)))]))
      have f28 := rng64 t_
      have f29 := liJ_1
      have f30 := c_ladd t_ (1 : Int64)
      have f31 := rng64 (t_ + (1 : Int64))
      have f32 := liJ_100
      have c33 : (t_ + (1 : Int64)).toInt < 100 := by omega
      refine Go.st (fun _ k => XS.ifYes X27.here hx rfl (pc0 := 54) (pc' := 61) rfl (hb hby d3_54) rfl ((if0 _ _).trans (tlt ((lw_lt (t_ + (1 : Int64)) (100 : Int64)).mpr (ltJ rfl liJ_100 c33))).1) (by decide) (by decide) k) ?_
      show Go p e below s Q 0 0 (T27.setTop (mkF m 61 #[.val (.ref o), .val (.long by0), .second, .val (.long now), .second, .val (.long (now - s_)), .second, .val (.int (1 : Int32)), .unset] []))
      refine Go.st (fun _ k => XS.iconst X27.here hx rfl (hb hby d3_61) k) ?_
      show Go p e below s Q 0 0 (T27.setTop (mkF m 62 #[.val (.ref o), .val (.long by0), .second, .val (.long now), .second, .val (.long (now - s_)), .second, .val (.int (1 : Int32)), .unset] [(.int (0 : Int32))]))
      refine Go.st (fun _ k => XS.istore X27.here hx rfl (hb hby d3_62) rfl (l' := #[.val (.ref o), .val (.long by0), .second, .val (.long now), .second, .val (.long (now - s_)), .second, .val (.int (1 : Int32)), .val (.int (0 : Int32))]) rfl k) ?_
      show Go p e below s Q 0 0 (T27.setTop (mkF m 64 #[.val (.ref o), .val (.long by0), .second, .val (.long now), .second, .val (.long (now - s_)), .second, .val (.int (1 : Int32)), .val (.int (0 : Int32))] []))
      refine Go.st (fun _ k => XS.iload X27.here hx rfl (hb hby d3_64) rfl k) ?_
      show Go p e below s Q 0 0 (T27.setTop (mkF m 66 #[.val (.ref o), .val (.long by0), .second, .val (.long now), .second, .val (.long (now - s_)), .second, .val (.int (1 : Int32)), .val (.int (0 : Int32))] [(.int (1 : Int32))]))
      refine Go.st (fun _ k => XS.ifNo X27.here hx rfl (hb hby d3_66) rfl ((if0 _ _).trans (feq (neI liI_1 liI_0 (by decide))).1) k) ?_
      show Go p e below s Q 0 0 (T27.setTop (mkF m 69 #[.val (.ref o), .val (.long by0), .second, .val (.long now), .second, .val (.long (now - s_)), .second, .val (.int (1 : Int32)), .val (.int (0 : Int32))] []))
      refine Go.st (fun _ k => XS.iload X27.here hx rfl (hb hby d3_69) rfl k) ?_
      show Go p e below s Q 0 0 (T27.setTop (mkF m 71 #[.val (.ref o), .val (.long by0), .second, .val (.long now), .second, .val (.long (now - s_)), .second, .val (.int (1 : Int32)), .val (.int (0 : Int32))] [(.int (0 : Int32))]))
      refine Go.st (fun _ k => XS.ifNo X27.here hx rfl (hb hby d3_71) rfl ((if0 _ _).trans (teq (eqI liI_0 liI_0 (by decide))).2) k) ?_
      show Go p e below s Q 0 0 (T27.setTop (mkF m 74 #[.val (.ref o), .val (.long by0), .second, .val (.long now), .second, .val (.long (now - s_)), .second, .val (.int (1 : Int32)), .val (.int (0 : Int32))] []))
      refine Go.st (fun _ k => XS.lload X27.here hx rfl (hb hby d3_74) rfl k) ?_
      show Go p e below s Q 0 0 (T27.setTop (mkF m 76 #[.val (.ref o), .val (.long by0), .second, .val (.long now), .second, .val (.long (now - s_)), .second, .val (.int (1 : Int32)), .val (.int (0 : Int32))] [(.long (now - s_))]))
      obtain ⟨T34, X34, e34, st34⟩ := getS2 X27 hx hZ hown (host := "") (Or.inl (hw _ (List.mem_of_getElem? (i := 24) rfl))) Via.refl e27 h6 (g := (mkF m 76 #[.val (.ref o), .val (.long by0), .second, .val (.long now), .second, .val (.long (now - s_)), .second, .val (.int (1 : Int32)), .val (.int (0 : Int32))] [(.long (now - s_))])) rfl (hb hby d3_76)
      refine Go.st st34 ?_
      show Go p e below s Q 0 0 (T34.setTop (mkF m 79 #[.val (.ref o), .val (.long by0), .second, .val (.long now), .second, .val (.long (now - s_)), .second, .val (.int (1 : Int32)), .val (.int (0 : Int32))] [(.long (600000000000 : Int64)), (.long (now - s_))]))
      refine Go.st (fun _ k => XS.lcmp X34.here hx rfl (hb hby d3_79) rfl k) ?_
      show Go p e below s Q 0 0 (T34.setTop (mkF m 80 #[.val (.ref o), .val (.long by0), .second, .val (.long now), .second, .val (.long (now - s_)), .second, .val (.int (1 : Int32)), .val (.int (0 : Int32))] [(.int (lcmpW (now - s_) (600000000000 : Int64)))]))
      have f35 := rng64 s_
      have f36 := c_lsub now s_
      have f37 := rng64 (now - s_)
      have f38 := liJ_600000000000
      by_cases c39 : (now - s_).toInt < 600000000000
      ·
        refine Go.st (fun _ k => XS.ifNo X34.here hx rfl (hb hby d3_80) rfl ((if0 _ _).trans (tlt ((lw_lt (now - s_) (600000000000 : Int64)).mpr (ltJ rfl liJ_600000000000 c39))).2.1) k) ?_
        show Go p e below s Q 0 0 (T34.setTop (mkF m 83 #[.val (.ref o), .val (.long by0), .second, .val (.long now), .second, .val (.long (now - s_)), .second, .val (.int (1 : Int32)), .val (.int (0 : Int32))] []))
        refine Go.st (fun _ k => XS.iload X34.here hx rfl (hb hby d3_83) rfl k) ?_
        show Go p e below s Q 0 0 (T34.setTop (mkF m 85 #[.val (.ref o), .val (.long by0), .second, .val (.long now), .second, .val (.long (now - s_)), .second, .val (.int (1 : Int32)), .val (.int (0 : Int32))] [(.int (0 : Int32))]))
        refine Go.st (fun _ k => XS.ifYes X34.here hx rfl (pc0 := 85) (pc' := 101) rfl (hb hby d3_85) rfl ((if0 _ _).trans (teq (eqI liI_0 liI_0 (by decide))).1) (by decide) (by decide) k) ?_
        show Go p e below s Q 0 0 (T34.setTop (mkF m 101 #[.val (.ref o), .val (.long by0), .second, .val (.long now), .second, .val (.long (now - s_)), .second, .val (.int (1 : Int32)), .val (.int (0 : Int32))] []))
        refine Go.st (fun _ k => XS.iconst X34.here hx rfl (hb hby d3_101) k) ?_
        show Go p e below s Q 0 0 (T34.setTop (mkF m 102 #[.val (.ref o), .val (.long by0), .second, .val (.long now), .second, .val (.long (now - s_)), .second, .val (.int (1 : Int32)), .val (.int (0 : Int32))] [(.int (0 : Int32))]))
        have f40 := liI_0
        exact Go.retN X34 hx hlk (by simp) Bd.returns (hb hby d3_102) (z' := (0 : Int32)) (by decide) (by rw [← hQ, e34]; exact ⟨(0 : Int32), (t_ + (1 : Int64)), rfl, N4, (by omega), (by omega), K4, h5, h7, h8, h9⟩) (by decide) (by decide)
      ·
        refine Go.st (fun _ k => XS.ifYes X34.here hx rfl (pc0 := 80) (pc' := 97) rfl (hb hby d3_80) rfl ((if0 _ _).trans (flt (fun q => (nltJ rfl liJ_600000000000 c39) ((lw_lt (now - s_) (600000000000 : Int64)).mp q))).2.1) (by decide) (by decide) k) ?_
        show Go p e below s Q 0 0 (T34.setTop (mkF m 97 #[.val (.ref o), .val (.long by0), .second, .val (.long now), .second, .val (.long (now - s_)), .second, .val (.int (1 : Int32)), .val (.int (0 : Int32))] []))
        refine Go.st (fun _ k => XS.iconst X34.here hx rfl (hb hby d3_97) k) ?_
        show Go p e below s Q 0 0 (T34.setTop (mkF m 98 #[.val (.ref o), .val (.long by0), .second, .val (.long now), .second, .val (.long (now - s_)), .second, .val (.int (1 : Int32)), .val (.int (0 : Int32))] [(.int (1 : Int32))]))
        refine Go.st (fun _ k => XS.goto X34.here hx rfl (pc0 := 98) (pc' := 102) rfl (hb hby d3_98) (by decide) (by decide) k) ?_
        show Go p e below s Q 0 0 (T34.setTop (mkF m 102 #[.val (.ref o), .val (.long by0), .second, .val (.long now), .second, .val (.long (now - s_)), .second, .val (.int (1 : Int32)), .val (.int (0 : Int32))] [(.int (1 : Int32))]))
        have f41 := liI_1
        exact Go.retN X34 hx hlk (by simp) Bd.returns (hb hby d3_102) (z' := (1 : Int32)) (by decide) (by rw [← hQ, e34]; exact ⟨(1 : Int32), (t_ + (1 : Int64)), rfl, N4, (by omega), (by omega), K4, h5, h7, h8, h9⟩) (by decide) (by decide)
  ·
    refine Go.st (fun _ k => XS.ifYes X11.here hx rfl (pc0 := 28) (pc' := 43) rfl (hb hby d3_28) rfl ((if0 _ _).trans (flt (fun q => (nltJ rfl rfl c16) ((lw_gt by0 ((2 : Int64) * b_)).mp q))).2.2.2) (by decide) (by decide) k) ?_
    show Go p e below s Q 0 0 (T11.setTop (mkF m 43 #[.val (.ref o), .val (.long by0), .second, .val (.long now), .second, .val (.long (now - s_)), .second, .unset, .unset] []))
    refine Go.st (fun _ k => XS.iconst X11.here hx rfl (hb hby d3_43) k) ?_
    show Go p e below s Q 0 0 (T11.setTop (mkF m 44 #[.val (.ref o), .val (.long by0), .second, .val (.long now), .second, .val (.long (now - s_)), .second, .unset, .unset] [(.int (0 : Int32))]))
    refine Go.st (fun _ k => XS.istore X11.here hx rfl (hb hby d3_44) rfl (l' := #[.val (.ref o), .val (.long by0), .second, .val (.long now), .second, .val (.long (now - s_)), .second, .val (.int (0 : Int32)), .unset]) rfl k) ?_
    show Go p e below s Q 0 0 (T11.setTop (mkF m 46 #[.val (.ref o), .val (.long by0), .second, .val (.long now), .second, .val (.long (now - s_)), .second, .val (.int (0 : Int32)), .unset] []))
    refine Go.st (fun _ k => XS.aloadN X11.here hx rfl (hb hby d3_46) rfl rfl k) ?_
    show Go p e below s Q 0 0 (T11.setTop (mkF m 47 #[.val (.ref o), .val (.long by0), .second, .val (.long now), .second, .val (.long (now - s_)), .second, .val (.int (0 : Int32)), .unset] [(.ref o)]))
    obtain ⟨T42, X42, e42, st42⟩ := getF X11 hx hZ hown (host := "") (Or.inl (hw _ (List.mem_of_getElem? (i := 19) rfl))) Via.refl e11 h9 (g := (mkF m 47 #[.val (.ref o), .val (.long by0), .second, .val (.long now), .second, .val (.long (now - s_)), .second, .val (.int (0 : Int32)), .unset] [(.ref o)])) rfl rfl (hb hby d3_47)
    refine Go.st st42 ?_
    show Go p e below s Q 0 0 (T42.setTop (mkF m 50 #[.val (.ref o), .val (.long by0), .second, .val (.long now), .second, .val (.long (now - s_)), .second, .val (.int (0 : Int32)), .unset] [(.long (t_ + (1 : Int64)))]))
    refine Go.st (X42.ldc2Long hx hown (mvT hZ (hw _ (List.mem_of_getElem? (i := 23) rfl))) (g := (mkF m 50 #[.val (.ref o), .val (.long by0), .second, .val (.long now), .second, .val (.long (now - s_)), .second, .val (.int (0 : Int32)), .unset] [(.long (t_ + (1 : Int64)))])) rfl (hb hby d3_50)) ?_
    show Go p e below s Q 0 0 (T42.setTop (mkF m 53 #[.val (.ref o), .val (.long by0), .second, .val (.long now), .second, .val (.long (now - s_)), .second, .val (.int (0 : Int32)), .unset] [(.long (100 : Int64)), (.long (t_ + (1 : Int64)))]))
    refine Go.st (fun _ k => XS.lcmp X42.here hx rfl (hb hby d3_53) rfl k) ?_
    show Go p e below s Q 0 0 (T42.setTop (mkF m 54 #[.val (.ref o), .val (.long by0), .second, .val (.long now), .second, .val (.long (now - s_)), .second, .val (.int (0 : Int32)), .unset] [(.int (lcmpW (t_ + (1 : Int64)) (100 : Int64)))]))
    have f43 := rng64 t_
    have f44 := liJ_1
    have f45 := c_ladd t_ (1 : Int64)
    have f46 := rng64 (t_ + (1 : Int64))
    have f47 := liJ_100
    have c48 : (t_ + (1 : Int64)).toInt < 100 := by omega
    refine Go.st (fun _ k => XS.ifYes X42.here hx rfl (pc0 := 54) (pc' := 61) rfl (hb hby d3_54) rfl ((if0 _ _).trans (tlt ((lw_lt (t_ + (1 : Int64)) (100 : Int64)).mpr (ltJ rfl liJ_100 c48))).1) (by decide) (by decide) k) ?_
    show Go p e below s Q 0 0 (T42.setTop (mkF m 61 #[.val (.ref o), .val (.long by0), .second, .val (.long now), .second, .val (.long (now - s_)), .second, .val (.int (0 : Int32)), .unset] []))
    refine Go.st (fun _ k => XS.iconst X42.here hx rfl (hb hby d3_61) k) ?_
    show Go p e below s Q 0 0 (T42.setTop (mkF m 62 #[.val (.ref o), .val (.long by0), .second, .val (.long now), .second, .val (.long (now - s_)), .second, .val (.int (0 : Int32)), .unset] [(.int (0 : Int32))]))
    refine Go.st (fun _ k => XS.istore X42.here hx rfl (hb hby d3_62) rfl (l' := #[.val (.ref o), .val (.long by0), .second, .val (.long now), .second, .val (.long (now - s_)), .second, .val (.int (0 : Int32)), .val (.int (0 : Int32))]) rfl k) ?_
    show Go p e below s Q 0 0 (T42.setTop (mkF m 64 #[.val (.ref o), .val (.long by0), .second, .val (.long now), .second, .val (.long (now - s_)), .second, .val (.int (0 : Int32)), .val (.int (0 : Int32))] []))
    refine Go.st (fun _ k => XS.iload X42.here hx rfl (hb hby d3_64) rfl k) ?_
    show Go p e below s Q 0 0 (T42.setTop (mkF m 66 #[.val (.ref o), .val (.long by0), .second, .val (.long now), .second, .val (.long (now - s_)), .second, .val (.int (0 : Int32)), .val (.int (0 : Int32))] [(.int (0 : Int32))]))
    refine Go.st (fun _ k => XS.ifYes X42.here hx rfl (pc0 := 66) (pc' := 83) rfl (hb hby d3_66) rfl ((if0 _ _).trans (teq (eqI liI_0 liI_0 (by decide))).1) (by decide) (by decide) k) ?_
    show Go p e below s Q 0 0 (T42.setTop (mkF m 83 #[.val (.ref o), .val (.long by0), .second, .val (.long now), .second, .val (.long (now - s_)), .second, .val (.int (0 : Int32)), .val (.int (0 : Int32))] []))
    refine Go.st (fun _ k => XS.iload X42.here hx rfl (hb hby d3_83) rfl k) ?_
    show Go p e below s Q 0 0 (T42.setTop (mkF m 85 #[.val (.ref o), .val (.long by0), .second, .val (.long now), .second, .val (.long (now - s_)), .second, .val (.int (0 : Int32)), .val (.int (0 : Int32))] [(.int (0 : Int32))]))
    refine Go.st (fun _ k => XS.ifYes X42.here hx rfl (pc0 := 85) (pc' := 101) rfl (hb hby d3_85) rfl ((if0 _ _).trans (teq (eqI liI_0 liI_0 (by decide))).1) (by decide) (by decide) k) ?_
    show Go p e below s Q 0 0 (T42.setTop (mkF m 101 #[.val (.ref o), .val (.long by0), .second, .val (.long now), .second, .val (.long (now - s_)), .second, .val (.int (0 : Int32)), .val (.int (0 : Int32))] []))
    refine Go.st (fun _ k => XS.iconst X42.here hx rfl (hb hby d3_101) k) ?_
    show Go p e below s Q 0 0 (T42.setTop (mkF m 102 #[.val (.ref o), .val (.long by0), .second, .val (.long now), .second, .val (.long (now - s_)), .second, .val (.int (0 : Int32)), .val (.int (0 : Int32))] [(.int (0 : Int32))]))
    have f49 := liI_0
    exact Go.retN X42 hx hlk (by simp) Bd.returns (hb hby d3_102) (z' := (0 : Int32)) (by decide) (by rw [← hQ, e42]; exact ⟨(0 : Int32), (t_ + (1 : Int64)), rfl, N4, (by omega), (by omega), K4, h5, h7, h8, h9⟩) (by decide) (by decide)
theorem d5_0 : decode prog_7_method_3_code 0 = .ok (.aload_n 0, 1) := by decide +kernel
theorem d5_1 : decode prog_7_method_3_code 1 = .ok (.lload_n 1, 1) := by decide +kernel
theorem d5_2 : decode prog_7_method_3_code 2 = .ok (.putfield 7, 3) := by decide +kernel
theorem d5_5 : decode prog_7_method_3_code 5 = .ok (.aload_n 0, 1) := by decide +kernel
theorem d5_6 : decode prog_7_method_3_code 6 = .ok (.lload_n 3, 1) := by decide +kernel
theorem d5_7 : decode prog_7_method_3_code 7 = .ok (.putfield 13, 3) := by decide +kernel
theorem d5_10 : decode prog_7_method_3_code 10 = .ok (.aload_n 0, 1) := by decide +kernel
theorem d5_11 : decode prog_7_method_3_code 11 = .ok (.lconst 0, 1) := by decide +kernel
theorem d5_12 : decode prog_7_method_3_code 12 = .ok (.putfield 16, 3) := by decide +kernel
theorem d5_15 : decode prog_7_method_3_code 15 = .ok (.return_, 1) := by decide +kernel
theorem ef_rm5 (m : MethodId) (o : Addr) (by0 : Int64) (si0 : Int64) : entryFrame m #[(.ref o), (.long by0), (.long si0)] 5 = mkF m 0 #[.val (.ref o), .val (.long by0), .second, .val (.long si0), .second] [] := by first | (simp [entryFrame, mkF, argsToLocals, Value.category]; done) | rfl
def Q5 (Z : State) (o : Addr) (by0 : Int64) (si0 : Int64) (b_ : Int64) (s_ : Int64) (t_ : Int64) (h0 : Heap) (n0 : Nat) (vv : Option Value) (h : Heap) (LL : List Loc) : Prop := vv = none ∧ Fr n0 LL ∧ Keep h0 h [o] ∧ (Exa Z h o "com/example/ballast/ballast/database/CompactionPolicy") ∧ (Fld Z h o "com/example/ballast/ballast/database/CompactionPolicy" "baseBytes" "J" (.long by0)) ∧ (Fld Z h o "com/example/ballast/ballast/database/CompactionPolicy" "since" "J" (.long si0)) ∧ (Fld Z h o "com/example/ballast/ballast/database/CompactionPolicy" "transactions" "J" (.long (0 : Int64)))
set_option maxRecDepth 65536 in
set_option maxHeartbeats 40000000 in
theorem rm5 (l : Launch) (Z : State) (a0 : Array Value) (hw : ∀ d ∈ tables_1, d.before a0 Z = true) (ws : List Jvm.Cond) (o : Addr) (by0 : Int64) (si0 : Int64) (b_ : Int64) (s_ : Int64) (t_ : Int64) (h0 : Heap) (n0 : Nat) (Z0 : n0 ≤ h0.size) (hE : Exa Z h0 o "com/example/ballast/ballast/database/CompactionPolicy") (hG : n0 ≤ o) (hb_ : Fld Z h0 o "com/example/ballast/ballast/database/CompactionPolicy" "baseBytes" "J" (.long b_)) (hs_ : Fld Z h0 o "com/example/ballast/ballast/database/CompactionPolicy" "since" "J" (.long s_)) (ht_ : Fld Z h0 o "com/example/ballast/ballast/database/CompactionPolicy" "transactions" "J" (.long t_)) :
    MetFree l (⟨"com/example/ballast/ballast/database/CompactionPolicy", "compacted", "(JJ)V"⟩ : MethodName) (head1 (Jvm.Cond.code (⟨"com/example/ballast/ballast/database/CompactionPolicy", "compacted", "(JJ)V"⟩ : MethodName) prog_7_method_3_code 5 none :: ws) ({ frames := 0, cells := 0, slots := 0, locals := 0 } : Room)) (fun aa UU => aa = #[(.ref o), (.long by0), (.long si0)] ∧ Z.Warmed39 UU.vm ∧ UU.heap = h0) (fun _ _ _ _ _ => True) (fun _ UU oo UU' => ∃ vv LL, oo = .returned vv ∧ Q5 Z o by0 si0 b_ s_ t_ h0 n0 vv UU'.heap LL ∧ FrameEnd UU oo UU' LL 0 0) := by
  refine MetFree.of_bodySF (plainFor_of_name pn_0) hisR ?_
  intro p e s m args below meth c s₁ Bd hml0 hP hK
  obtain ⟨rfl, hZ, hh⟩ := hP
  have hx := Bd.exec
  have hby := Bd.bytes
  have hlk : meth.locks = false := BodyLoose.notSynchronized Bd
  have hml : c.maxLocals = 5 := hml0
  have hown : s.vm.findClass "com/example/ballast/ballast/database/CompactionPolicy" = some m.cls := findClass_of_methodNamed Bd.named
  have hnm := (name_of_methodNamed Bd.named Bd.method).1
  have X0 : Stand p l e ({ frames := 0, cells := 0, slots := 0, locals := 0 } : Room) s m #[(.ref o), (.long by0), (.long si0)] below meth c s₁ [] 0 0 := Stand.of_body Bd
  have e0 : s₁.heap = h0 := by rw [← hh, Bd.state]; rfl
  have N0 := Fr.nil n0
  have K0 : Keep h0 h0 [o] := Keep.refl h0 _
  refine (?_ : Go p e below s (Q5 Z o by0 si0 b_ s_ t_ h0 n0) 0 0 (s₁.setTop (entryFrame m #[(.ref o), (.long by0), (.long si0)] 5)))
  rw [ef_rm5]
  generalize hQ : Q5 Z o by0 si0 b_ s_ t_ h0 n0 = Q
  show Go p e below s Q 0 0 (s₁.setTop (mkF m 0 #[.val (.ref o), .val (.long by0), .second, .val (.long si0), .second] []))
  have f1 := rng64 by0
  have f2 := rng64 si0
  refine Go.st (fun _ k => XS.aloadN X0.here hx rfl (hb hby d5_0) rfl rfl k) ?_
  show Go p e below s Q 0 0 (s₁.setTop (mkF m 1 #[.val (.ref o), .val (.long by0), .second, .val (.long si0), .second] [(.ref o)]))
  refine Go.st (fun _ k => XS.lloadN X0.here hx rfl (hb hby d5_1) rfl k) ?_
  show Go p e below s Q 0 0 (s₁.setTop (mkF m 2 #[.val (.ref o), .val (.long by0), .second, .val (.long si0), .second] [(.long by0), (.ref o)]))
  obtain ⟨T3, h3, X3, e3, W3, st3⟩ := putF X0 hx hZ hown (host := "") (Or.inl (hw _ (List.mem_of_getElem? (i := 10) rfl))) Via.refl e0 hb_ hE (Or.inl (hw _ (List.mem_of_getElem? (i := 11) rfl))) (hw _ (List.mem_of_getElem? (i := 2) rfl)) (ty := .long) (by decide) rfl rfl (g := (mkF m 2 #[.val (.ref o), .val (.long by0), .second, .val (.long si0), .second] [(.long by0), (.ref o)])) rfl rfl (hb hby d5_2)
  have h4 : Exa Z h3 o "com/example/ballast/ballast/database/CompactionPolicy" := hE.wr W3
  have h5 : Fld Z h3 o "com/example/ballast/ballast/database/CompactionPolicy" "baseBytes" "J" (.long by0) := hb_.same W3
  have h6 : Fld Z h3 o "com/example/ballast/ballast/database/CompactionPolicy" "since" "J" (.long s_) := hs_.other W3 (Or.inr (sn_0 hw))
  have h7 : Fld Z h3 o "com/example/ballast/ballast/database/CompactionPolicy" "transactions" "J" (.long t_) := ht_.other W3 (Or.inr (sn_1 hw))
  have K3 : Keep h0 h3 [o] := K0.wr W3 (Or.inl (List.mem_of_getElem? (i := 0) rfl))
  have N3 := Fr.snoc X3 N0 hG
  refine Go.st st3 ?_
  show Go p e below s Q 0 0 (T3.setTop (mkF m 5 #[.val (.ref o), .val (.long by0), .second, .val (.long si0), .second] []))
  refine Go.st (fun _ k => XS.aloadN X3.here hx rfl (hb hby d5_5) rfl rfl k) ?_
  show Go p e below s Q 0 0 (T3.setTop (mkF m 6 #[.val (.ref o), .val (.long by0), .second, .val (.long si0), .second] [(.ref o)]))
  refine Go.st (fun _ k => XS.lloadN X3.here hx rfl (hb hby d5_6) rfl k) ?_
  show Go p e below s Q 0 0 (T3.setTop (mkF m 7 #[.val (.ref o), .val (.long by0), .second, .val (.long si0), .second] [(.long si0), (.ref o)]))
  obtain ⟨T8, h8, X8, e8, W8, st8⟩ := putF X3 hx hZ hown (host := "") (Or.inl (hw _ (List.mem_of_getElem? (i := 12) rfl))) Via.refl e3 h6 h4 (Or.inl (hw _ (List.mem_of_getElem? (i := 13) rfl))) (hw _ (List.mem_of_getElem? (i := 2) rfl)) (ty := .long) (by decide) rfl rfl (g := (mkF m 7 #[.val (.ref o), .val (.long by0), .second, .val (.long si0), .second] [(.long si0), (.ref o)])) rfl rfl (hb hby d5_7)
  have h9 : Exa Z h8 o "com/example/ballast/ballast/database/CompactionPolicy" := h4.wr W8
  have h10 : Fld Z h8 o "com/example/ballast/ballast/database/CompactionPolicy" "baseBytes" "J" (.long by0) := h5.other W8 (Or.inr (sn_2 hw))
  have h11 : Fld Z h8 o "com/example/ballast/ballast/database/CompactionPolicy" "since" "J" (.long si0) := h6.same W8
  have h12 : Fld Z h8 o "com/example/ballast/ballast/database/CompactionPolicy" "transactions" "J" (.long t_) := h7.other W8 (Or.inr (sn_3 hw))
  have K8 : Keep h0 h8 [o] := K3.wr W8 (Or.inl (List.mem_of_getElem? (i := 0) rfl))
  have N8 := Fr.snoc X8 N3 hG
  refine Go.st st8 ?_
  show Go p e below s Q 0 0 (T8.setTop (mkF m 10 #[.val (.ref o), .val (.long by0), .second, .val (.long si0), .second] []))
  refine Go.st (fun _ k => XS.aloadN X8.here hx rfl (hb hby d5_10) rfl rfl k) ?_
  show Go p e below s Q 0 0 (T8.setTop (mkF m 11 #[.val (.ref o), .val (.long by0), .second, .val (.long si0), .second] [(.ref o)]))
  refine Go.st (fun _ k => XS.lconst X8.here hx rfl (hb hby d5_11) k) ?_
  show Go p e below s Q 0 0 (T8.setTop (mkF m 12 #[.val (.ref o), .val (.long by0), .second, .val (.long si0), .second] [(.long (0 : Int64)), (.ref o)]))
  obtain ⟨T13, h13, X13, e13, W13, st13⟩ := putF X8 hx hZ hown (host := "") (Or.inl (hw _ (List.mem_of_getElem? (i := 19) rfl))) Via.refl e8 h12 h9 (Or.inl (hw _ (List.mem_of_getElem? (i := 20) rfl))) (hw _ (List.mem_of_getElem? (i := 2) rfl)) (ty := .long) (by decide) rfl rfl (g := (mkF m 12 #[.val (.ref o), .val (.long by0), .second, .val (.long si0), .second] [(.long (0 : Int64)), (.ref o)])) rfl rfl (hb hby d5_12)
  have h14 : Exa Z h13 o "com/example/ballast/ballast/database/CompactionPolicy" := h9.wr W13
  have h15 : Fld Z h13 o "com/example/ballast/ballast/database/CompactionPolicy" "baseBytes" "J" (.long by0) := h10.other W13 (Or.inr (sn_4 hw))
  have h16 : Fld Z h13 o "com/example/ballast/ballast/database/CompactionPolicy" "since" "J" (.long si0) := h11.other W13 (Or.inr (sn_5 hw))
  have h17 : Fld Z h13 o "com/example/ballast/ballast/database/CompactionPolicy" "transactions" "J" (.long (0 : Int64)) := h12.same W13
  have K13 : Keep h0 h13 [o] := K8.wr W13 (Or.inl (List.mem_of_getElem? (i := 0) rfl))
  have N13 := Fr.snoc X13 N8 hG
  refine Go.st st13 ?_
  show Go p e below s Q 0 0 (T13.setTop (mkF m 15 #[.val (.ref o), .val (.long by0), .second, .val (.long si0), .second] []))
  exact Go.retV X13 hx hlk Bd.returns (hb hby d5_15) (by rw [← hQ, e13]; exact ⟨rfl, N13, K13, h14, h15, h16, h17⟩) (by decide) (by decide)
theorem d6_0 : decode prog_7_method_4_code 0 = .ok (.aload_n 0, 1) := by decide +kernel
theorem d6_1 : decode prog_7_method_4_code 1 = .ok (.lload_n 1, 1) := by decide +kernel
theorem d6_2 : decode prog_7_method_4_code 2 = .ok (.putfield 13, 3) := by decide +kernel
theorem d6_5 : decode prog_7_method_4_code 5 = .ok (.aload_n 0, 1) := by decide +kernel
theorem d6_6 : decode prog_7_method_4_code 6 = .ok (.lconst 0, 1) := by decide +kernel
theorem d6_7 : decode prog_7_method_4_code 7 = .ok (.putfield 16, 3) := by decide +kernel
theorem d6_10 : decode prog_7_method_4_code 10 = .ok (.return_, 1) := by decide +kernel
theorem ef_rm6 (m : MethodId) (o : Addr) (si0 : Int64) : entryFrame m #[(.ref o), (.long si0)] 3 = mkF m 0 #[.val (.ref o), .val (.long si0), .second] [] := by first | (simp [entryFrame, mkF, argsToLocals, Value.category]; done) | rfl
def Q6 (Z : State) (o : Addr) (si0 : Int64) (b_ : Int64) (s_ : Int64) (t_ : Int64) (h0 : Heap) (n0 : Nat) (vv : Option Value) (h : Heap) (LL : List Loc) : Prop := vv = none ∧ Fr n0 LL ∧ Keep h0 h [o] ∧ (Exa Z h o "com/example/ballast/ballast/database/CompactionPolicy") ∧ (Fld Z h o "com/example/ballast/ballast/database/CompactionPolicy" "baseBytes" "J" (.long b_)) ∧ (Fld Z h o "com/example/ballast/ballast/database/CompactionPolicy" "since" "J" (.long si0)) ∧ (Fld Z h o "com/example/ballast/ballast/database/CompactionPolicy" "transactions" "J" (.long (0 : Int64)))
set_option maxRecDepth 65536 in
set_option maxHeartbeats 40000000 in
theorem rm6 (l : Launch) (Z : State) (a0 : Array Value) (hw : ∀ d ∈ tables_1, d.before a0 Z = true) (ws : List Jvm.Cond) (o : Addr) (si0 : Int64) (b_ : Int64) (s_ : Int64) (t_ : Int64) (h0 : Heap) (n0 : Nat) (Z0 : n0 ≤ h0.size) (hE : Exa Z h0 o "com/example/ballast/ballast/database/CompactionPolicy") (hG : n0 ≤ o) (hb_ : Fld Z h0 o "com/example/ballast/ballast/database/CompactionPolicy" "baseBytes" "J" (.long b_)) (hs_ : Fld Z h0 o "com/example/ballast/ballast/database/CompactionPolicy" "since" "J" (.long s_)) (ht_ : Fld Z h0 o "com/example/ballast/ballast/database/CompactionPolicy" "transactions" "J" (.long t_)) :
    MetFree l (⟨"com/example/ballast/ballast/database/CompactionPolicy", "failed", "(J)V"⟩ : MethodName) (head1 (Jvm.Cond.code (⟨"com/example/ballast/ballast/database/CompactionPolicy", "failed", "(J)V"⟩ : MethodName) prog_7_method_4_code 3 none :: ws) ({ frames := 0, cells := 0, slots := 0, locals := 0 } : Room)) (fun aa UU => aa = #[(.ref o), (.long si0)] ∧ Z.Warmed39 UU.vm ∧ UU.heap = h0) (fun _ _ _ _ _ => True) (fun _ UU oo UU' => ∃ vv LL, oo = .returned vv ∧ Q6 Z o si0 b_ s_ t_ h0 n0 vv UU'.heap LL ∧ FrameEnd UU oo UU' LL 0 0) := by
  refine MetFree.of_bodySF (plainFor_of_name pn_0) hisR ?_
  intro p e s m args below meth c s₁ Bd hml0 hP hK
  obtain ⟨rfl, hZ, hh⟩ := hP
  have hx := Bd.exec
  have hby := Bd.bytes
  have hlk : meth.locks = false := BodyLoose.notSynchronized Bd
  have hml : c.maxLocals = 3 := hml0
  have hown : s.vm.findClass "com/example/ballast/ballast/database/CompactionPolicy" = some m.cls := findClass_of_methodNamed Bd.named
  have hnm := (name_of_methodNamed Bd.named Bd.method).1
  have X0 : Stand p l e ({ frames := 0, cells := 0, slots := 0, locals := 0 } : Room) s m #[(.ref o), (.long si0)] below meth c s₁ [] 0 0 := Stand.of_body Bd
  have e0 : s₁.heap = h0 := by rw [← hh, Bd.state]; rfl
  have N0 := Fr.nil n0
  have K0 : Keep h0 h0 [o] := Keep.refl h0 _
  refine (?_ : Go p e below s (Q6 Z o si0 b_ s_ t_ h0 n0) 0 0 (s₁.setTop (entryFrame m #[(.ref o), (.long si0)] 3)))
  rw [ef_rm6]
  generalize hQ : Q6 Z o si0 b_ s_ t_ h0 n0 = Q
  show Go p e below s Q 0 0 (s₁.setTop (mkF m 0 #[.val (.ref o), .val (.long si0), .second] []))
  have f1 := rng64 si0
  refine Go.st (fun _ k => XS.aloadN X0.here hx rfl (hb hby d6_0) rfl rfl k) ?_
  show Go p e below s Q 0 0 (s₁.setTop (mkF m 1 #[.val (.ref o), .val (.long si0), .second] [(.ref o)]))
  refine Go.st (fun _ k => XS.lloadN X0.here hx rfl (hb hby d6_1) rfl k) ?_
  show Go p e below s Q 0 0 (s₁.setTop (mkF m 2 #[.val (.ref o), .val (.long si0), .second] [(.long si0), (.ref o)]))
  obtain ⟨T2, h2, X2, e2, W2, st2⟩ := putF X0 hx hZ hown (host := "") (Or.inl (hw _ (List.mem_of_getElem? (i := 12) rfl))) Via.refl e0 hs_ hE (Or.inl (hw _ (List.mem_of_getElem? (i := 13) rfl))) (hw _ (List.mem_of_getElem? (i := 2) rfl)) (ty := .long) (by decide) rfl rfl (g := (mkF m 2 #[.val (.ref o), .val (.long si0), .second] [(.long si0), (.ref o)])) rfl rfl (hb hby d6_2)
  have h3 : Exa Z h2 o "com/example/ballast/ballast/database/CompactionPolicy" := hE.wr W2
  have h4 : Fld Z h2 o "com/example/ballast/ballast/database/CompactionPolicy" "baseBytes" "J" (.long b_) := hb_.other W2 (Or.inr (sn_2 hw))
  have h5 : Fld Z h2 o "com/example/ballast/ballast/database/CompactionPolicy" "since" "J" (.long si0) := hs_.same W2
  have h6 : Fld Z h2 o "com/example/ballast/ballast/database/CompactionPolicy" "transactions" "J" (.long t_) := ht_.other W2 (Or.inr (sn_3 hw))
  have K2 : Keep h0 h2 [o] := K0.wr W2 (Or.inl (List.mem_of_getElem? (i := 0) rfl))
  have N2 := Fr.snoc X2 N0 hG
  refine Go.st st2 ?_
  show Go p e below s Q 0 0 (T2.setTop (mkF m 5 #[.val (.ref o), .val (.long si0), .second] []))
  refine Go.st (fun _ k => XS.aloadN X2.here hx rfl (hb hby d6_5) rfl rfl k) ?_
  show Go p e below s Q 0 0 (T2.setTop (mkF m 6 #[.val (.ref o), .val (.long si0), .second] [(.ref o)]))
  refine Go.st (fun _ k => XS.lconst X2.here hx rfl (hb hby d6_6) k) ?_
  show Go p e below s Q 0 0 (T2.setTop (mkF m 7 #[.val (.ref o), .val (.long si0), .second] [(.long (0 : Int64)), (.ref o)]))
  obtain ⟨T7, h7, X7, e7, W7, st7⟩ := putF X2 hx hZ hown (host := "") (Or.inl (hw _ (List.mem_of_getElem? (i := 19) rfl))) Via.refl e2 h6 h3 (Or.inl (hw _ (List.mem_of_getElem? (i := 20) rfl))) (hw _ (List.mem_of_getElem? (i := 2) rfl)) (ty := .long) (by decide) rfl rfl (g := (mkF m 7 #[.val (.ref o), .val (.long si0), .second] [(.long (0 : Int64)), (.ref o)])) rfl rfl (hb hby d6_7)
  have h8 : Exa Z h7 o "com/example/ballast/ballast/database/CompactionPolicy" := h3.wr W7
  have h9 : Fld Z h7 o "com/example/ballast/ballast/database/CompactionPolicy" "baseBytes" "J" (.long b_) := h4.other W7 (Or.inr (sn_4 hw))
  have h10 : Fld Z h7 o "com/example/ballast/ballast/database/CompactionPolicy" "since" "J" (.long si0) := h5.other W7 (Or.inr (sn_5 hw))
  have h11 : Fld Z h7 o "com/example/ballast/ballast/database/CompactionPolicy" "transactions" "J" (.long (0 : Int64)) := h6.same W7
  have K7 : Keep h0 h7 [o] := K2.wr W7 (Or.inl (List.mem_of_getElem? (i := 0) rfl))
  have N7 := Fr.snoc X7 N2 hG
  refine Go.st st7 ?_
  show Go p e below s Q 0 0 (T7.setTop (mkF m 10 #[.val (.ref o), .val (.long si0), .second] []))
  exact Go.retV X7 hx hlk Bd.returns (hb hby d6_10) (by rw [← hQ, e7]; exact ⟨rfl, N7, K7, h8, h9, h10, h11⟩) (by decide) (by decide)
theorem pn_1 : plainName "com/example/ballast/ballast/database/CompactionPolicyWrittenPinLaw" = true := by first | (simp [plainName, overriddenIn]; done) | decide +kernel
theorem d4_0 : decode method_2_code 0 = .ok (.lload_n 2, 1) := by decide +kernel
theorem d4_1 : decode method_2_code 1 = .ok (.lload_n 0, 1) := by decide +kernel
theorem d4_2 : decode method_2_code 2 = .ok (.lsub, 1) := by decide +kernel
theorem d4_3 : decode method_2_code 3 = .ok (.lload_n 0, 1) := by decide +kernel
theorem d4_4 : decode method_2_code 4 = .ok (.lcmp, 1) := by decide +kernel
theorem d4_5 : decode method_2_code 5 = .ok (.ifCond .le 15, 3) := by decide +kernel
theorem d4_8 : decode method_2_code 8 = .ok (.lload_n 2, 1) := by decide +kernel
theorem d4_9 : decode method_2_code 9 = .ok (.ldc2_w 7, 3) := by decide +kernel
theorem d4_12 : decode method_2_code 12 = .ok (.lcmp, 1) := by decide +kernel
theorem d4_13 : decode method_2_code 13 = .ok (.ifCond .lt 7, 3) := by decide +kernel
theorem d4_20 : decode method_2_code 20 = .ok (.iconst 0, 1) := by decide +kernel
theorem d4_21 : decode method_2_code 21 = .ok (.istore 6, 2) := by decide +kernel
theorem d4_23 : decode method_2_code 23 = .ok (.iload 6, 2) := by decide +kernel
theorem d4_25 : decode method_2_code 25 = .ok (.ifCond .eq 16, 3) := by decide +kernel
theorem d4_41 : decode method_2_code 41 = .ok (.iconst 0, 1) := by decide +kernel
theorem d4_42 : decode method_2_code 42 = .ok (.ireturn, 1) := by decide +kernel
theorem d4_16 : decode method_2_code 16 = .ok (.iconst 1, 1) := by decide +kernel
theorem d4_17 : decode method_2_code 17 = .ok (.goto 4, 3) := by decide +kernel
theorem d4_28 : decode method_2_code 28 = .ok (.lload 4, 2) := by decide +kernel
theorem d4_30 : decode method_2_code 30 = .ok (.ldc2_w 9, 3) := by decide +kernel
theorem d4_33 : decode method_2_code 33 = .ok (.lcmp, 1) := by decide +kernel
theorem d4_34 : decode method_2_code 34 = .ok (.ifCond .lt 7, 3) := by decide +kernel
theorem d4_37 : decode method_2_code 37 = .ok (.iconst 1, 1) := by decide +kernel
theorem d4_38 : decode method_2_code 38 = .ok (.goto 4, 3) := by decide +kernel
theorem ef_rm4 (m : MethodId) (ba : Int64) (by0 : Int64) (el : Int64) : entryFrame m #[(.long ba), (.long by0), (.long el)] 7 = mkF m 0 #[.val (.long ba), .second, .val (.long by0), .second, .val (.long el), .second, .unset] [] := by first | (simp [entryFrame, mkF, argsToLocals, Value.category]; done) | rfl
def Q4 (Z : State) (ba : Int64) (by0 : Int64) (el : Int64) (h0 : Heap) (n0 : Nat) (vv : Option Value) (h : Heap) (LL : List Loc) : Prop := ∃ (r : Int32), vv = some (.int r) ∧ Fr n0 LL ∧ ((r.toInt = 1 ∧ (ba.toInt < (by0 - ba).toInt ∧ 10485760 ≤ by0.toInt ∧ 600000000000 ≤ el.toInt)) ∨ (r.toInt = 0 ∧ ¬ (ba.toInt < (by0 - ba).toInt ∧ 10485760 ≤ by0.toInt ∧ 600000000000 ≤ el.toInt))) ∧ h = h0
set_option maxRecDepth 65536 in
set_option maxHeartbeats 40000000 in
theorem rm4 (l : Launch) (Z : State) (a0 : Array Value) (hw : ∀ d ∈ tables_1, d.before a0 Z = true) (ws : List Jvm.Cond) (ba : Int64) (by0 : Int64) (el : Int64) (h0 : Heap) (n0 : Nat) (Z0 : n0 ≤ h0.size) :
    MetFree l (⟨"com/example/ballast/ballast/database/CompactionPolicyWrittenPinLaw", "due", "(JJJ)Z"⟩ : MethodName) (head1 (Jvm.Cond.code (⟨"com/example/ballast/ballast/database/CompactionPolicyWrittenPinLaw", "due", "(JJJ)Z"⟩ : MethodName) method_2_code 7 (some .boolean) :: ws) ({ frames := 0, cells := 0, slots := 0, locals := 0 } : Room)) (fun aa UU => aa = #[(.long ba), (.long by0), (.long el)] ∧ Z.Warmed39 UU.vm ∧ UU.heap = h0) (fun _ _ _ _ _ => True) (fun _ UU oo UU' => ∃ vv LL, oo = .returned vv ∧ Q4 Z ba by0 el h0 n0 vv UU'.heap LL ∧ FrameEnd UU oo UU' LL 0 0) := by
  refine MetFree.of_bodySF (plainFor_of_name pn_1) hisR ?_
  intro p e s m args below meth c s₁ Bd hml0 hP hK
  obtain ⟨rfl, hZ, hh⟩ := hP
  have hx := Bd.exec
  have hby := Bd.bytes
  have hlk : meth.locks = false := BodyLoose.notSynchronized Bd
  have hml : c.maxLocals = 7 := hml0
  have hown : s.vm.findClass "com/example/ballast/ballast/database/CompactionPolicyWrittenPinLaw" = some m.cls := findClass_of_methodNamed Bd.named
  have hnm := (name_of_methodNamed Bd.named Bd.method).1
  have X0 : Stand p l e ({ frames := 0, cells := 0, slots := 0, locals := 0 } : Room) s m #[(.long ba), (.long by0), (.long el)] below meth c s₁ [] 0 0 := Stand.of_body Bd
  have e0 : s₁.heap = h0 := by rw [← hh, Bd.state]; rfl
  have N0 := Fr.nil n0
  have K0 : Keep h0 h0 [] := Keep.refl h0 _
  refine (?_ : Go p e below s (Q4 Z ba by0 el h0 n0) 0 0 (s₁.setTop (entryFrame m #[(.long ba), (.long by0), (.long el)] 7)))
  rw [ef_rm4]
  generalize hQ : Q4 Z ba by0 el h0 n0 = Q
  show Go p e below s Q 0 0 (s₁.setTop (mkF m 0 #[.val (.long ba), .second, .val (.long by0), .second, .val (.long el), .second, .unset] []))
  have f1 := rng64 ba
  have f2 := rng64 by0
  have f3 := rng64 el
  refine Go.st (fun _ k => XS.lloadN X0.here hx rfl (hb hby d4_0) rfl k) ?_
  show Go p e below s Q 0 0 (s₁.setTop (mkF m 1 #[.val (.long ba), .second, .val (.long by0), .second, .val (.long el), .second, .unset] [(.long by0)]))
  refine Go.st (fun _ k => XS.lloadN X0.here hx rfl (hb hby d4_1) rfl k) ?_
  show Go p e below s Q 0 0 (s₁.setTop (mkF m 2 #[.val (.long ba), .second, .val (.long by0), .second, .val (.long el), .second, .unset] [(.long ba), (.long by0)]))
  refine Go.st (fun _ k => XS.lsub X0.here hx rfl (hb hby d4_2) rfl k) ?_
  show Go p e below s Q 0 0 (s₁.setTop (mkF m 3 #[.val (.long ba), .second, .val (.long by0), .second, .val (.long el), .second, .unset] [(.long (by0 - ba))]))
  refine Go.st (fun _ k => XS.lloadN X0.here hx rfl (hb hby d4_3) rfl k) ?_
  show Go p e below s Q 0 0 (s₁.setTop (mkF m 4 #[.val (.long ba), .second, .val (.long by0), .second, .val (.long el), .second, .unset] [(.long ba), (.long (by0 - ba))]))
  refine Go.st (fun _ k => XS.lcmp X0.here hx rfl (hb hby d4_4) rfl k) ?_
  show Go p e below s Q 0 0 (s₁.setTop (mkF m 5 #[.val (.long ba), .second, .val (.long by0), .second, .val (.long el), .second, .unset] [(.int (lcmpW (by0 - ba) ba))]))
  have f4 := c_lsub by0 ba
  have f5 := rng64 (by0 - ba)
  by_cases c6 : ba.toInt < (by0 - ba).toInt
  ·
    refine Go.st (fun _ k => XS.ifNo X0.here hx rfl (hb hby d4_5) rfl ((if0 _ _).trans (tlt ((lw_gt (by0 - ba) ba).mpr (ltJ rfl rfl c6))).2.2.2) k) ?_
    show Go p e below s Q 0 0 (s₁.setTop (mkF m 8 #[.val (.long ba), .second, .val (.long by0), .second, .val (.long el), .second, .unset] []))
    refine Go.st (fun _ k => XS.lloadN X0.here hx rfl (hb hby d4_8) rfl k) ?_
    show Go p e below s Q 0 0 (s₁.setTop (mkF m 9 #[.val (.long ba), .second, .val (.long by0), .second, .val (.long el), .second, .unset] [(.long by0)]))
    refine Go.st (X0.ldc2Long hx hown (mvT hZ (hw _ (List.mem_of_getElem? (i := 30) rfl))) (g := (mkF m 9 #[.val (.long ba), .second, .val (.long by0), .second, .val (.long el), .second, .unset] [(.long by0)])) rfl (hb hby d4_9)) ?_
    show Go p e below s Q 0 0 (s₁.setTop (mkF m 12 #[.val (.long ba), .second, .val (.long by0), .second, .val (.long el), .second, .unset] [(.long (10485760 : Int64)), (.long by0)]))
    refine Go.st (fun _ k => XS.lcmp X0.here hx rfl (hb hby d4_12) rfl k) ?_
    show Go p e below s Q 0 0 (s₁.setTop (mkF m 13 #[.val (.long ba), .second, .val (.long by0), .second, .val (.long el), .second, .unset] [(.int (lcmpW by0 (10485760 : Int64)))]))
    have f7 := liJ_10485760
    by_cases c8 : by0.toInt < 10485760
    ·
      refine Go.st (fun _ k => XS.ifYes X0.here hx rfl (pc0 := 13) (pc' := 20) rfl (hb hby d4_13) rfl ((if0 _ _).trans (tlt ((lw_lt by0 (10485760 : Int64)).mpr (ltJ rfl liJ_10485760 c8))).1) (by decide) (by decide) k) ?_
      show Go p e below s Q 0 0 (s₁.setTop (mkF m 20 #[.val (.long ba), .second, .val (.long by0), .second, .val (.long el), .second, .unset] []))
      refine Go.st (fun _ k => XS.iconst X0.here hx rfl (hb hby d4_20) k) ?_
      show Go p e below s Q 0 0 (s₁.setTop (mkF m 21 #[.val (.long ba), .second, .val (.long by0), .second, .val (.long el), .second, .unset] [(.int (0 : Int32))]))
      refine Go.st (fun _ k => XS.istore X0.here hx rfl (hb hby d4_21) rfl (l' := #[.val (.long ba), .second, .val (.long by0), .second, .val (.long el), .second, .val (.int (0 : Int32))]) rfl k) ?_
      show Go p e below s Q 0 0 (s₁.setTop (mkF m 23 #[.val (.long ba), .second, .val (.long by0), .second, .val (.long el), .second, .val (.int (0 : Int32))] []))
      refine Go.st (fun _ k => XS.iload X0.here hx rfl (hb hby d4_23) rfl k) ?_
      show Go p e below s Q 0 0 (s₁.setTop (mkF m 25 #[.val (.long ba), .second, .val (.long by0), .second, .val (.long el), .second, .val (.int (0 : Int32))] [(.int (0 : Int32))]))
      refine Go.st (fun _ k => XS.ifYes X0.here hx rfl (pc0 := 25) (pc' := 41) rfl (hb hby d4_25) rfl ((if0 _ _).trans (teq (eqI liI_0 liI_0 (by decide))).1) (by decide) (by decide) k) ?_
      show Go p e below s Q 0 0 (s₁.setTop (mkF m 41 #[.val (.long ba), .second, .val (.long by0), .second, .val (.long el), .second, .val (.int (0 : Int32))] []))
      refine Go.st (fun _ k => XS.iconst X0.here hx rfl (hb hby d4_41) k) ?_
      show Go p e below s Q 0 0 (s₁.setTop (mkF m 42 #[.val (.long ba), .second, .val (.long by0), .second, .val (.long el), .second, .val (.int (0 : Int32))] [(.int (0 : Int32))]))
      have f9 := liI_0
      exact Go.retN X0 hx hlk (by simp) Bd.returns (hb hby d4_42) (z' := (0 : Int32)) (by decide) (by rw [← hQ, e0]; exact ⟨(0 : Int32), rfl, N0, (by omega), rfl⟩) (by decide) (by decide)
    ·
      refine Go.st (fun _ k => XS.ifNo X0.here hx rfl (hb hby d4_13) rfl ((if0 _ _).trans (flt (fun q => (nltJ rfl liJ_10485760 c8) ((lw_lt by0 (10485760 : Int64)).mp q))).1) k) ?_
      show Go p e below s Q 0 0 (s₁.setTop (mkF m 16 #[.val (.long ba), .second, .val (.long by0), .second, .val (.long el), .second, .unset] []))
      refine Go.st (fun _ k => XS.iconst X0.here hx rfl (hb hby d4_16) k) ?_
      show Go p e below s Q 0 0 (s₁.setTop (mkF m 17 #[.val (.long ba), .second, .val (.long by0), .second, .val (.long el), .second, .unset] [(.int (1 : Int32))]))
      refine Go.st (fun _ k => XS.goto X0.here hx rfl (pc0 := 17) (pc' := 21) rfl (hb hby d4_17) (by decide) (by decide) k) ?_
      show Go p e below s Q 0 0 (s₁.setTop (mkF m 21 #[.val (.long ba), .second, .val (.long by0), .second, .val (.long el), .second, .unset] [(.int (1 : Int32))]))
      refine Go.st (fun _ k => XS.istore X0.here hx rfl (hb hby d4_21) rfl (l' := #[.val (.long ba), .second, .val (.long by0), .second, .val (.long el), .second, .val (.int (1 : Int32))]) rfl k) ?_
      show Go p e below s Q 0 0 (s₁.setTop (mkF m 23 #[.val (.long ba), .second, .val (.long by0), .second, .val (.long el), .second, .val (.int (1 : Int32))] []))
      refine Go.st (fun _ k => XS.iload X0.here hx rfl (hb hby d4_23) rfl k) ?_
      show Go p e below s Q 0 0 (s₁.setTop (mkF m 25 #[.val (.long ba), .second, .val (.long by0), .second, .val (.long el), .second, .val (.int (1 : Int32))] [(.int (1 : Int32))]))
      refine Go.st (fun _ k => XS.ifNo X0.here hx rfl (hb hby d4_25) rfl ((if0 _ _).trans (feq (neI liI_1 liI_0 (by decide))).1) k) ?_
      show Go p e below s Q 0 0 (s₁.setTop (mkF m 28 #[.val (.long ba), .second, .val (.long by0), .second, .val (.long el), .second, .val (.int (1 : Int32))] []))
      refine Go.st (fun _ k => XS.lload X0.here hx rfl (hb hby d4_28) rfl k) ?_
      show Go p e below s Q 0 0 (s₁.setTop (mkF m 30 #[.val (.long ba), .second, .val (.long by0), .second, .val (.long el), .second, .val (.int (1 : Int32))] [(.long el)]))
      refine Go.st (X0.ldc2Long hx hown (mvT hZ (hw _ (List.mem_of_getElem? (i := 31) rfl))) (g := (mkF m 30 #[.val (.long ba), .second, .val (.long by0), .second, .val (.long el), .second, .val (.int (1 : Int32))] [(.long el)])) rfl (hb hby d4_30)) ?_
      show Go p e below s Q 0 0 (s₁.setTop (mkF m 33 #[.val (.long ba), .second, .val (.long by0), .second, .val (.long el), .second, .val (.int (1 : Int32))] [(.long (600000000000 : Int64)), (.long el)]))
      refine Go.st (fun _ k => XS.lcmp X0.here hx rfl (hb hby d4_33) rfl k) ?_
      show Go p e below s Q 0 0 (s₁.setTop (mkF m 34 #[.val (.long ba), .second, .val (.long by0), .second, .val (.long el), .second, .val (.int (1 : Int32))] [(.int (lcmpW el (600000000000 : Int64)))]))
      have f10 := liJ_600000000000
      by_cases c11 : el.toInt < 600000000000
      ·
        refine Go.st (fun _ k => XS.ifYes X0.here hx rfl (pc0 := 34) (pc' := 41) rfl (hb hby d4_34) rfl ((if0 _ _).trans (tlt ((lw_lt el (600000000000 : Int64)).mpr (ltJ rfl liJ_600000000000 c11))).1) (by decide) (by decide) k) ?_
        show Go p e below s Q 0 0 (s₁.setTop (mkF m 41 #[.val (.long ba), .second, .val (.long by0), .second, .val (.long el), .second, .val (.int (1 : Int32))] []))
        refine Go.st (fun _ k => XS.iconst X0.here hx rfl (hb hby d4_41) k) ?_
        show Go p e below s Q 0 0 (s₁.setTop (mkF m 42 #[.val (.long ba), .second, .val (.long by0), .second, .val (.long el), .second, .val (.int (1 : Int32))] [(.int (0 : Int32))]))
        have f12 := liI_0
        exact Go.retN X0 hx hlk (by simp) Bd.returns (hb hby d4_42) (z' := (0 : Int32)) (by decide) (by rw [← hQ, e0]; exact ⟨(0 : Int32), rfl, N0, (by omega), rfl⟩) (by decide) (by decide)
      ·
        refine Go.st (fun _ k => XS.ifNo X0.here hx rfl (hb hby d4_34) rfl ((if0 _ _).trans (flt (fun q => (nltJ rfl liJ_600000000000 c11) ((lw_lt el (600000000000 : Int64)).mp q))).1) k) ?_
        show Go p e below s Q 0 0 (s₁.setTop (mkF m 37 #[.val (.long ba), .second, .val (.long by0), .second, .val (.long el), .second, .val (.int (1 : Int32))] []))
        refine Go.st (fun _ k => XS.iconst X0.here hx rfl (hb hby d4_37) k) ?_
        show Go p e below s Q 0 0 (s₁.setTop (mkF m 38 #[.val (.long ba), .second, .val (.long by0), .second, .val (.long el), .second, .val (.int (1 : Int32))] [(.int (1 : Int32))]))
        refine Go.st (fun _ k => XS.goto X0.here hx rfl (pc0 := 38) (pc' := 42) rfl (hb hby d4_38) (by decide) (by decide) k) ?_
        show Go p e below s Q 0 0 (s₁.setTop (mkF m 42 #[.val (.long ba), .second, .val (.long by0), .second, .val (.long el), .second, .val (.int (1 : Int32))] [(.int (1 : Int32))]))
        have f13 := liI_1
        exact Go.retN X0 hx hlk (by simp) Bd.returns (hb hby d4_42) (z' := (1 : Int32)) (by decide) (by rw [← hQ, e0]; exact ⟨(1 : Int32), rfl, N0, (by omega), rfl⟩) (by decide) (by decide)
  ·
    refine Go.st (fun _ k => XS.ifYes X0.here hx rfl (pc0 := 5) (pc' := 20) rfl (hb hby d4_5) rfl ((if0 _ _).trans (flt (fun q => (nltJ rfl rfl c6) ((lw_gt (by0 - ba) ba).mp q))).2.2.2) (by decide) (by decide) k) ?_
    show Go p e below s Q 0 0 (s₁.setTop (mkF m 20 #[.val (.long ba), .second, .val (.long by0), .second, .val (.long el), .second, .unset] []))
    refine Go.st (fun _ k => XS.iconst X0.here hx rfl (hb hby d4_20) k) ?_
    show Go p e below s Q 0 0 (s₁.setTop (mkF m 21 #[.val (.long ba), .second, .val (.long by0), .second, .val (.long el), .second, .unset] [(.int (0 : Int32))]))
    refine Go.st (fun _ k => XS.istore X0.here hx rfl (hb hby d4_21) rfl (l' := #[.val (.long ba), .second, .val (.long by0), .second, .val (.long el), .second, .val (.int (0 : Int32))]) rfl k) ?_
    show Go p e below s Q 0 0 (s₁.setTop (mkF m 23 #[.val (.long ba), .second, .val (.long by0), .second, .val (.long el), .second, .val (.int (0 : Int32))] []))
    refine Go.st (fun _ k => XS.iload X0.here hx rfl (hb hby d4_23) rfl k) ?_
    show Go p e below s Q 0 0 (s₁.setTop (mkF m 25 #[.val (.long ba), .second, .val (.long by0), .second, .val (.long el), .second, .val (.int (0 : Int32))] [(.int (0 : Int32))]))
    refine Go.st (fun _ k => XS.ifYes X0.here hx rfl (pc0 := 25) (pc' := 41) rfl (hb hby d4_25) rfl ((if0 _ _).trans (teq (eqI liI_0 liI_0 (by decide))).1) (by decide) (by decide) k) ?_
    show Go p e below s Q 0 0 (s₁.setTop (mkF m 41 #[.val (.long ba), .second, .val (.long by0), .second, .val (.long el), .second, .val (.int (0 : Int32))] []))
    refine Go.st (fun _ k => XS.iconst X0.here hx rfl (hb hby d4_41) k) ?_
    show Go p e below s Q 0 0 (s₁.setTop (mkF m 42 #[.val (.long ba), .second, .val (.long by0), .second, .val (.long el), .second, .val (.int (0 : Int32))] [(.int (0 : Int32))]))
    have f14 := liI_0
    exact Go.retN X0 hx hlk (by simp) Bd.returns (hb hby d4_42) (z' := (0 : Int32)) (by decide) (by rw [← hQ, e0]; exact ⟨(0 : Int32), rfl, N0, (by omega), rfl⟩) (by decide) (by decide)
theorem liI_62 : (62 : Int32).toInt = 62 := by decide
theorem liJ_4611686018427387903 : (4611686018427387903 : Int64).toInt = 4611686018427387903 := by decide
theorem liJ_0 : (0 : Int64).toInt = 0 := by decide
theorem pd_0 : parseMethodDescriptor "(JJ)V" = some ⟨[.long, .long], none⟩ := by decide +kernel
theorem pd_1 : parseMethodDescriptor "(JJ)Z" = some ⟨[.long, .long], some .boolean⟩ := by decide +kernel
theorem pd_2 : parseMethodDescriptor "(JJJ)Z" = some ⟨[.long, .long, .long], some .boolean⟩ := by decide +kernel
theorem liI_2 : (2 : Int32).toInt = 2 := by decide
theorem pd_3 : parseMethodDescriptor "(J)V" = some ⟨[.long], none⟩ := by decide +kernel
theorem ef_rm0 (m : MethodId) (b0 : Int64) (t0 : Int64) (b1 : Int64) (d1 : Int64) (b2 : Int64) (d2 : Int64) : entryFrame m #[(.long b0), (.long t0), (.long b1), (.long d1), (.long b2), (.long d2)] maxLocals = mkF m 0 #[.val (.long b0), .second, .val (.long t0), .second, .val (.long b1), .second, .val (.long d1), .second, .val (.long b2), .second, .val (.long d2), .second, .unset, .unset, .unset, .unset, .unset, .unset, .unset, .unset, .unset, .unset, .unset] [] := by first | (simp [entryFrame, mkF, argsToLocals, Value.category, maxLocals]; done) | rfl
def Q0 (Z : State) (b0 : Int64) (t0 : Int64) (b1 : Int64) (d1 : Int64) (b2 : Int64) (d2 : Int64) (h0 : Heap) (n0 : Nat) (vv : Option Value) (h : Heap) (LL : List Loc) : Prop := vv = some (.int (1 : Int32)) ∧ Fr n0 LL ∧ Keep h0 h []
set_option maxRecDepth 65536 in
set_option maxHeartbeats 40000000 in
theorem rm0 (l : Launch) (Z : State) (a0 : Array Value) (hw : ∀ d ∈ tables_1, d.before a0 Z = true) (ws : List Jvm.Cond) (b0 : Int64) (t0 : Int64) (b1 : Int64) (d1 : Int64) (b2 : Int64) (d2 : Int64) (h0 : Heap) (n0 : Nat) (Z0 : n0 ≤ h0.size) (S_MIN_NANOS : Sta Z h0 "com/example/ballast/ballast/database/CompactionPolicy" "MIN_NANOS" "J" (.long (600000000000 : Int64))) :
    MetFree l x (head1 (Jvm.Cond.code x code maxLocals ret :: ws) room_1) (fun aa UU => aa = #[(.long b0), (.long t0), (.long b1), (.long d1), (.long b2), (.long d2)] ∧ Z.Warmed39 UU.vm ∧ UU.heap = h0) (fun _ _ _ _ _ => True) (fun _ UU oo UU' => ∃ vv LL, oo = .returned vv ∧ Q0 Z b0 t0 b1 d1 b2 d2 h0 n0 vv UU'.heap LL ∧ FrameEnd UU oo UU' LL 1 3) := by
  refine MetFree.of_bodySF (plainFor_of_name pn_1) hisR ?_
  intro p e s m args below meth c s₁ Bd hml0 hP hK
  obtain ⟨rfl, hZ, hh⟩ := hP
  have hx := Bd.exec
  have hby := Bd.bytes
  have hlk : meth.locks = false := BodyLoose.notSynchronized Bd
  have hml : c.maxLocals = 23 := hml0
  have hown : s.vm.findClass "com/example/ballast/ballast/database/CompactionPolicyWrittenPinLaw" = some m.cls := findClass_of_methodNamed Bd.named
  have hnm := (name_of_methodNamed Bd.named Bd.method).1
  have X0 : Stand p l e room_1 s m #[(.long b0), (.long t0), (.long b1), (.long d1), (.long b2), (.long d2)] below meth c s₁ [] 0 0 := Stand.of_body Bd
  have e0 : s₁.heap = h0 := by rw [← hh, Bd.state]; rfl
  have N0 := Fr.nil n0
  have K0 : Keep h0 h0 [] := Keep.refl h0 _
  refine (?_ : Go p e below s (Q0 Z b0 t0 b1 d1 b2 d2 h0 n0) 1 3 (s₁.setTop (entryFrame m #[(.long b0), (.long t0), (.long b1), (.long d1), (.long b2), (.long d2)] maxLocals)))
  rw [ef_rm0]
  generalize hQ : Q0 Z b0 t0 b1 d1 b2 d2 h0 n0 = Q
  show Go p e below s Q 1 3 (s₁.setTop (mkF m 0 #[.val (.long b0), .second, .val (.long t0), .second, .val (.long b1), .second, .val (.long d1), .second, .val (.long b2), .second, .val (.long d2), .second, .unset, .unset, .unset, .unset, .unset, .unset, .unset, .unset, .unset, .unset, .unset] []))
  have f1 := rng64 b0
  have f2 := rng64 t0
  have f3 := rng64 b1
  have f4 := rng64 d1
  have f5 := rng64 b2
  have f6 := rng64 d2
  refine Go.st (fun _ k => XS.lload X0.here hx rfl (hb hby at_0) rfl k) ?_
  show Go p e below s Q 1 3 (s₁.setTop (mkF m 2 #[.val (.long b0), .second, .val (.long t0), .second, .val (.long b1), .second, .val (.long d1), .second, .val (.long b2), .second, .val (.long d2), .second, .unset, .unset, .unset, .unset, .unset, .unset, .unset, .unset, .unset, .unset, .unset] [(.long b2)]))
  refine Go.st (fun _ k => XS.bipush X0.here hx rfl (hb hby at_2) k) ?_
  show Go p e below s Q 1 3 (s₁.setTop (mkF m 4 #[.val (.long b0), .second, .val (.long t0), .second, .val (.long b1), .second, .val (.long d1), .second, .val (.long b2), .second, .val (.long d2), .second, .unset, .unset, .unset, .unset, .unset, .unset, .unset, .unset, .unset, .unset, .unset] [(.int (62 : Int32)), (.long b2)]))
  refine Go.st (fun _ k => XS.lushr X0.here hx rfl (hb hby at_4) rfl k) ?_
  show Go p e below s Q 1 3 (s₁.setTop (mkF m 5 #[.val (.long b0), .second, .val (.long t0), .second, .val (.long b1), .second, .val (.long d1), .second, .val (.long b2), .second, .val (.long d2), .second, .unset, .unset, .unset, .unset, .unset, .unset, .unset, .unset, .unset, .unset, .unset] [(.long ((b2.toUInt64 >>> ((62 : Int32) &&& 0x3f).toInt64.toUInt64).toInt64))]))
  refine Go.st (fun _ k => XS.l2i X0.here hx rfl (hb hby at_5) rfl k) ?_
  show Go p e below s Q 1 3 (s₁.setTop (mkF m 6 #[.val (.long b0), .second, .val (.long t0), .second, .val (.long b1), .second, .val (.long d1), .second, .val (.long b2), .second, .val (.long d2), .second, .unset, .unset, .unset, .unset, .unset, .unset, .unset, .unset, .unset, .unset, .unset] [(.int (((b2.toUInt64 >>> ((62 : Int32) &&& 0x3f).toInt64.toUInt64).toInt64).toInt32))]))
  refine Go.st (fun _ k => XS.istore X0.here hx rfl (hb hby at_6) rfl (l' := #[.val (.long b0), .second, .val (.long t0), .second, .val (.long b1), .second, .val (.long d1), .second, .val (.long b2), .second, .val (.long d2), .second, .val (.int (((b2.toUInt64 >>> ((62 : Int32) &&& 0x3f).toInt64.toUInt64).toInt64).toInt32)), .unset, .unset, .unset, .unset, .unset, .unset, .unset, .unset, .unset, .unset]) rfl k) ?_
  show Go p e below s Q 1 3 (s₁.setTop (mkF m 8 #[.val (.long b0), .second, .val (.long t0), .second, .val (.long b1), .second, .val (.long d1), .second, .val (.long b2), .second, .val (.long d2), .second, .val (.int (((b2.toUInt64 >>> ((62 : Int32) &&& 0x3f).toInt64.toUInt64).toInt64).toInt32)), .unset, .unset, .unset, .unset, .unset, .unset, .unset, .unset, .unset, .unset] []))
  have f7 := liI_62
  have f8 : ((b2.toUInt64 >>> ((62 : Int32) &&& 0x3f).toInt64.toUInt64).toInt64).toInt = (b2.toInt % 18446744073709551616) / 4611686018427387904 := c_lushr b2 (62 : Int32) 62 (by decide) (by decide)
  have f9 := rng64 ((b2.toUInt64 >>> ((62 : Int32) &&& 0x3f).toInt64.toUInt64).toInt64)
  have f10 := c_l2i ((b2.toUInt64 >>> ((62 : Int32) &&& 0x3f).toInt64.toUInt64).toInt64)
  have f11 := rng32 (((b2.toUInt64 >>> ((62 : Int32) &&& 0x3f).toInt64.toUInt64).toInt64).toInt32)
  generalize hv_v12 : (((b2.toUInt64 >>> ((62 : Int32) &&& 0x3f).toInt64.toUInt64).toInt64).toInt32) = v12 at f10 f11 ⊢
  refine Go.st (X0.ldc2Long hx hown (mvT hZ (hw _ (List.mem_of_getElem? (i := 0) rfl))) (g := (mkF m 8 #[.val (.long b0), .second, .val (.long t0), .second, .val (.long b1), .second, .val (.long d1), .second, .val (.long b2), .second, .val (.long d2), .second, .val (.int v12), .unset, .unset, .unset, .unset, .unset, .unset, .unset, .unset, .unset, .unset] [])) rfl (hb hby at_8)) ?_
  show Go p e below s Q 1 3 (s₁.setTop (mkF m 11 #[.val (.long b0), .second, .val (.long t0), .second, .val (.long b1), .second, .val (.long d1), .second, .val (.long b2), .second, .val (.long d2), .second, .val (.int v12), .unset, .unset, .unset, .unset, .unset, .unset, .unset, .unset, .unset, .unset] [(.long (4611686018427387903 : Int64))]))
  refine Go.st (fun _ k => XS.lstore X0.here hx rfl (hb hby at_11) rfl (l' := #[.val (.long b0), .second, .val (.long t0), .second, .val (.long b1), .second, .val (.long d1), .second, .val (.long b2), .second, .val (.long d2), .second, .val (.int v12), .val (.long (4611686018427387903 : Int64)), .second, .unset, .unset, .unset, .unset, .unset, .unset, .unset, .unset]) rfl k) ?_
  show Go p e below s Q 1 3 (s₁.setTop (mkF m 13 #[.val (.long b0), .second, .val (.long t0), .second, .val (.long b1), .second, .val (.long d1), .second, .val (.long b2), .second, .val (.long d2), .second, .val (.int v12), .val (.long (4611686018427387903 : Int64)), .second, .unset, .unset, .unset, .unset, .unset, .unset, .unset, .unset] []))
  refine Go.st (fun _ k => XS.lloadN X0.here hx rfl (hb hby at_13) rfl k) ?_
  show Go p e below s Q 1 3 (s₁.setTop (mkF m 14 #[.val (.long b0), .second, .val (.long t0), .second, .val (.long b1), .second, .val (.long d1), .second, .val (.long b2), .second, .val (.long d2), .second, .val (.int v12), .val (.long (4611686018427387903 : Int64)), .second, .unset, .unset, .unset, .unset, .unset, .unset, .unset, .unset] [(.long b0)]))
  refine Go.st (fun _ k => XS.lload X0.here hx rfl (hb hby at_14) rfl k) ?_
  show Go p e below s Q 1 3 (s₁.setTop (mkF m 16 #[.val (.long b0), .second, .val (.long t0), .second, .val (.long b1), .second, .val (.long d1), .second, .val (.long b2), .second, .val (.long d2), .second, .val (.int v12), .val (.long (4611686018427387903 : Int64)), .second, .unset, .unset, .unset, .unset, .unset, .unset, .unset, .unset] [(.long (4611686018427387903 : Int64)), (.long b0)]))
  refine Go.st (fun _ k => XS.land X0.here hx rfl (hb hby at_16) rfl k) ?_
  show Go p e below s Q 1 3 (s₁.setTop (mkF m 17 #[.val (.long b0), .second, .val (.long t0), .second, .val (.long b1), .second, .val (.long d1), .second, .val (.long b2), .second, .val (.long d2), .second, .val (.int v12), .val (.long (4611686018427387903 : Int64)), .second, .unset, .unset, .unset, .unset, .unset, .unset, .unset, .unset] [(.long (b0 &&& (4611686018427387903 : Int64)))]))
  refine Go.st (fun _ k => XS.lstoreN X0.here hx rfl (hb hby at_17) rfl (l' := #[.val (.long (b0 &&& (4611686018427387903 : Int64))), .second, .val (.long t0), .second, .val (.long b1), .second, .val (.long d1), .second, .val (.long b2), .second, .val (.long d2), .second, .val (.int v12), .val (.long (4611686018427387903 : Int64)), .second, .unset, .unset, .unset, .unset, .unset, .unset, .unset, .unset]) rfl k) ?_
  show Go p e below s Q 1 3 (s₁.setTop (mkF m 18 #[.val (.long (b0 &&& (4611686018427387903 : Int64))), .second, .val (.long t0), .second, .val (.long b1), .second, .val (.long d1), .second, .val (.long b2), .second, .val (.long d2), .second, .val (.int v12), .val (.long (4611686018427387903 : Int64)), .second, .unset, .unset, .unset, .unset, .unset, .unset, .unset, .unset] []))
  have f13 := liJ_4611686018427387903
  have f14 : (b0 &&& (4611686018427387903 : Int64)).toInt = b0.toInt % 4611686018427387904 := c_maskL b0 (4611686018427387903 : Int64) 62 (by decide) (by decide)
  generalize hv_v15 : (b0 &&& (4611686018427387903 : Int64)) = v15 at f14 ⊢
  refine Go.st (fun _ k => XS.lload X0.here hx rfl (hb hby at_18) rfl k) ?_
  show Go p e below s Q 1 3 (s₁.setTop (mkF m 20 #[.val (.long v15), .second, .val (.long t0), .second, .val (.long b1), .second, .val (.long d1), .second, .val (.long b2), .second, .val (.long d2), .second, .val (.int v12), .val (.long (4611686018427387903 : Int64)), .second, .unset, .unset, .unset, .unset, .unset, .unset, .unset, .unset] [(.long b1)]))
  refine Go.st (fun _ k => XS.lload X0.here hx rfl (hb hby at_20) rfl k) ?_
  show Go p e below s Q 1 3 (s₁.setTop (mkF m 22 #[.val (.long v15), .second, .val (.long t0), .second, .val (.long b1), .second, .val (.long d1), .second, .val (.long b2), .second, .val (.long d2), .second, .val (.int v12), .val (.long (4611686018427387903 : Int64)), .second, .unset, .unset, .unset, .unset, .unset, .unset, .unset, .unset] [(.long (4611686018427387903 : Int64)), (.long b1)]))
  refine Go.st (fun _ k => XS.land X0.here hx rfl (hb hby at_22) rfl k) ?_
  show Go p e below s Q 1 3 (s₁.setTop (mkF m 23 #[.val (.long v15), .second, .val (.long t0), .second, .val (.long b1), .second, .val (.long d1), .second, .val (.long b2), .second, .val (.long d2), .second, .val (.int v12), .val (.long (4611686018427387903 : Int64)), .second, .unset, .unset, .unset, .unset, .unset, .unset, .unset, .unset] [(.long (b1 &&& (4611686018427387903 : Int64)))]))
  refine Go.st (fun _ k => XS.lstore X0.here hx rfl (hb hby at_23) rfl (l' := #[.val (.long v15), .second, .val (.long t0), .second, .val (.long (b1 &&& (4611686018427387903 : Int64))), .second, .val (.long d1), .second, .val (.long b2), .second, .val (.long d2), .second, .val (.int v12), .val (.long (4611686018427387903 : Int64)), .second, .unset, .unset, .unset, .unset, .unset, .unset, .unset, .unset]) rfl k) ?_
  show Go p e below s Q 1 3 (s₁.setTop (mkF m 25 #[.val (.long v15), .second, .val (.long t0), .second, .val (.long (b1 &&& (4611686018427387903 : Int64))), .second, .val (.long d1), .second, .val (.long b2), .second, .val (.long d2), .second, .val (.int v12), .val (.long (4611686018427387903 : Int64)), .second, .unset, .unset, .unset, .unset, .unset, .unset, .unset, .unset] []))
  have f16 : (b1 &&& (4611686018427387903 : Int64)).toInt = b1.toInt % 4611686018427387904 := c_maskL b1 (4611686018427387903 : Int64) 62 (by decide) (by decide)
  generalize hv_v17 : (b1 &&& (4611686018427387903 : Int64)) = v17 at f16 ⊢
  refine Go.st (fun _ k => XS.lload X0.here hx rfl (hb hby at_25) rfl k) ?_
  show Go p e below s Q 1 3 (s₁.setTop (mkF m 27 #[.val (.long v15), .second, .val (.long t0), .second, .val (.long v17), .second, .val (.long d1), .second, .val (.long b2), .second, .val (.long d2), .second, .val (.int v12), .val (.long (4611686018427387903 : Int64)), .second, .unset, .unset, .unset, .unset, .unset, .unset, .unset, .unset] [(.long b2)]))
  refine Go.st (fun _ k => XS.lload X0.here hx rfl (hb hby at_27) rfl k) ?_
  show Go p e below s Q 1 3 (s₁.setTop (mkF m 29 #[.val (.long v15), .second, .val (.long t0), .second, .val (.long v17), .second, .val (.long d1), .second, .val (.long b2), .second, .val (.long d2), .second, .val (.int v12), .val (.long (4611686018427387903 : Int64)), .second, .unset, .unset, .unset, .unset, .unset, .unset, .unset, .unset] [(.long (4611686018427387903 : Int64)), (.long b2)]))
  refine Go.st (fun _ k => XS.land X0.here hx rfl (hb hby at_29) rfl k) ?_
  show Go p e below s Q 1 3 (s₁.setTop (mkF m 30 #[.val (.long v15), .second, .val (.long t0), .second, .val (.long v17), .second, .val (.long d1), .second, .val (.long b2), .second, .val (.long d2), .second, .val (.int v12), .val (.long (4611686018427387903 : Int64)), .second, .unset, .unset, .unset, .unset, .unset, .unset, .unset, .unset] [(.long (b2 &&& (4611686018427387903 : Int64)))]))
  refine Go.st (fun _ k => XS.lstore X0.here hx rfl (hb hby at_30) rfl (l' := #[.val (.long v15), .second, .val (.long t0), .second, .val (.long v17), .second, .val (.long d1), .second, .val (.long (b2 &&& (4611686018427387903 : Int64))), .second, .val (.long d2), .second, .val (.int v12), .val (.long (4611686018427387903 : Int64)), .second, .unset, .unset, .unset, .unset, .unset, .unset, .unset, .unset]) rfl k) ?_
  show Go p e below s Q 1 3 (s₁.setTop (mkF m 32 #[.val (.long v15), .second, .val (.long t0), .second, .val (.long v17), .second, .val (.long d1), .second, .val (.long (b2 &&& (4611686018427387903 : Int64))), .second, .val (.long d2), .second, .val (.int v12), .val (.long (4611686018427387903 : Int64)), .second, .unset, .unset, .unset, .unset, .unset, .unset, .unset, .unset] []))
  have f18 : (b2 &&& (4611686018427387903 : Int64)).toInt = b2.toInt % 4611686018427387904 := c_maskL b2 (4611686018427387903 : Int64) 62 (by decide) (by decide)
  generalize hv_v19 : (b2 &&& (4611686018427387903 : Int64)) = v19 at f18 ⊢
  obtain ⟨T20, h20, X20, e20, E20, A20, D20, -, st20⟩ := newO X0 hx hZ hown (hw _ (List.mem_of_getElem? (i := 1) rfl)) (hw _ (List.mem_of_getElem? (i := 2) rfl)) (hw _ (List.mem_of_getElem? (i := 3) rfl)) e0 (g := (mkF m 32 #[.val (.long v15), .second, .val (.long t0), .second, .val (.long v17), .second, .val (.long d1), .second, .val (.long v19), .second, .val (.long d2), .second, .val (.int v12), .val (.long (4611686018427387903 : Int64)), .second, .unset, .unset, .unset, .unset, .unset, .unset, .unset, .unset] [])) rfl (hb hby at_32) (by decide) (by decide)
  obtain ⟨b20, g20⟩ : ∃ z, z = h0.size := ⟨_, rfl⟩
  rw [← g20] at A20 D20 st20
  have h21 : Sta Z h20 "com/example/ballast/ballast/database/CompactionPolicy" "MIN_NANOS" "J" (.long (600000000000 : Int64)) := S_MIN_NANOS.ext E20
  have Gb20 : n0 ≤ b20 := Nat.le_trans (Nat.le_trans Z0 K0.1) (Nat.le_of_eq g20.symm)
  have szb20 : h0.size ≤ b20 := Nat.le_trans K0.1 (Nat.le_of_eq g20.symm)
  have K20 : Keep h0 h20 [] := K0.ext E20
  have h22 : Fld Z h20 b20 "com/example/ballast/ballast/database/CompactionPolicy" "baseBytes" "J" (.long (0 : Int64)) := D20 (Or.inl (hw _ (List.mem_of_getElem? (i := 11) rfl))) (ty := .long) (by decide)
  have h23 : Fld Z h20 b20 "com/example/ballast/ballast/database/CompactionPolicy" "since" "J" (.long (0 : Int64)) := D20 (Or.inl (hw _ (List.mem_of_getElem? (i := 13) rfl))) (ty := .long) (by decide)
  have h24 : Fld Z h20 b20 "com/example/ballast/ballast/database/CompactionPolicy" "transactions" "J" (.long (0 : Int64)) := D20 (Or.inl (hw _ (List.mem_of_getElem? (i := 20) rfl))) (ty := .long) (by decide)
  refine Go.st st20 ?_
  show Go p e below s Q 1 3 (T20.setTop (mkF m 35 #[.val (.long v15), .second, .val (.long t0), .second, .val (.long v17), .second, .val (.long d1), .second, .val (.long v19), .second, .val (.long d2), .second, .val (.int v12), .val (.long (4611686018427387903 : Int64)), .second, .unset, .unset, .unset, .unset, .unset, .unset, .unset, .unset] [(.ref b20)]))
  refine Go.st (fun _ k => XS.dup X20.here hx rfl (hb hby at_35) rfl rfl k) ?_
  show Go p e below s Q 1 3 (T20.setTop (mkF m 36 #[.val (.long v15), .second, .val (.long t0), .second, .val (.long v17), .second, .val (.long d1), .second, .val (.long v19), .second, .val (.long d2), .second, .val (.int v12), .val (.long (4611686018427387903 : Int64)), .second, .unset, .unset, .unset, .unset, .unset, .unset, .unset, .unset] [(.ref b20), (.ref b20)]))
  refine Go.st (fun _ k => XS.lloadN X20.here hx rfl (hb hby at_36) rfl k) ?_
  show Go p e below s Q 1 3 (T20.setTop (mkF m 37 #[.val (.long v15), .second, .val (.long t0), .second, .val (.long v17), .second, .val (.long d1), .second, .val (.long v19), .second, .val (.long d2), .second, .val (.int v12), .val (.long (4611686018427387903 : Int64)), .second, .unset, .unset, .unset, .unset, .unset, .unset, .unset, .unset] [(.long v15), (.ref b20), (.ref b20)]))
  refine Go.st (fun _ k => XS.lloadN X20.here hx rfl (hb hby at_37) rfl k) ?_
  show Go p e below s Q 1 3 (T20.setTop (mkF m 38 #[.val (.long v15), .second, .val (.long t0), .second, .val (.long v17), .second, .val (.long d1), .second, .val (.long v19), .second, .val (.long d2), .second, .val (.int v12), .val (.long (4611686018427387903 : Int64)), .second, .unset, .unset, .unset, .unset, .unset, .unset, .unset, .unset] [(.long t0), (.long v15), (.ref b20), (.ref b20)]))
  have f26 := liJ_0
  obtain ⟨_, _, ⟨T25, L25, k25, n25⟩, -, X25, ⟨Lc25, hQ25, l25, y25, z25⟩, st25⟩ := X20.specialBack hx (y := (⟨"com/example/ballast/ballast/database/CompactionPolicy", "<init>", "(JJ)V"⟩ : MethodName)) rfl hown (mvT hZ (hw _ (List.mem_of_getElem? (i := 4) rfl))) (mvT hZ (hw _ (List.mem_of_getElem? (i := 5) rfl))) (mvT hZ (hw _ (List.mem_of_getElem? (i := 6) rfl))) (by decide) (backOf (W := 1) (rm1 l Z a0 hw [] b20 v15 t0 (0 : Int64) (0 : Int64) (0 : Int64) h20 n0 (Nat.le_trans Z0 K20.1) A20 Gb20 h22 h23 h24) hZ (hw _ (List.mem_of_getElem? (i := 6) rfl)) (hw _ (List.mem_of_getElem? (i := 3) rfl)) (by decide) (by decide)) (g := (mkF m 38 #[.val (.long v15), .second, .val (.long t0), .second, .val (.long v17), .second, .val (.long d1), .second, .val (.long v19), .second, .val (.long d2), .second, .val (.int v12), .val (.long (4611686018427387903 : Int64)), .second, .unset, .unset, .unset, .unset, .unset, .unset, .unset, .unset] [(.long t0), (.long v15), (.ref b20), (.ref b20)])) rfl (by rw [hml]; rfl) (Steps.refl _) (a := b20) (argsL := [(.long v15), (.long t0)]) (rest := [(.ref b20)]) (lenOf pd_0 rfl) rfl (by show 2 * 0 + _ ≤ _; exact Nat.le_of_eq rfl) (hb hby at_38) (fun _ _ => ⟨rfl, e20, (by decide : 1 + 0 ≤ _), (by decide : 3 + 0 ≤ _)⟩)
  dsimp only [Pt.U, Pt.locs, Pt.cells, Pt.slots] at X25 l25 y25 z25 st25 hQ25
  subst l25 y25 z25
  obtain ⟨rfl, N25q, K25q, h27, h28, h29, h30⟩ := hQ25
  have N25 := Fr.app N0 N25q
  have h31 : Sta Z T25.heap "com/example/ballast/ballast/database/CompactionPolicy" "MIN_NANOS" "J" (.long (600000000000 : Int64)) := Jvm.OwnGo.sta_keep h21 K25q (fun x hx => (allS (P := fun x => Exi h20 x) (exi_exa A20) all0) x hx)
  have K25 : Keep h0 T25.heap [] := K20.trans K25q (fun x hx => (show ∀ x ∈ ([b20] : List Addr), x ∈ ([] : List Addr) ∨ h0.size ≤ x from (allS (Or.inr szb20) all0)) x hx)
  refine Go.tr  st25 ?_
  show Go p e below s Q 1 3 (T25.setTop (mkF m 41 #[.val (.long v15), .second, .val (.long t0), .second, .val (.long v17), .second, .val (.long d1), .second, .val (.long v19), .second, .val (.long d2), .second, .val (.int v12), .val (.long (4611686018427387903 : Int64)), .second, .unset, .unset, .unset, .unset, .unset, .unset, .unset, .unset] [(.ref b20)]))
  refine Go.st (fun _ k => XS.astore X25.here hx rfl (hb hby at_41) rfl rfl (l' := #[.val (.long v15), .second, .val (.long t0), .second, .val (.long v17), .second, .val (.long d1), .second, .val (.long v19), .second, .val (.long d2), .second, .val (.int v12), .val (.long (4611686018427387903 : Int64)), .second, .val (.ref b20), .unset, .unset, .unset, .unset, .unset, .unset, .unset]) rfl k) ?_
  show Go p e below s Q 1 3 (T25.setTop (mkF m 43 #[.val (.long v15), .second, .val (.long t0), .second, .val (.long v17), .second, .val (.long d1), .second, .val (.long v19), .second, .val (.long d2), .second, .val (.int v12), .val (.long (4611686018427387903 : Int64)), .second, .val (.ref b20), .unset, .unset, .unset, .unset, .unset, .unset, .unset] []))
  refine Go.st (fun _ k => XS.lloadN X25.here hx rfl (hb hby at_43) rfl k) ?_
  show Go p e below s Q 1 3 (T25.setTop (mkF m 44 #[.val (.long v15), .second, .val (.long t0), .second, .val (.long v17), .second, .val (.long d1), .second, .val (.long v19), .second, .val (.long d2), .second, .val (.int v12), .val (.long (4611686018427387903 : Int64)), .second, .val (.ref b20), .unset, .unset, .unset, .unset, .unset, .unset, .unset] [(.long t0)]))
  refine Go.st (fun _ k => XS.lload X25.here hx rfl (hb hby at_44) rfl k) ?_
  show Go p e below s Q 1 3 (T25.setTop (mkF m 46 #[.val (.long v15), .second, .val (.long t0), .second, .val (.long v17), .second, .val (.long d1), .second, .val (.long v19), .second, .val (.long d2), .second, .val (.int v12), .val (.long (4611686018427387903 : Int64)), .second, .val (.ref b20), .unset, .unset, .unset, .unset, .unset, .unset, .unset] [(.long d1), (.long t0)]))
  refine Go.st (fun _ k => XS.ladd X25.here hx rfl (hb hby at_46) rfl k) ?_
  show Go p e below s Q 1 3 (T25.setTop (mkF m 47 #[.val (.long v15), .second, .val (.long t0), .second, .val (.long v17), .second, .val (.long d1), .second, .val (.long v19), .second, .val (.long d2), .second, .val (.int v12), .val (.long (4611686018427387903 : Int64)), .second, .val (.ref b20), .unset, .unset, .unset, .unset, .unset, .unset, .unset] [(.long (t0 + d1))]))
  refine Go.st (fun _ k => XS.lstore X25.here hx rfl (hb hby at_47) rfl (l' := #[.val (.long v15), .second, .val (.long t0), .second, .val (.long v17), .second, .val (.long d1), .second, .val (.long v19), .second, .val (.long d2), .second, .val (.int v12), .val (.long (4611686018427387903 : Int64)), .second, .val (.ref b20), .val (.long (t0 + d1)), .second, .unset, .unset, .unset, .unset, .unset]) rfl k) ?_
  show Go p e below s Q 1 3 (T25.setTop (mkF m 49 #[.val (.long v15), .second, .val (.long t0), .second, .val (.long v17), .second, .val (.long d1), .second, .val (.long v19), .second, .val (.long d2), .second, .val (.int v12), .val (.long (4611686018427387903 : Int64)), .second, .val (.ref b20), .val (.long (t0 + d1)), .second, .unset, .unset, .unset, .unset, .unset] []))
  have f32 := c_ladd t0 d1
  have f33 := rng64 (t0 + d1)
  generalize hv_v34 : (t0 + d1) = v34 at f32 f33 ⊢
  refine Go.st (fun _ k => XS.aload X25.here hx rfl (hb hby at_49) rfl rfl k) ?_
  show Go p e below s Q 1 3 (T25.setTop (mkF m 51 #[.val (.long v15), .second, .val (.long t0), .second, .val (.long v17), .second, .val (.long d1), .second, .val (.long v19), .second, .val (.long d2), .second, .val (.int v12), .val (.long (4611686018427387903 : Int64)), .second, .val (.ref b20), .val (.long v34), .second, .unset, .unset, .unset, .unset, .unset] [(.ref b20)]))
  refine Go.st (fun _ k => XS.lload X25.here hx rfl (hb hby at_51) rfl k) ?_
  show Go p e below s Q 1 3 (T25.setTop (mkF m 53 #[.val (.long v15), .second, .val (.long t0), .second, .val (.long v17), .second, .val (.long d1), .second, .val (.long v19), .second, .val (.long d2), .second, .val (.int v12), .val (.long (4611686018427387903 : Int64)), .second, .val (.ref b20), .val (.long v34), .second, .unset, .unset, .unset, .unset, .unset] [(.long v17), (.ref b20)]))
  refine Go.st (fun _ k => XS.lload X25.here hx rfl (hb hby at_53) rfl k) ?_
  show Go p e below s Q 1 3 (T25.setTop (mkF m 55 #[.val (.long v15), .second, .val (.long t0), .second, .val (.long v17), .second, .val (.long d1), .second, .val (.long v19), .second, .val (.long d2), .second, .val (.int v12), .val (.long (4611686018427387903 : Int64)), .second, .val (.ref b20), .val (.long v34), .second, .unset, .unset, .unset, .unset, .unset] [(.long v34), (.long v17), (.ref b20)]))
  have p36 : 0 ≤ (0 : Int64).toInt ∧ (0 : Int64).toInt < 50 := by omega
  obtain ⟨cq35, kq35, q35a, q35b, q35c⟩ := isOf hZ rfl h27
  obtain ⟨_, _, ⟨T35, L35, k35, n35⟩, -, X35, ⟨Lc35, hQ35, l35, y35, z35⟩, st35⟩ := X25.virtualBack hx (y := (⟨"com/example/ballast/ballast/database/CompactionPolicy", "written", "(JJ)Z"⟩ : MethodName)) (z := (⟨"com/example/ballast/ballast/database/CompactionPolicy", "written", "(JJ)Z"⟩ : MethodName)) hown (mvT hZ (hw _ (List.mem_of_getElem? (i := 14) rfl))) (mvT hZ (hw _ (List.mem_of_getElem? (i := 15) rfl))) (notFace_of_selects (args := #[]) (mvT hZ (hw _ (List.mem_of_getElem? (i := 17) rfl)))) (mvT hZ (hw _ (List.mem_of_getElem? (i := 17) rfl))) (mvT hZ (hw _ (List.mem_of_getElem? (i := 16) rfl))) (by decide) (backOf (W := 0) (rm3 l Z a0 hw [] b20 v17 v34 v15 t0 (0 : Int64) T25.heap n0 (Nat.le_trans Z0 K25.1) h27 Gb20 h31 h28 h29 h30 p36) hZ (hw _ (List.mem_of_getElem? (i := 18) rfl)) (hw _ (List.mem_of_getElem? (i := 3) rfl)) (by decide) (by decide)) q35a q35c (g := (mkF m 55 #[.val (.long v15), .second, .val (.long t0), .second, .val (.long v17), .second, .val (.long d1), .second, .val (.long v19), .second, .val (.long d2), .second, .val (.int v12), .val (.long (4611686018427387903 : Int64)), .second, .val (.ref b20), .val (.long v34), .second, .unset, .unset, .unset, .unset, .unset] [(.long v34), (.long v17), (.ref b20)])) rfl (by rw [hml]; rfl) (Steps.refl _) (argsL := [(.long v17), (.long v34)]) (rest := []) (lenOf pd_1 rfl) rfl (by show 2 * 0 + _ ≤ _; exact Nat.le_of_eq rfl) (hb hby at_55) (fun _ _ => ⟨rfl, rfl, (by decide : 1 + 0 ≤ _), (by decide : 3 + 0 ≤ _)⟩)
  dsimp only [Pt.U, Pt.locs, Pt.cells, Pt.slots] at X35 l35 y35 z35 st35 hQ35
  subst l35 y35 z35
  obtain ⟨r_37, tn_38, rfl, N35q, f39, f40, K35q, h41, h42, h43, h44⟩ := hQ35
  have N35 := Fr.app N25 N35q
  have h45 : Sta Z T35.heap "com/example/ballast/ballast/database/CompactionPolicy" "MIN_NANOS" "J" (.long (600000000000 : Int64)) := Jvm.OwnGo.sta_keep h31 K35q (fun x hx => (allS (P := fun x => Exi T25.heap x) (exi_exa h27) all0) x hx)
  have K35 : Keep h0 T35.heap [] := K25.trans K35q (fun x hx => (show ∀ x ∈ ([b20] : List Addr), x ∈ ([] : List Addr) ∨ h0.size ≤ x from (allS (Or.inr szb20) all0)) x hx)
  refine Go.tr  st35 ?_
  show Go p e below s Q 1 3 (T35.setTop (mkF m 58 #[.val (.long v15), .second, .val (.long t0), .second, .val (.long v17), .second, .val (.long d1), .second, .val (.long v19), .second, .val (.long d2), .second, .val (.int v12), .val (.long (4611686018427387903 : Int64)), .second, .val (.ref b20), .val (.long v34), .second, .unset, .unset, .unset, .unset, .unset] [(.int r_37)]))
  have f46 := rng32 r_37
  refine Go.st (fun _ k => XS.lloadN X35.here hx rfl (hb hby at_58) rfl k) ?_
  show Go p e below s Q 1 3 (T35.setTop (mkF m 59 #[.val (.long v15), .second, .val (.long t0), .second, .val (.long v17), .second, .val (.long d1), .second, .val (.long v19), .second, .val (.long d2), .second, .val (.int v12), .val (.long (4611686018427387903 : Int64)), .second, .val (.ref b20), .val (.long v34), .second, .unset, .unset, .unset, .unset, .unset] [(.long v15), (.int r_37)]))
  refine Go.st (fun _ k => XS.lload X35.here hx rfl (hb hby at_59) rfl k) ?_
  show Go p e below s Q 1 3 (T35.setTop (mkF m 61 #[.val (.long v15), .second, .val (.long t0), .second, .val (.long v17), .second, .val (.long d1), .second, .val (.long v19), .second, .val (.long d2), .second, .val (.int v12), .val (.long (4611686018427387903 : Int64)), .second, .val (.ref b20), .val (.long v34), .second, .unset, .unset, .unset, .unset, .unset] [(.long v17), (.long v15), (.int r_37)]))
  refine Go.st (fun _ k => XS.lload X35.here hx rfl (hb hby at_61) rfl k) ?_
  show Go p e below s Q 1 3 (T35.setTop (mkF m 63 #[.val (.long v15), .second, .val (.long t0), .second, .val (.long v17), .second, .val (.long d1), .second, .val (.long v19), .second, .val (.long d2), .second, .val (.int v12), .val (.long (4611686018427387903 : Int64)), .second, .val (.ref b20), .val (.long v34), .second, .unset, .unset, .unset, .unset, .unset] [(.long d1), (.long v17), (.long v15), (.int r_37)]))
  obtain ⟨_, _, ⟨T47, L47, k47, n47⟩, -, X47, ⟨Lc47, hQ47, l47, y47, z47⟩, st47⟩ := Jvm.LawKit.callS X35 hx (y := (⟨"com/example/ballast/ballast/database/CompactionPolicyWrittenPinLaw", "due", "(JJJ)Z"⟩ : MethodName)) hown (mvT hZ (hw _ (List.mem_of_getElem? (i := 26) rfl))) (mvT hZ (hw _ (List.mem_of_getElem? (i := 27) rfl))) (mvT hZ (hw _ (List.mem_of_getElem? (i := 28) rfl))) (mvT hZ (hw _ (List.mem_of_getElem? (i := 29) rfl))) (by decide) (backOf (W := 1) (rm4 l Z a0 hw [] v15 v17 d1 T35.heap n0 (Nat.le_trans Z0 K35.1) ) hZ (hw _ (List.mem_of_getElem? (i := 29) rfl)) (hw _ (List.mem_of_getElem? (i := 28) rfl)) (by decide) (by decide)) (g := (mkF m 63 #[.val (.long v15), .second, .val (.long t0), .second, .val (.long v17), .second, .val (.long d1), .second, .val (.long v19), .second, .val (.long d2), .second, .val (.int v12), .val (.long (4611686018427387903 : Int64)), .second, .val (.ref b20), .val (.long v34), .second, .unset, .unset, .unset, .unset, .unset] [(.long d1), (.long v17), (.long v15), (.int r_37)])) rfl (by rw [hml]; rfl) (argsL := [(.long v15), (.long v17), (.long d1)]) (rest := [(.int r_37)]) (lenOf pd_2 rfl) rfl (by show 2 * 0 + _ ≤ _; exact Nat.le_of_eq rfl) (hb hby at_63) (fun _ _ => ⟨rfl, rfl, (by decide : 1 + 0 ≤ _), (by decide : 3 + 0 ≤ _)⟩)
  dsimp only [Pt.U, Pt.locs, Pt.cells, Pt.slots] at X47 l47 y47 z47 st47 hQ47
  subst l47 y47 z47
  obtain ⟨r_48, rfl, N47q, f49, e47⟩ := hQ47
  have N47 := Fr.app N35 N47q
  refine Go.st st47 ?_
  show Go p e below s Q 1 3 (T47.setTop (mkF m 66 #[.val (.long v15), .second, .val (.long t0), .second, .val (.long v17), .second, .val (.long d1), .second, .val (.long v19), .second, .val (.long d2), .second, .val (.int v12), .val (.long (4611686018427387903 : Int64)), .second, .val (.ref b20), .val (.long v34), .second, .unset, .unset, .unset, .unset, .unset] [(.int r_48), (.int r_37)]))
  have f50 := rng32 r_48
  have c51 : r_37.toInt = r_48.toInt := by have q1 := c_lmul (2 : Int64) v15; have q2 := rng64 ((2 : Int64) * v15); have q3 := c_lsub v17 v15; have q4 := rng64 (v17 - v15); have q5 := c_lsub v34 t0; have q6 := rng64 (v34 - t0); rw [liJ_2] at q1; omega
  refine Go.st (fun _ k => XS.icmpNo X47.here hx rfl (hb hby at_66) rfl (teq (eqI rfl rfl c51)).2 k) ?_
  show Go p e below s Q 1 3 (T47.setTop (mkF m 69 #[.val (.long v15), .second, .val (.long t0), .second, .val (.long v17), .second, .val (.long d1), .second, .val (.long v19), .second, .val (.long d2), .second, .val (.int v12), .val (.long (4611686018427387903 : Int64)), .second, .val (.ref b20), .val (.long v34), .second, .unset, .unset, .unset, .unset, .unset] []))
  refine Go.st (fun _ k => XS.iconst X47.here hx rfl (hb hby at_69) k) ?_
  show Go p e below s Q 1 3 (T47.setTop (mkF m 70 #[.val (.long v15), .second, .val (.long t0), .second, .val (.long v17), .second, .val (.long d1), .second, .val (.long v19), .second, .val (.long d2), .second, .val (.int v12), .val (.long (4611686018427387903 : Int64)), .second, .val (.ref b20), .val (.long v34), .second, .unset, .unset, .unset, .unset, .unset] [(.int (1 : Int32))]))
  refine Go.st (fun _ k => XS.goto X47.here hx rfl (pc0 := 70) (pc' := 74) rfl (hb hby at_70) (by decide) (by decide) k) ?_
  show Go p e below s Q 1 3 (T47.setTop (mkF m 74 #[.val (.long v15), .second, .val (.long t0), .second, .val (.long v17), .second, .val (.long d1), .second, .val (.long v19), .second, .val (.long d2), .second, .val (.int v12), .val (.long (4611686018427387903 : Int64)), .second, .val (.ref b20), .val (.long v34), .second, .unset, .unset, .unset, .unset, .unset] [(.int (1 : Int32))]))
  refine Go.st (fun _ k => XS.istore X47.here hx rfl (hb hby at_74) rfl (l' := #[.val (.long v15), .second, .val (.long t0), .second, .val (.long v17), .second, .val (.long d1), .second, .val (.long v19), .second, .val (.long d2), .second, .val (.int v12), .val (.long (4611686018427387903 : Int64)), .second, .val (.ref b20), .val (.long v34), .second, .val (.int (1 : Int32)), .unset, .unset, .unset, .unset]) rfl k) ?_
  show Go p e below s Q 1 3 (T47.setTop (mkF m 76 #[.val (.long v15), .second, .val (.long t0), .second, .val (.long v17), .second, .val (.long d1), .second, .val (.long v19), .second, .val (.long d2), .second, .val (.int v12), .val (.long (4611686018427387903 : Int64)), .second, .val (.ref b20), .val (.long v34), .second, .val (.int (1 : Int32)), .unset, .unset, .unset, .unset] []))
  refine Go.st (fun _ k => XS.lload X47.here hx rfl (hb hby at_76) rfl k) ?_
  show Go p e below s Q 1 3 (T47.setTop (mkF m 78 #[.val (.long v15), .second, .val (.long t0), .second, .val (.long v17), .second, .val (.long d1), .second, .val (.long v19), .second, .val (.long d2), .second, .val (.int v12), .val (.long (4611686018427387903 : Int64)), .second, .val (.ref b20), .val (.long v34), .second, .val (.int (1 : Int32)), .unset, .unset, .unset, .unset] [(.long v34)]))
  refine Go.st (fun _ k => XS.lload X47.here hx rfl (hb hby at_78) rfl k) ?_
  show Go p e below s Q 1 3 (T47.setTop (mkF m 80 #[.val (.long v15), .second, .val (.long t0), .second, .val (.long v17), .second, .val (.long d1), .second, .val (.long v19), .second, .val (.long d2), .second, .val (.int v12), .val (.long (4611686018427387903 : Int64)), .second, .val (.ref b20), .val (.long v34), .second, .val (.int (1 : Int32)), .unset, .unset, .unset, .unset] [(.long d2), (.long v34)]))
  refine Go.st (fun _ k => XS.ladd X47.here hx rfl (hb hby at_80) rfl k) ?_
  show Go p e below s Q 1 3 (T47.setTop (mkF m 81 #[.val (.long v15), .second, .val (.long t0), .second, .val (.long v17), .second, .val (.long d1), .second, .val (.long v19), .second, .val (.long d2), .second, .val (.int v12), .val (.long (4611686018427387903 : Int64)), .second, .val (.ref b20), .val (.long v34), .second, .val (.int (1 : Int32)), .unset, .unset, .unset, .unset] [(.long (v34 + d2))]))
  refine Go.st (fun _ k => XS.lstore X47.here hx rfl (hb hby at_81) rfl (l' := #[.val (.long v15), .second, .val (.long t0), .second, .val (.long v17), .second, .val (.long d1), .second, .val (.long v19), .second, .val (.long d2), .second, .val (.int v12), .val (.long (4611686018427387903 : Int64)), .second, .val (.ref b20), .val (.long v34), .second, .val (.int (1 : Int32)), .val (.long (v34 + d2)), .second, .unset, .unset]) rfl k) ?_
  show Go p e below s Q 1 3 (T47.setTop (mkF m 83 #[.val (.long v15), .second, .val (.long t0), .second, .val (.long v17), .second, .val (.long d1), .second, .val (.long v19), .second, .val (.long d2), .second, .val (.int v12), .val (.long (4611686018427387903 : Int64)), .second, .val (.ref b20), .val (.long v34), .second, .val (.int (1 : Int32)), .val (.long (v34 + d2)), .second, .unset, .unset] []))
  have f52 := c_ladd v34 d2
  have f53 := rng64 (v34 + d2)
  generalize hv_v54 : (v34 + d2) = v54 at f52 f53 ⊢
  refine Go.st (fun _ k => XS.iload X47.here hx rfl (hb hby at_83) rfl k) ?_
  show Go p e below s Q 1 3 (T47.setTop (mkF m 85 #[.val (.long v15), .second, .val (.long t0), .second, .val (.long v17), .second, .val (.long d1), .second, .val (.long v19), .second, .val (.long d2), .second, .val (.int v12), .val (.long (4611686018427387903 : Int64)), .second, .val (.ref b20), .val (.long v34), .second, .val (.int (1 : Int32)), .val (.long v54), .second, .unset, .unset] [(.int v12)]))
  refine Go.st (fun _ k => XS.iconst X47.here hx rfl (hb hby at_85) k) ?_
  show Go p e below s Q 1 3 (T47.setTop (mkF m 86 #[.val (.long v15), .second, .val (.long t0), .second, .val (.long v17), .second, .val (.long d1), .second, .val (.long v19), .second, .val (.long d2), .second, .val (.int v12), .val (.long (4611686018427387903 : Int64)), .second, .val (.ref b20), .val (.long v34), .second, .val (.int (1 : Int32)), .val (.long v54), .second, .unset, .unset] [(.int (1 : Int32)), (.int v12)]))
  have f55 := liI_1
  by_cases c56 : v12.toInt = 1
  ·
    refine Go.st (fun _ k => XS.icmpNo X47.here hx rfl (hb hby at_86) rfl (teq (eqI rfl liI_1 c56)).2 k) ?_
    show Go p e below s Q 1 3 (T47.setTop (mkF m 89 #[.val (.long v15), .second, .val (.long t0), .second, .val (.long v17), .second, .val (.long d1), .second, .val (.long v19), .second, .val (.long d2), .second, .val (.int v12), .val (.long (4611686018427387903 : Int64)), .second, .val (.ref b20), .val (.long v34), .second, .val (.int (1 : Int32)), .val (.long v54), .second, .unset, .unset] []))
    refine Go.st (fun _ k => XS.aload X47.here hx rfl (hb hby at_89) rfl rfl k) ?_
    show Go p e below s Q 1 3 (T47.setTop (mkF m 91 #[.val (.long v15), .second, .val (.long t0), .second, .val (.long v17), .second, .val (.long d1), .second, .val (.long v19), .second, .val (.long d2), .second, .val (.int v12), .val (.long (4611686018427387903 : Int64)), .second, .val (.ref b20), .val (.long v34), .second, .val (.int (1 : Int32)), .val (.long v54), .second, .unset, .unset] [(.ref b20)]))
    refine Go.st (fun _ k => XS.lload X47.here hx rfl (hb hby at_91) rfl k) ?_
    show Go p e below s Q 1 3 (T47.setTop (mkF m 93 #[.val (.long v15), .second, .val (.long t0), .second, .val (.long v17), .second, .val (.long d1), .second, .val (.long v19), .second, .val (.long d2), .second, .val (.int v12), .val (.long (4611686018427387903 : Int64)), .second, .val (.ref b20), .val (.long v34), .second, .val (.int (1 : Int32)), .val (.long v54), .second, .unset, .unset] [(.long v17), (.ref b20)]))
    refine Go.st (fun _ k => XS.lload X47.here hx rfl (hb hby at_93) rfl k) ?_
    show Go p e below s Q 1 3 (T47.setTop (mkF m 95 #[.val (.long v15), .second, .val (.long t0), .second, .val (.long v17), .second, .val (.long d1), .second, .val (.long v19), .second, .val (.long d2), .second, .val (.int v12), .val (.long (4611686018427387903 : Int64)), .second, .val (.ref b20), .val (.long v34), .second, .val (.int (1 : Int32)), .val (.long v54), .second, .unset, .unset] [(.long v34), (.long v17), (.ref b20)]))
    have f58 := rng64 tn_38
    obtain ⟨cq57, kq57, q57a, q57b, q57c⟩ := isOf hZ e47 h41
    obtain ⟨_, _, ⟨T57, L57, k57, n57⟩, -, X57, ⟨Lc57, hQ57, l57, y57, z57⟩, st57⟩ := X47.virtualBack hx (y := (⟨"com/example/ballast/ballast/database/CompactionPolicy", "compacted", "(JJ)V"⟩ : MethodName)) (z := (⟨"com/example/ballast/ballast/database/CompactionPolicy", "compacted", "(JJ)V"⟩ : MethodName)) hown (mvT hZ (hw _ (List.mem_of_getElem? (i := 32) rfl))) (mvT hZ (hw _ (List.mem_of_getElem? (i := 33) rfl))) (notFace_of_selects (args := #[]) (mvT hZ (hw _ (List.mem_of_getElem? (i := 35) rfl)))) (mvT hZ (hw _ (List.mem_of_getElem? (i := 35) rfl))) (mvT hZ (hw _ (List.mem_of_getElem? (i := 34) rfl))) (by decide) (backOf (W := 0) (rm5 l Z a0 hw [] b20 v17 v34 v15 t0 tn_38 T35.heap n0 (Nat.le_trans Z0 K35.1) h41 Gb20 h42 h43 h44) hZ (hw _ (List.mem_of_getElem? (i := 36) rfl)) (hw _ (List.mem_of_getElem? (i := 3) rfl)) (by decide) (by decide)) q57a q57c (g := (mkF m 95 #[.val (.long v15), .second, .val (.long t0), .second, .val (.long v17), .second, .val (.long d1), .second, .val (.long v19), .second, .val (.long d2), .second, .val (.int v12), .val (.long (4611686018427387903 : Int64)), .second, .val (.ref b20), .val (.long v34), .second, .val (.int (1 : Int32)), .val (.long v54), .second, .unset, .unset] [(.long v34), (.long v17), (.ref b20)])) rfl (by rw [hml]; rfl) (Steps.refl _) (argsL := [(.long v17), (.long v34)]) (rest := []) (lenOf pd_0 rfl) rfl (by show 2 * 0 + _ ≤ _; exact Nat.le_of_eq rfl) (hb hby at_95) (fun _ _ => ⟨rfl, e47, (by decide : 1 + 0 ≤ _), (by decide : 3 + 0 ≤ _)⟩)
    dsimp only [Pt.U, Pt.locs, Pt.cells, Pt.slots] at X57 l57 y57 z57 st57 hQ57
    subst l57 y57 z57
    obtain ⟨rfl, N57q, K57q, h59, h60, h61, h62⟩ := hQ57
    have N57 := Fr.app N47 N57q
    have h63 : Sta Z T57.heap "com/example/ballast/ballast/database/CompactionPolicy" "MIN_NANOS" "J" (.long (600000000000 : Int64)) := Jvm.OwnGo.sta_keep h45 K57q (fun x hx => (allS (P := fun x => Exi T35.heap x) (exi_exa h41) all0) x hx)
    have K57 : Keep h0 T57.heap [] := K35.trans K57q (fun x hx => (show ∀ x ∈ ([b20] : List Addr), x ∈ ([] : List Addr) ∨ h0.size ≤ x from (allS (Or.inr szb20) all0)) x hx)
    refine Go.tr  st57 ?_
    show Go p e below s Q 1 3 (T57.setTop (mkF m 98 #[.val (.long v15), .second, .val (.long t0), .second, .val (.long v17), .second, .val (.long d1), .second, .val (.long v19), .second, .val (.long d2), .second, .val (.int v12), .val (.long (4611686018427387903 : Int64)), .second, .val (.ref b20), .val (.long v34), .second, .val (.int (1 : Int32)), .val (.long v54), .second, .unset, .unset] []))
    refine Go.st (fun _ k => XS.lload X57.here hx rfl (hb hby at_98) rfl k) ?_
    show Go p e below s Q 1 3 (T57.setTop (mkF m 100 #[.val (.long v15), .second, .val (.long t0), .second, .val (.long v17), .second, .val (.long d1), .second, .val (.long v19), .second, .val (.long d2), .second, .val (.int v12), .val (.long (4611686018427387903 : Int64)), .second, .val (.ref b20), .val (.long v34), .second, .val (.int (1 : Int32)), .val (.long v54), .second, .unset, .unset] [(.long v17)]))
    refine Go.st (fun _ k => XS.lload X57.here hx rfl (hb hby at_100) rfl k) ?_
    show Go p e below s Q 1 3 (T57.setTop (mkF m 102 #[.val (.long v15), .second, .val (.long t0), .second, .val (.long v17), .second, .val (.long d1), .second, .val (.long v19), .second, .val (.long d2), .second, .val (.int v12), .val (.long (4611686018427387903 : Int64)), .second, .val (.ref b20), .val (.long v34), .second, .val (.int (1 : Int32)), .val (.long v54), .second, .unset, .unset] [(.long v19), (.long v17)]))
    refine Go.st (fun _ k => XS.lload X57.here hx rfl (hb hby at_102) rfl k) ?_
    show Go p e below s Q 1 3 (T57.setTop (mkF m 104 #[.val (.long v15), .second, .val (.long t0), .second, .val (.long v17), .second, .val (.long d1), .second, .val (.long v19), .second, .val (.long d2), .second, .val (.int v12), .val (.long (4611686018427387903 : Int64)), .second, .val (.ref b20), .val (.long v34), .second, .val (.int (1 : Int32)), .val (.long v54), .second, .unset, .unset] [(.long d2), (.long v19), (.long v17)]))
    obtain ⟨_, _, ⟨T64, L64, k64, n64⟩, -, X64, ⟨Lc64, hQ64, l64, y64, z64⟩, st64⟩ := Jvm.LawKit.callS X57 hx (y := (⟨"com/example/ballast/ballast/database/CompactionPolicyWrittenPinLaw", "due", "(JJJ)Z"⟩ : MethodName)) hown (mvT hZ (hw _ (List.mem_of_getElem? (i := 26) rfl))) (mvT hZ (hw _ (List.mem_of_getElem? (i := 27) rfl))) (mvT hZ (hw _ (List.mem_of_getElem? (i := 28) rfl))) (mvT hZ (hw _ (List.mem_of_getElem? (i := 29) rfl))) (by decide) (backOf (W := 0) (rm4 l Z a0 hw [] v17 v19 d2 T57.heap n0 (Nat.le_trans Z0 K57.1) ) hZ (hw _ (List.mem_of_getElem? (i := 29) rfl)) (hw _ (List.mem_of_getElem? (i := 28) rfl)) (by decide) (by decide)) (g := (mkF m 104 #[.val (.long v15), .second, .val (.long t0), .second, .val (.long v17), .second, .val (.long d1), .second, .val (.long v19), .second, .val (.long d2), .second, .val (.int v12), .val (.long (4611686018427387903 : Int64)), .second, .val (.ref b20), .val (.long v34), .second, .val (.int (1 : Int32)), .val (.long v54), .second, .unset, .unset] [(.long d2), (.long v19), (.long v17)])) rfl (by rw [hml]; rfl) (argsL := [(.long v17), (.long v19), (.long d2)]) (rest := []) (lenOf pd_2 rfl) rfl (by show 2 * 0 + _ ≤ _; exact Nat.le_of_eq rfl) (hb hby at_104) (fun _ _ => ⟨rfl, rfl, (by decide : 1 + 0 ≤ _), (by decide : 3 + 0 ≤ _)⟩)
    dsimp only [Pt.U, Pt.locs, Pt.cells, Pt.slots] at X64 l64 y64 z64 st64 hQ64
    subst l64 y64 z64
    obtain ⟨r_65, rfl, N64q, f66, e64⟩ := hQ64
    have N64 := Fr.app N57 N64q
    refine Go.st st64 ?_
    show Go p e below s Q 1 3 (T64.setTop (mkF m 107 #[.val (.long v15), .second, .val (.long t0), .second, .val (.long v17), .second, .val (.long d1), .second, .val (.long v19), .second, .val (.long d2), .second, .val (.int v12), .val (.long (4611686018427387903 : Int64)), .second, .val (.ref b20), .val (.long v34), .second, .val (.int (1 : Int32)), .val (.long v54), .second, .unset, .unset] [(.int r_65)]))
    have f67 := rng32 r_65
    refine Go.st (fun _ k => XS.istore X64.here hx rfl (hb hby at_107) rfl (l' := #[.val (.long v15), .second, .val (.long t0), .second, .val (.long v17), .second, .val (.long d1), .second, .val (.long v19), .second, .val (.long d2), .second, .val (.int v12), .val (.long (4611686018427387903 : Int64)), .second, .val (.ref b20), .val (.long v34), .second, .val (.int (1 : Int32)), .val (.long v54), .second, .val (.int r_65), .unset]) rfl k) ?_
    show Go p e below s Q 1 3 (T64.setTop (mkF m 109 #[.val (.long v15), .second, .val (.long t0), .second, .val (.long v17), .second, .val (.long d1), .second, .val (.long v19), .second, .val (.long d2), .second, .val (.int v12), .val (.long (4611686018427387903 : Int64)), .second, .val (.ref b20), .val (.long v34), .second, .val (.int (1 : Int32)), .val (.long v54), .second, .val (.int r_65), .unset] []))
    refine Go.st (fun _ k => XS.goto X64.here hx rfl (pc0 := 109) (pc' := 151) rfl (hb hby at_109) (by decide) (by decide) k) ?_
    show Go p e below s Q 1 3 (T64.setTop (mkF m 151 #[.val (.long v15), .second, .val (.long t0), .second, .val (.long v17), .second, .val (.long d1), .second, .val (.long v19), .second, .val (.long d2), .second, .val (.int v12), .val (.long (4611686018427387903 : Int64)), .second, .val (.ref b20), .val (.long v34), .second, .val (.int (1 : Int32)), .val (.long v54), .second, .val (.int r_65), .unset] []))
    refine Go.st (fun _ k => XS.aload X64.here hx rfl (hb hby at_151) rfl rfl k) ?_
    show Go p e below s Q 1 3 (T64.setTop (mkF m 153 #[.val (.long v15), .second, .val (.long t0), .second, .val (.long v17), .second, .val (.long d1), .second, .val (.long v19), .second, .val (.long d2), .second, .val (.int v12), .val (.long (4611686018427387903 : Int64)), .second, .val (.ref b20), .val (.long v34), .second, .val (.int (1 : Int32)), .val (.long v54), .second, .val (.int r_65), .unset] [(.ref b20)]))
    refine Go.st (fun _ k => XS.lload X64.here hx rfl (hb hby at_153) rfl k) ?_
    show Go p e below s Q 1 3 (T64.setTop (mkF m 155 #[.val (.long v15), .second, .val (.long t0), .second, .val (.long v17), .second, .val (.long d1), .second, .val (.long v19), .second, .val (.long d2), .second, .val (.int v12), .val (.long (4611686018427387903 : Int64)), .second, .val (.ref b20), .val (.long v34), .second, .val (.int (1 : Int32)), .val (.long v54), .second, .val (.int r_65), .unset] [(.long v19), (.ref b20)]))
    refine Go.st (fun _ k => XS.lload X64.here hx rfl (hb hby at_155) rfl k) ?_
    show Go p e below s Q 1 3 (T64.setTop (mkF m 157 #[.val (.long v15), .second, .val (.long t0), .second, .val (.long v17), .second, .val (.long d1), .second, .val (.long v19), .second, .val (.long d2), .second, .val (.int v12), .val (.long (4611686018427387903 : Int64)), .second, .val (.ref b20), .val (.long v34), .second, .val (.int (1 : Int32)), .val (.long v54), .second, .val (.int r_65), .unset] [(.long v54), (.long v19), (.ref b20)]))
    have p69 : 0 ≤ (0 : Int64).toInt ∧ (0 : Int64).toInt < 50 := by omega
    obtain ⟨cq68, kq68, q68a, q68b, q68c⟩ := isOf hZ e64 h59
    obtain ⟨_, _, ⟨T68, L68, k68, n68⟩, -, X68, ⟨Lc68, hQ68, l68, y68, z68⟩, st68⟩ := X64.virtualBack hx (y := (⟨"com/example/ballast/ballast/database/CompactionPolicy", "written", "(JJ)Z"⟩ : MethodName)) (z := (⟨"com/example/ballast/ballast/database/CompactionPolicy", "written", "(JJ)Z"⟩ : MethodName)) hown (mvT hZ (hw _ (List.mem_of_getElem? (i := 14) rfl))) (mvT hZ (hw _ (List.mem_of_getElem? (i := 15) rfl))) (notFace_of_selects (args := #[]) (mvT hZ (hw _ (List.mem_of_getElem? (i := 17) rfl)))) (mvT hZ (hw _ (List.mem_of_getElem? (i := 17) rfl))) (mvT hZ (hw _ (List.mem_of_getElem? (i := 16) rfl))) (by decide) (backOf (W := 0) (rm3 l Z a0 hw [] b20 v19 v54 v17 v34 (0 : Int64) T57.heap n0 (Nat.le_trans Z0 K57.1) h59 Gb20 h63 h60 h61 h62 p69) hZ (hw _ (List.mem_of_getElem? (i := 18) rfl)) (hw _ (List.mem_of_getElem? (i := 3) rfl)) (by decide) (by decide)) q68a q68c (g := (mkF m 157 #[.val (.long v15), .second, .val (.long t0), .second, .val (.long v17), .second, .val (.long d1), .second, .val (.long v19), .second, .val (.long d2), .second, .val (.int v12), .val (.long (4611686018427387903 : Int64)), .second, .val (.ref b20), .val (.long v34), .second, .val (.int (1 : Int32)), .val (.long v54), .second, .val (.int r_65), .unset] [(.long v54), (.long v19), (.ref b20)])) rfl (by rw [hml]; rfl) (Steps.refl _) (argsL := [(.long v19), (.long v54)]) (rest := []) (lenOf pd_1 rfl) rfl (by show 2 * 0 + _ ≤ _; exact Nat.le_of_eq rfl) (hb hby at_157) (fun _ _ => ⟨rfl, e64, (by decide : 1 + 0 ≤ _), (by decide : 3 + 0 ≤ _)⟩)
    dsimp only [Pt.U, Pt.locs, Pt.cells, Pt.slots] at X68 l68 y68 z68 st68 hQ68
    subst l68 y68 z68
    obtain ⟨r_70, tn_71, rfl, N68q, f72, f73, K68q, h74, h75, h76, h77⟩ := hQ68
    have N68 := Fr.app N64 N68q
    have h78 : Sta Z T68.heap "com/example/ballast/ballast/database/CompactionPolicy" "MIN_NANOS" "J" (.long (600000000000 : Int64)) := Jvm.OwnGo.sta_keep h63 K68q (fun x hx => (allS (P := fun x => Exi T57.heap x) (exi_exa h59) all0) x hx)
    have K68 : Keep h0 T68.heap [] := K57.trans K68q (fun x hx => (show ∀ x ∈ ([b20] : List Addr), x ∈ ([] : List Addr) ∨ h0.size ≤ x from (allS (Or.inr szb20) all0)) x hx)
    refine Go.tr  st68 ?_
    show Go p e below s Q 1 3 (T68.setTop (mkF m 160 #[.val (.long v15), .second, .val (.long t0), .second, .val (.long v17), .second, .val (.long d1), .second, .val (.long v19), .second, .val (.long d2), .second, .val (.int v12), .val (.long (4611686018427387903 : Int64)), .second, .val (.ref b20), .val (.long v34), .second, .val (.int (1 : Int32)), .val (.long v54), .second, .val (.int r_65), .unset] [(.int r_70)]))
    have f79 := rng32 r_70
    refine Go.st (fun _ k => XS.iload X68.here hx rfl (hb hby at_160) rfl k) ?_
    show Go p e below s Q 1 3 (T68.setTop (mkF m 162 #[.val (.long v15), .second, .val (.long t0), .second, .val (.long v17), .second, .val (.long d1), .second, .val (.long v19), .second, .val (.long d2), .second, .val (.int v12), .val (.long (4611686018427387903 : Int64)), .second, .val (.ref b20), .val (.long v34), .second, .val (.int (1 : Int32)), .val (.long v54), .second, .val (.int r_65), .unset] [(.int r_65), (.int r_70)]))
    have c80 : r_70.toInt = r_65.toInt := by have q1 := c_lmul (2 : Int64) v17; have q2 := rng64 ((2 : Int64) * v17); have q3 := c_lsub v19 v17; have q4 := rng64 (v19 - v17); have q5 := c_lsub v54 v34; have q6 := rng64 (v54 - v34); rw [liJ_2] at q1; have q8 := c_ladd d1 d2; have q9 := rng64 (d1 + d2); omega
    refine Go.st (fun _ k => XS.icmpNo X68.here hx rfl (hb hby at_162) rfl (teq (eqI rfl rfl c80)).2 k) ?_
    show Go p e below s Q 1 3 (T68.setTop (mkF m 165 #[.val (.long v15), .second, .val (.long t0), .second, .val (.long v17), .second, .val (.long d1), .second, .val (.long v19), .second, .val (.long d2), .second, .val (.int v12), .val (.long (4611686018427387903 : Int64)), .second, .val (.ref b20), .val (.long v34), .second, .val (.int (1 : Int32)), .val (.long v54), .second, .val (.int r_65), .unset] []))
    refine Go.st (fun _ k => XS.iconst X68.here hx rfl (hb hby at_165) k) ?_
    show Go p e below s Q 1 3 (T68.setTop (mkF m 166 #[.val (.long v15), .second, .val (.long t0), .second, .val (.long v17), .second, .val (.long d1), .second, .val (.long v19), .second, .val (.long d2), .second, .val (.int v12), .val (.long (4611686018427387903 : Int64)), .second, .val (.ref b20), .val (.long v34), .second, .val (.int (1 : Int32)), .val (.long v54), .second, .val (.int r_65), .unset] [(.int (1 : Int32))]))
    refine Go.st (fun _ k => XS.goto X68.here hx rfl (pc0 := 166) (pc' := 170) rfl (hb hby at_166) (by decide) (by decide) k) ?_
    show Go p e below s Q 1 3 (T68.setTop (mkF m 170 #[.val (.long v15), .second, .val (.long t0), .second, .val (.long v17), .second, .val (.long d1), .second, .val (.long v19), .second, .val (.long d2), .second, .val (.int v12), .val (.long (4611686018427387903 : Int64)), .second, .val (.ref b20), .val (.long v34), .second, .val (.int (1 : Int32)), .val (.long v54), .second, .val (.int r_65), .unset] [(.int (1 : Int32))]))
    refine Go.st (fun _ k => XS.istore X68.here hx rfl (hb hby at_170) rfl (l' := #[.val (.long v15), .second, .val (.long t0), .second, .val (.long v17), .second, .val (.long d1), .second, .val (.long v19), .second, .val (.long d2), .second, .val (.int v12), .val (.long (4611686018427387903 : Int64)), .second, .val (.ref b20), .val (.long v34), .second, .val (.int (1 : Int32)), .val (.long v54), .second, .val (.int r_65), .val (.int (1 : Int32))]) rfl k) ?_
    show Go p e below s Q 1 3 (T68.setTop (mkF m 172 #[.val (.long v15), .second, .val (.long t0), .second, .val (.long v17), .second, .val (.long d1), .second, .val (.long v19), .second, .val (.long d2), .second, .val (.int v12), .val (.long (4611686018427387903 : Int64)), .second, .val (.ref b20), .val (.long v34), .second, .val (.int (1 : Int32)), .val (.long v54), .second, .val (.int r_65), .val (.int (1 : Int32))] []))
    refine Go.st (fun _ k => XS.iload X68.here hx rfl (hb hby at_172) rfl k) ?_
    show Go p e below s Q 1 3 (T68.setTop (mkF m 174 #[.val (.long v15), .second, .val (.long t0), .second, .val (.long v17), .second, .val (.long d1), .second, .val (.long v19), .second, .val (.long d2), .second, .val (.int v12), .val (.long (4611686018427387903 : Int64)), .second, .val (.ref b20), .val (.long v34), .second, .val (.int (1 : Int32)), .val (.long v54), .second, .val (.int r_65), .val (.int (1 : Int32))] [(.int (1 : Int32))]))
    refine Go.st (fun _ k => XS.ifNo X68.here hx rfl (hb hby at_174) rfl ((if0 _ _).trans (feq (neI liI_1 liI_0 (by decide))).1) k) ?_
    show Go p e below s Q 1 3 (T68.setTop (mkF m 177 #[.val (.long v15), .second, .val (.long t0), .second, .val (.long v17), .second, .val (.long d1), .second, .val (.long v19), .second, .val (.long d2), .second, .val (.int v12), .val (.long (4611686018427387903 : Int64)), .second, .val (.ref b20), .val (.long v34), .second, .val (.int (1 : Int32)), .val (.long v54), .second, .val (.int r_65), .val (.int (1 : Int32))] []))
    refine Go.st (fun _ k => XS.iload X68.here hx rfl (hb hby at_177) rfl k) ?_
    show Go p e below s Q 1 3 (T68.setTop (mkF m 179 #[.val (.long v15), .second, .val (.long t0), .second, .val (.long v17), .second, .val (.long d1), .second, .val (.long v19), .second, .val (.long d2), .second, .val (.int v12), .val (.long (4611686018427387903 : Int64)), .second, .val (.ref b20), .val (.long v34), .second, .val (.int (1 : Int32)), .val (.long v54), .second, .val (.int r_65), .val (.int (1 : Int32))] [(.int (1 : Int32))]))
    refine Go.st (fun _ k => XS.ifNo X68.here hx rfl (hb hby at_179) rfl ((if0 _ _).trans (feq (neI liI_1 liI_0 (by decide))).1) k) ?_
    show Go p e below s Q 1 3 (T68.setTop (mkF m 182 #[.val (.long v15), .second, .val (.long t0), .second, .val (.long v17), .second, .val (.long d1), .second, .val (.long v19), .second, .val (.long d2), .second, .val (.int v12), .val (.long (4611686018427387903 : Int64)), .second, .val (.ref b20), .val (.long v34), .second, .val (.int (1 : Int32)), .val (.long v54), .second, .val (.int r_65), .val (.int (1 : Int32))] []))
    refine Go.st (fun _ k => XS.iconst X68.here hx rfl (hb hby at_182) k) ?_
    show Go p e below s Q 1 3 (T68.setTop (mkF m 183 #[.val (.long v15), .second, .val (.long t0), .second, .val (.long v17), .second, .val (.long d1), .second, .val (.long v19), .second, .val (.long d2), .second, .val (.int v12), .val (.long (4611686018427387903 : Int64)), .second, .val (.ref b20), .val (.long v34), .second, .val (.int (1 : Int32)), .val (.long v54), .second, .val (.int r_65), .val (.int (1 : Int32))] [(.int (1 : Int32))]))
    refine Go.st (fun _ k => XS.goto X68.here hx rfl (pc0 := 183) (pc' := 187) rfl (hb hby at_183) (by decide) (by decide) k) ?_
    show Go p e below s Q 1 3 (T68.setTop (mkF m 187 #[.val (.long v15), .second, .val (.long t0), .second, .val (.long v17), .second, .val (.long d1), .second, .val (.long v19), .second, .val (.long d2), .second, .val (.int v12), .val (.long (4611686018427387903 : Int64)), .second, .val (.ref b20), .val (.long v34), .second, .val (.int (1 : Int32)), .val (.long v54), .second, .val (.int r_65), .val (.int (1 : Int32))] [(.int (1 : Int32))]))
    exact Go.retN X68 hx hlk (by simp) Bd.returns (hb hby at_187) (z' := (1 : Int32)) (by decide) (by rw [← hQ]; exact ⟨rfl, N68, K68⟩) (by decide) (by decide)
  ·
    refine Go.st (fun _ k => XS.icmpYes X47.here hx rfl (pc0 := 86) (pc' := 112) rfl (hb hby at_86) rfl (feq (neI rfl liI_1 c56)).2 (by decide) (by decide) k) ?_
    show Go p e below s Q 1 3 (T47.setTop (mkF m 112 #[.val (.long v15), .second, .val (.long t0), .second, .val (.long v17), .second, .val (.long d1), .second, .val (.long v19), .second, .val (.long d2), .second, .val (.int v12), .val (.long (4611686018427387903 : Int64)), .second, .val (.ref b20), .val (.long v34), .second, .val (.int (1 : Int32)), .val (.long v54), .second, .unset, .unset] []))
    refine Go.st (fun _ k => XS.iload X47.here hx rfl (hb hby at_112) rfl k) ?_
    show Go p e below s Q 1 3 (T47.setTop (mkF m 114 #[.val (.long v15), .second, .val (.long t0), .second, .val (.long v17), .second, .val (.long d1), .second, .val (.long v19), .second, .val (.long d2), .second, .val (.int v12), .val (.long (4611686018427387903 : Int64)), .second, .val (.ref b20), .val (.long v34), .second, .val (.int (1 : Int32)), .val (.long v54), .second, .unset, .unset] [(.int v12)]))
    refine Go.st (fun _ k => XS.iconst X47.here hx rfl (hb hby at_114) k) ?_
    show Go p e below s Q 1 3 (T47.setTop (mkF m 115 #[.val (.long v15), .second, .val (.long t0), .second, .val (.long v17), .second, .val (.long d1), .second, .val (.long v19), .second, .val (.long d2), .second, .val (.int v12), .val (.long (4611686018427387903 : Int64)), .second, .val (.ref b20), .val (.long v34), .second, .val (.int (1 : Int32)), .val (.long v54), .second, .unset, .unset] [(.int (2 : Int32)), (.int v12)]))
    have f81 := liI_2
    by_cases c82 : v12.toInt = 2
    ·
      refine Go.st (fun _ k => XS.icmpNo X47.here hx rfl (hb hby at_115) rfl (teq (eqI rfl liI_2 c82)).2 k) ?_
      show Go p e below s Q 1 3 (T47.setTop (mkF m 118 #[.val (.long v15), .second, .val (.long t0), .second, .val (.long v17), .second, .val (.long d1), .second, .val (.long v19), .second, .val (.long d2), .second, .val (.int v12), .val (.long (4611686018427387903 : Int64)), .second, .val (.ref b20), .val (.long v34), .second, .val (.int (1 : Int32)), .val (.long v54), .second, .unset, .unset] []))
      refine Go.st (fun _ k => XS.aload X47.here hx rfl (hb hby at_118) rfl rfl k) ?_
      show Go p e below s Q 1 3 (T47.setTop (mkF m 120 #[.val (.long v15), .second, .val (.long t0), .second, .val (.long v17), .second, .val (.long d1), .second, .val (.long v19), .second, .val (.long d2), .second, .val (.int v12), .val (.long (4611686018427387903 : Int64)), .second, .val (.ref b20), .val (.long v34), .second, .val (.int (1 : Int32)), .val (.long v54), .second, .unset, .unset] [(.ref b20)]))
      refine Go.st (fun _ k => XS.lload X47.here hx rfl (hb hby at_120) rfl k) ?_
      show Go p e below s Q 1 3 (T47.setTop (mkF m 122 #[.val (.long v15), .second, .val (.long t0), .second, .val (.long v17), .second, .val (.long d1), .second, .val (.long v19), .second, .val (.long d2), .second, .val (.int v12), .val (.long (4611686018427387903 : Int64)), .second, .val (.ref b20), .val (.long v34), .second, .val (.int (1 : Int32)), .val (.long v54), .second, .unset, .unset] [(.long v34), (.ref b20)]))
      have f84 := rng64 tn_38
      obtain ⟨cq83, kq83, q83a, q83b, q83c⟩ := isOf hZ e47 h41
      obtain ⟨_, _, ⟨T83, L83, k83, n83⟩, -, X83, ⟨Lc83, hQ83, l83, y83, z83⟩, st83⟩ := X47.virtualBack hx (y := (⟨"com/example/ballast/ballast/database/CompactionPolicy", "failed", "(J)V"⟩ : MethodName)) (z := (⟨"com/example/ballast/ballast/database/CompactionPolicy", "failed", "(J)V"⟩ : MethodName)) hown (mvT hZ (hw _ (List.mem_of_getElem? (i := 37) rfl))) (mvT hZ (hw _ (List.mem_of_getElem? (i := 38) rfl))) (notFace_of_selects (args := #[]) (mvT hZ (hw _ (List.mem_of_getElem? (i := 40) rfl)))) (mvT hZ (hw _ (List.mem_of_getElem? (i := 40) rfl))) (mvT hZ (hw _ (List.mem_of_getElem? (i := 39) rfl))) (by decide) (backOf (W := 0) (rm6 l Z a0 hw [] b20 v34 v15 t0 tn_38 T35.heap n0 (Nat.le_trans Z0 K35.1) h41 Gb20 h42 h43 h44) hZ (hw _ (List.mem_of_getElem? (i := 41) rfl)) (hw _ (List.mem_of_getElem? (i := 3) rfl)) (by decide) (by decide)) q83a q83c (g := (mkF m 122 #[.val (.long v15), .second, .val (.long t0), .second, .val (.long v17), .second, .val (.long d1), .second, .val (.long v19), .second, .val (.long d2), .second, .val (.int v12), .val (.long (4611686018427387903 : Int64)), .second, .val (.ref b20), .val (.long v34), .second, .val (.int (1 : Int32)), .val (.long v54), .second, .unset, .unset] [(.long v34), (.ref b20)])) rfl (by rw [hml]; rfl) (Steps.refl _) (argsL := [(.long v34)]) (rest := []) (lenOf pd_3 rfl) rfl (by show 2 * 0 + _ ≤ _; exact Nat.le_of_eq rfl) (hb hby at_122) (fun _ _ => ⟨rfl, e47, (by decide : 1 + 0 ≤ _), (by decide : 3 + 0 ≤ _)⟩)
      dsimp only [Pt.U, Pt.locs, Pt.cells, Pt.slots] at X83 l83 y83 z83 st83 hQ83
      subst l83 y83 z83
      obtain ⟨rfl, N83q, K83q, h85, h86, h87, h88⟩ := hQ83
      have N83 := Fr.app N47 N83q
      have h89 : Sta Z T83.heap "com/example/ballast/ballast/database/CompactionPolicy" "MIN_NANOS" "J" (.long (600000000000 : Int64)) := Jvm.OwnGo.sta_keep h45 K83q (fun x hx => (allS (P := fun x => Exi T35.heap x) (exi_exa h41) all0) x hx)
      have K83 : Keep h0 T83.heap [] := K35.trans K83q (fun x hx => (show ∀ x ∈ ([b20] : List Addr), x ∈ ([] : List Addr) ∨ h0.size ≤ x from (allS (Or.inr szb20) all0)) x hx)
      refine Go.tr  st83 ?_
      show Go p e below s Q 1 3 (T83.setTop (mkF m 125 #[.val (.long v15), .second, .val (.long t0), .second, .val (.long v17), .second, .val (.long d1), .second, .val (.long v19), .second, .val (.long d2), .second, .val (.int v12), .val (.long (4611686018427387903 : Int64)), .second, .val (.ref b20), .val (.long v34), .second, .val (.int (1 : Int32)), .val (.long v54), .second, .unset, .unset] []))
      refine Go.st (fun _ k => XS.lloadN X83.here hx rfl (hb hby at_125) rfl k) ?_
      show Go p e below s Q 1 3 (T83.setTop (mkF m 126 #[.val (.long v15), .second, .val (.long t0), .second, .val (.long v17), .second, .val (.long d1), .second, .val (.long v19), .second, .val (.long d2), .second, .val (.int v12), .val (.long (4611686018427387903 : Int64)), .second, .val (.ref b20), .val (.long v34), .second, .val (.int (1 : Int32)), .val (.long v54), .second, .unset, .unset] [(.long v15)]))
      refine Go.st (fun _ k => XS.lload X83.here hx rfl (hb hby at_126) rfl k) ?_
      show Go p e below s Q 1 3 (T83.setTop (mkF m 128 #[.val (.long v15), .second, .val (.long t0), .second, .val (.long v17), .second, .val (.long d1), .second, .val (.long v19), .second, .val (.long d2), .second, .val (.int v12), .val (.long (4611686018427387903 : Int64)), .second, .val (.ref b20), .val (.long v34), .second, .val (.int (1 : Int32)), .val (.long v54), .second, .unset, .unset] [(.long v19), (.long v15)]))
      refine Go.st (fun _ k => XS.lload X83.here hx rfl (hb hby at_128) rfl k) ?_
      show Go p e below s Q 1 3 (T83.setTop (mkF m 130 #[.val (.long v15), .second, .val (.long t0), .second, .val (.long v17), .second, .val (.long d1), .second, .val (.long v19), .second, .val (.long d2), .second, .val (.int v12), .val (.long (4611686018427387903 : Int64)), .second, .val (.ref b20), .val (.long v34), .second, .val (.int (1 : Int32)), .val (.long v54), .second, .unset, .unset] [(.long d2), (.long v19), (.long v15)]))
      obtain ⟨_, _, ⟨T90, L90, k90, n90⟩, -, X90, ⟨Lc90, hQ90, l90, y90, z90⟩, st90⟩ := Jvm.LawKit.callS X83 hx (y := (⟨"com/example/ballast/ballast/database/CompactionPolicyWrittenPinLaw", "due", "(JJJ)Z"⟩ : MethodName)) hown (mvT hZ (hw _ (List.mem_of_getElem? (i := 26) rfl))) (mvT hZ (hw _ (List.mem_of_getElem? (i := 27) rfl))) (mvT hZ (hw _ (List.mem_of_getElem? (i := 28) rfl))) (mvT hZ (hw _ (List.mem_of_getElem? (i := 29) rfl))) (by decide) (backOf (W := 0) (rm4 l Z a0 hw [] v15 v19 d2 T83.heap n0 (Nat.le_trans Z0 K83.1) ) hZ (hw _ (List.mem_of_getElem? (i := 29) rfl)) (hw _ (List.mem_of_getElem? (i := 28) rfl)) (by decide) (by decide)) (g := (mkF m 130 #[.val (.long v15), .second, .val (.long t0), .second, .val (.long v17), .second, .val (.long d1), .second, .val (.long v19), .second, .val (.long d2), .second, .val (.int v12), .val (.long (4611686018427387903 : Int64)), .second, .val (.ref b20), .val (.long v34), .second, .val (.int (1 : Int32)), .val (.long v54), .second, .unset, .unset] [(.long d2), (.long v19), (.long v15)])) rfl (by rw [hml]; rfl) (argsL := [(.long v15), (.long v19), (.long d2)]) (rest := []) (lenOf pd_2 rfl) rfl (by show 2 * 0 + _ ≤ _; exact Nat.le_of_eq rfl) (hb hby at_130) (fun _ _ => ⟨rfl, rfl, (by decide : 1 + 0 ≤ _), (by decide : 3 + 0 ≤ _)⟩)
      dsimp only [Pt.U, Pt.locs, Pt.cells, Pt.slots] at X90 l90 y90 z90 st90 hQ90
      subst l90 y90 z90
      obtain ⟨r_91, rfl, N90q, f92, e90⟩ := hQ90
      have N90 := Fr.app N83 N90q
      refine Go.st st90 ?_
      show Go p e below s Q 1 3 (T90.setTop (mkF m 133 #[.val (.long v15), .second, .val (.long t0), .second, .val (.long v17), .second, .val (.long d1), .second, .val (.long v19), .second, .val (.long d2), .second, .val (.int v12), .val (.long (4611686018427387903 : Int64)), .second, .val (.ref b20), .val (.long v34), .second, .val (.int (1 : Int32)), .val (.long v54), .second, .unset, .unset] [(.int r_91)]))
      have f93 := rng32 r_91
      refine Go.st (fun _ k => XS.istore X90.here hx rfl (hb hby at_133) rfl (l' := #[.val (.long v15), .second, .val (.long t0), .second, .val (.long v17), .second, .val (.long d1), .second, .val (.long v19), .second, .val (.long d2), .second, .val (.int v12), .val (.long (4611686018427387903 : Int64)), .second, .val (.ref b20), .val (.long v34), .second, .val (.int (1 : Int32)), .val (.long v54), .second, .val (.int r_91), .unset]) rfl k) ?_
      show Go p e below s Q 1 3 (T90.setTop (mkF m 135 #[.val (.long v15), .second, .val (.long t0), .second, .val (.long v17), .second, .val (.long d1), .second, .val (.long v19), .second, .val (.long d2), .second, .val (.int v12), .val (.long (4611686018427387903 : Int64)), .second, .val (.ref b20), .val (.long v34), .second, .val (.int (1 : Int32)), .val (.long v54), .second, .val (.int r_91), .unset] []))
      refine Go.st (fun _ k => XS.goto X90.here hx rfl (pc0 := 135) (pc' := 151) rfl (hb hby at_135) (by decide) (by decide) k) ?_
      show Go p e below s Q 1 3 (T90.setTop (mkF m 151 #[.val (.long v15), .second, .val (.long t0), .second, .val (.long v17), .second, .val (.long d1), .second, .val (.long v19), .second, .val (.long d2), .second, .val (.int v12), .val (.long (4611686018427387903 : Int64)), .second, .val (.ref b20), .val (.long v34), .second, .val (.int (1 : Int32)), .val (.long v54), .second, .val (.int r_91), .unset] []))
      refine Go.st (fun _ k => XS.aload X90.here hx rfl (hb hby at_151) rfl rfl k) ?_
      show Go p e below s Q 1 3 (T90.setTop (mkF m 153 #[.val (.long v15), .second, .val (.long t0), .second, .val (.long v17), .second, .val (.long d1), .second, .val (.long v19), .second, .val (.long d2), .second, .val (.int v12), .val (.long (4611686018427387903 : Int64)), .second, .val (.ref b20), .val (.long v34), .second, .val (.int (1 : Int32)), .val (.long v54), .second, .val (.int r_91), .unset] [(.ref b20)]))
      refine Go.st (fun _ k => XS.lload X90.here hx rfl (hb hby at_153) rfl k) ?_
      show Go p e below s Q 1 3 (T90.setTop (mkF m 155 #[.val (.long v15), .second, .val (.long t0), .second, .val (.long v17), .second, .val (.long d1), .second, .val (.long v19), .second, .val (.long d2), .second, .val (.int v12), .val (.long (4611686018427387903 : Int64)), .second, .val (.ref b20), .val (.long v34), .second, .val (.int (1 : Int32)), .val (.long v54), .second, .val (.int r_91), .unset] [(.long v19), (.ref b20)]))
      refine Go.st (fun _ k => XS.lload X90.here hx rfl (hb hby at_155) rfl k) ?_
      show Go p e below s Q 1 3 (T90.setTop (mkF m 157 #[.val (.long v15), .second, .val (.long t0), .second, .val (.long v17), .second, .val (.long d1), .second, .val (.long v19), .second, .val (.long d2), .second, .val (.int v12), .val (.long (4611686018427387903 : Int64)), .second, .val (.ref b20), .val (.long v34), .second, .val (.int (1 : Int32)), .val (.long v54), .second, .val (.int r_91), .unset] [(.long v54), (.long v19), (.ref b20)]))
      have p95 : 0 ≤ (0 : Int64).toInt ∧ (0 : Int64).toInt < 50 := by omega
      obtain ⟨cq94, kq94, q94a, q94b, q94c⟩ := isOf hZ e90 h85
      obtain ⟨_, _, ⟨T94, L94, k94, n94⟩, -, X94, ⟨Lc94, hQ94, l94, y94, z94⟩, st94⟩ := X90.virtualBack hx (y := (⟨"com/example/ballast/ballast/database/CompactionPolicy", "written", "(JJ)Z"⟩ : MethodName)) (z := (⟨"com/example/ballast/ballast/database/CompactionPolicy", "written", "(JJ)Z"⟩ : MethodName)) hown (mvT hZ (hw _ (List.mem_of_getElem? (i := 14) rfl))) (mvT hZ (hw _ (List.mem_of_getElem? (i := 15) rfl))) (notFace_of_selects (args := #[]) (mvT hZ (hw _ (List.mem_of_getElem? (i := 17) rfl)))) (mvT hZ (hw _ (List.mem_of_getElem? (i := 17) rfl))) (mvT hZ (hw _ (List.mem_of_getElem? (i := 16) rfl))) (by decide) (backOf (W := 0) (rm3 l Z a0 hw [] b20 v19 v54 v15 v34 (0 : Int64) T83.heap n0 (Nat.le_trans Z0 K83.1) h85 Gb20 h89 h86 h87 h88 p95) hZ (hw _ (List.mem_of_getElem? (i := 18) rfl)) (hw _ (List.mem_of_getElem? (i := 3) rfl)) (by decide) (by decide)) q94a q94c (g := (mkF m 157 #[.val (.long v15), .second, .val (.long t0), .second, .val (.long v17), .second, .val (.long d1), .second, .val (.long v19), .second, .val (.long d2), .second, .val (.int v12), .val (.long (4611686018427387903 : Int64)), .second, .val (.ref b20), .val (.long v34), .second, .val (.int (1 : Int32)), .val (.long v54), .second, .val (.int r_91), .unset] [(.long v54), (.long v19), (.ref b20)])) rfl (by rw [hml]; rfl) (Steps.refl _) (argsL := [(.long v19), (.long v54)]) (rest := []) (lenOf pd_1 rfl) rfl (by show 2 * 0 + _ ≤ _; exact Nat.le_of_eq rfl) (hb hby at_157) (fun _ _ => ⟨rfl, e90, (by decide : 1 + 0 ≤ _), (by decide : 3 + 0 ≤ _)⟩)
      dsimp only [Pt.U, Pt.locs, Pt.cells, Pt.slots] at X94 l94 y94 z94 st94 hQ94
      subst l94 y94 z94
      obtain ⟨r_96, tn_97, rfl, N94q, f98, f99, K94q, h100, h101, h102, h103⟩ := hQ94
      have N94 := Fr.app N90 N94q
      have h104 : Sta Z T94.heap "com/example/ballast/ballast/database/CompactionPolicy" "MIN_NANOS" "J" (.long (600000000000 : Int64)) := Jvm.OwnGo.sta_keep h89 K94q (fun x hx => (allS (P := fun x => Exi T83.heap x) (exi_exa h85) all0) x hx)
      have K94 : Keep h0 T94.heap [] := K83.trans K94q (fun x hx => (show ∀ x ∈ ([b20] : List Addr), x ∈ ([] : List Addr) ∨ h0.size ≤ x from (allS (Or.inr szb20) all0)) x hx)
      refine Go.tr  st94 ?_
      show Go p e below s Q 1 3 (T94.setTop (mkF m 160 #[.val (.long v15), .second, .val (.long t0), .second, .val (.long v17), .second, .val (.long d1), .second, .val (.long v19), .second, .val (.long d2), .second, .val (.int v12), .val (.long (4611686018427387903 : Int64)), .second, .val (.ref b20), .val (.long v34), .second, .val (.int (1 : Int32)), .val (.long v54), .second, .val (.int r_91), .unset] [(.int r_96)]))
      have f105 := rng32 r_96
      refine Go.st (fun _ k => XS.iload X94.here hx rfl (hb hby at_160) rfl k) ?_
      show Go p e below s Q 1 3 (T94.setTop (mkF m 162 #[.val (.long v15), .second, .val (.long t0), .second, .val (.long v17), .second, .val (.long d1), .second, .val (.long v19), .second, .val (.long d2), .second, .val (.int v12), .val (.long (4611686018427387903 : Int64)), .second, .val (.ref b20), .val (.long v34), .second, .val (.int (1 : Int32)), .val (.long v54), .second, .val (.int r_91), .unset] [(.int r_91), (.int r_96)]))
      have c106 : r_96.toInt = r_91.toInt := by have q1 := c_lmul (2 : Int64) v15; have q2 := rng64 ((2 : Int64) * v15); have q3 := c_lsub v19 v15; have q4 := rng64 (v19 - v15); have q5 := c_lsub v54 v34; have q6 := rng64 (v54 - v34); rw [liJ_2] at q1; have q8 := c_ladd d1 d2; have q9 := rng64 (d1 + d2); omega
      refine Go.st (fun _ k => XS.icmpNo X94.here hx rfl (hb hby at_162) rfl (teq (eqI rfl rfl c106)).2 k) ?_
      show Go p e below s Q 1 3 (T94.setTop (mkF m 165 #[.val (.long v15), .second, .val (.long t0), .second, .val (.long v17), .second, .val (.long d1), .second, .val (.long v19), .second, .val (.long d2), .second, .val (.int v12), .val (.long (4611686018427387903 : Int64)), .second, .val (.ref b20), .val (.long v34), .second, .val (.int (1 : Int32)), .val (.long v54), .second, .val (.int r_91), .unset] []))
      refine Go.st (fun _ k => XS.iconst X94.here hx rfl (hb hby at_165) k) ?_
      show Go p e below s Q 1 3 (T94.setTop (mkF m 166 #[.val (.long v15), .second, .val (.long t0), .second, .val (.long v17), .second, .val (.long d1), .second, .val (.long v19), .second, .val (.long d2), .second, .val (.int v12), .val (.long (4611686018427387903 : Int64)), .second, .val (.ref b20), .val (.long v34), .second, .val (.int (1 : Int32)), .val (.long v54), .second, .val (.int r_91), .unset] [(.int (1 : Int32))]))
      refine Go.st (fun _ k => XS.goto X94.here hx rfl (pc0 := 166) (pc' := 170) rfl (hb hby at_166) (by decide) (by decide) k) ?_
      show Go p e below s Q 1 3 (T94.setTop (mkF m 170 #[.val (.long v15), .second, .val (.long t0), .second, .val (.long v17), .second, .val (.long d1), .second, .val (.long v19), .second, .val (.long d2), .second, .val (.int v12), .val (.long (4611686018427387903 : Int64)), .second, .val (.ref b20), .val (.long v34), .second, .val (.int (1 : Int32)), .val (.long v54), .second, .val (.int r_91), .unset] [(.int (1 : Int32))]))
      refine Go.st (fun _ k => XS.istore X94.here hx rfl (hb hby at_170) rfl (l' := #[.val (.long v15), .second, .val (.long t0), .second, .val (.long v17), .second, .val (.long d1), .second, .val (.long v19), .second, .val (.long d2), .second, .val (.int v12), .val (.long (4611686018427387903 : Int64)), .second, .val (.ref b20), .val (.long v34), .second, .val (.int (1 : Int32)), .val (.long v54), .second, .val (.int r_91), .val (.int (1 : Int32))]) rfl k) ?_
      show Go p e below s Q 1 3 (T94.setTop (mkF m 172 #[.val (.long v15), .second, .val (.long t0), .second, .val (.long v17), .second, .val (.long d1), .second, .val (.long v19), .second, .val (.long d2), .second, .val (.int v12), .val (.long (4611686018427387903 : Int64)), .second, .val (.ref b20), .val (.long v34), .second, .val (.int (1 : Int32)), .val (.long v54), .second, .val (.int r_91), .val (.int (1 : Int32))] []))
      refine Go.st (fun _ k => XS.iload X94.here hx rfl (hb hby at_172) rfl k) ?_
      show Go p e below s Q 1 3 (T94.setTop (mkF m 174 #[.val (.long v15), .second, .val (.long t0), .second, .val (.long v17), .second, .val (.long d1), .second, .val (.long v19), .second, .val (.long d2), .second, .val (.int v12), .val (.long (4611686018427387903 : Int64)), .second, .val (.ref b20), .val (.long v34), .second, .val (.int (1 : Int32)), .val (.long v54), .second, .val (.int r_91), .val (.int (1 : Int32))] [(.int (1 : Int32))]))
      refine Go.st (fun _ k => XS.ifNo X94.here hx rfl (hb hby at_174) rfl ((if0 _ _).trans (feq (neI liI_1 liI_0 (by decide))).1) k) ?_
      show Go p e below s Q 1 3 (T94.setTop (mkF m 177 #[.val (.long v15), .second, .val (.long t0), .second, .val (.long v17), .second, .val (.long d1), .second, .val (.long v19), .second, .val (.long d2), .second, .val (.int v12), .val (.long (4611686018427387903 : Int64)), .second, .val (.ref b20), .val (.long v34), .second, .val (.int (1 : Int32)), .val (.long v54), .second, .val (.int r_91), .val (.int (1 : Int32))] []))
      refine Go.st (fun _ k => XS.iload X94.here hx rfl (hb hby at_177) rfl k) ?_
      show Go p e below s Q 1 3 (T94.setTop (mkF m 179 #[.val (.long v15), .second, .val (.long t0), .second, .val (.long v17), .second, .val (.long d1), .second, .val (.long v19), .second, .val (.long d2), .second, .val (.int v12), .val (.long (4611686018427387903 : Int64)), .second, .val (.ref b20), .val (.long v34), .second, .val (.int (1 : Int32)), .val (.long v54), .second, .val (.int r_91), .val (.int (1 : Int32))] [(.int (1 : Int32))]))
      refine Go.st (fun _ k => XS.ifNo X94.here hx rfl (hb hby at_179) rfl ((if0 _ _).trans (feq (neI liI_1 liI_0 (by decide))).1) k) ?_
      show Go p e below s Q 1 3 (T94.setTop (mkF m 182 #[.val (.long v15), .second, .val (.long t0), .second, .val (.long v17), .second, .val (.long d1), .second, .val (.long v19), .second, .val (.long d2), .second, .val (.int v12), .val (.long (4611686018427387903 : Int64)), .second, .val (.ref b20), .val (.long v34), .second, .val (.int (1 : Int32)), .val (.long v54), .second, .val (.int r_91), .val (.int (1 : Int32))] []))
      refine Go.st (fun _ k => XS.iconst X94.here hx rfl (hb hby at_182) k) ?_
      show Go p e below s Q 1 3 (T94.setTop (mkF m 183 #[.val (.long v15), .second, .val (.long t0), .second, .val (.long v17), .second, .val (.long d1), .second, .val (.long v19), .second, .val (.long d2), .second, .val (.int v12), .val (.long (4611686018427387903 : Int64)), .second, .val (.ref b20), .val (.long v34), .second, .val (.int (1 : Int32)), .val (.long v54), .second, .val (.int r_91), .val (.int (1 : Int32))] [(.int (1 : Int32))]))
      refine Go.st (fun _ k => XS.goto X94.here hx rfl (pc0 := 183) (pc' := 187) rfl (hb hby at_183) (by decide) (by decide) k) ?_
      show Go p e below s Q 1 3 (T94.setTop (mkF m 187 #[.val (.long v15), .second, .val (.long t0), .second, .val (.long v17), .second, .val (.long d1), .second, .val (.long v19), .second, .val (.long d2), .second, .val (.int v12), .val (.long (4611686018427387903 : Int64)), .second, .val (.ref b20), .val (.long v34), .second, .val (.int (1 : Int32)), .val (.long v54), .second, .val (.int r_91), .val (.int (1 : Int32))] [(.int (1 : Int32))]))
      exact Go.retN X94 hx hlk (by simp) Bd.returns (hb hby at_187) (z' := (1 : Int32)) (by decide) (by rw [← hQ]; exact ⟨rfl, N94, K94⟩) (by decide) (by decide)
    ·
      refine Go.st (fun _ k => XS.icmpYes X47.here hx rfl (pc0 := 115) (pc' := 138) rfl (hb hby at_115) rfl (feq (neI rfl liI_2 c82)).2 (by decide) (by decide) k) ?_
      show Go p e below s Q 1 3 (T47.setTop (mkF m 138 #[.val (.long v15), .second, .val (.long t0), .second, .val (.long v17), .second, .val (.long d1), .second, .val (.long v19), .second, .val (.long d2), .second, .val (.int v12), .val (.long (4611686018427387903 : Int64)), .second, .val (.ref b20), .val (.long v34), .second, .val (.int (1 : Int32)), .val (.long v54), .second, .unset, .unset] []))
      refine Go.st (fun _ k => XS.lloadN X47.here hx rfl (hb hby at_138) rfl k) ?_
      show Go p e below s Q 1 3 (T47.setTop (mkF m 139 #[.val (.long v15), .second, .val (.long t0), .second, .val (.long v17), .second, .val (.long d1), .second, .val (.long v19), .second, .val (.long d2), .second, .val (.int v12), .val (.long (4611686018427387903 : Int64)), .second, .val (.ref b20), .val (.long v34), .second, .val (.int (1 : Int32)), .val (.long v54), .second, .unset, .unset] [(.long v15)]))
      refine Go.st (fun _ k => XS.lload X47.here hx rfl (hb hby at_139) rfl k) ?_
      show Go p e below s Q 1 3 (T47.setTop (mkF m 141 #[.val (.long v15), .second, .val (.long t0), .second, .val (.long v17), .second, .val (.long d1), .second, .val (.long v19), .second, .val (.long d2), .second, .val (.int v12), .val (.long (4611686018427387903 : Int64)), .second, .val (.ref b20), .val (.long v34), .second, .val (.int (1 : Int32)), .val (.long v54), .second, .unset, .unset] [(.long v19), (.long v15)]))
      refine Go.st (fun _ k => XS.lload X47.here hx rfl (hb hby at_141) rfl k) ?_
      show Go p e below s Q 1 3 (T47.setTop (mkF m 143 #[.val (.long v15), .second, .val (.long t0), .second, .val (.long v17), .second, .val (.long d1), .second, .val (.long v19), .second, .val (.long d2), .second, .val (.int v12), .val (.long (4611686018427387903 : Int64)), .second, .val (.ref b20), .val (.long v34), .second, .val (.int (1 : Int32)), .val (.long v54), .second, .unset, .unset] [(.long d1), (.long v19), (.long v15)]))
      refine Go.st (fun _ k => XS.lload X47.here hx rfl (hb hby at_143) rfl k) ?_
      show Go p e below s Q 1 3 (T47.setTop (mkF m 145 #[.val (.long v15), .second, .val (.long t0), .second, .val (.long v17), .second, .val (.long d1), .second, .val (.long v19), .second, .val (.long d2), .second, .val (.int v12), .val (.long (4611686018427387903 : Int64)), .second, .val (.ref b20), .val (.long v34), .second, .val (.int (1 : Int32)), .val (.long v54), .second, .unset, .unset] [(.long d2), (.long d1), (.long v19), (.long v15)]))
      refine Go.st (fun _ k => XS.ladd X47.here hx rfl (hb hby at_145) rfl k) ?_
      show Go p e below s Q 1 3 (T47.setTop (mkF m 146 #[.val (.long v15), .second, .val (.long t0), .second, .val (.long v17), .second, .val (.long d1), .second, .val (.long v19), .second, .val (.long d2), .second, .val (.int v12), .val (.long (4611686018427387903 : Int64)), .second, .val (.ref b20), .val (.long v34), .second, .val (.int (1 : Int32)), .val (.long v54), .second, .unset, .unset] [(.long (d1 + d2)), (.long v19), (.long v15)]))
      have f108 := c_ladd d1 d2
      have f109 := rng64 (d1 + d2)
      obtain ⟨_, _, ⟨T107, L107, k107, n107⟩, -, X107, ⟨Lc107, hQ107, l107, y107, z107⟩, st107⟩ := Jvm.LawKit.callS X47 hx (y := (⟨"com/example/ballast/ballast/database/CompactionPolicyWrittenPinLaw", "due", "(JJJ)Z"⟩ : MethodName)) hown (mvT hZ (hw _ (List.mem_of_getElem? (i := 26) rfl))) (mvT hZ (hw _ (List.mem_of_getElem? (i := 27) rfl))) (mvT hZ (hw _ (List.mem_of_getElem? (i := 28) rfl))) (mvT hZ (hw _ (List.mem_of_getElem? (i := 29) rfl))) (by decide) (backOf (W := 0) (rm4 l Z a0 hw [] v15 v19 (d1 + d2) T35.heap n0 (Nat.le_trans Z0 K35.1) ) hZ (hw _ (List.mem_of_getElem? (i := 29) rfl)) (hw _ (List.mem_of_getElem? (i := 28) rfl)) (by decide) (by decide)) (g := (mkF m 146 #[.val (.long v15), .second, .val (.long t0), .second, .val (.long v17), .second, .val (.long d1), .second, .val (.long v19), .second, .val (.long d2), .second, .val (.int v12), .val (.long (4611686018427387903 : Int64)), .second, .val (.ref b20), .val (.long v34), .second, .val (.int (1 : Int32)), .val (.long v54), .second, .unset, .unset] [(.long (d1 + d2)), (.long v19), (.long v15)])) rfl (by rw [hml]; rfl) (argsL := [(.long v15), (.long v19), (.long (d1 + d2))]) (rest := []) (lenOf pd_2 rfl) rfl (by show 2 * 0 + _ ≤ _; exact Nat.le_of_eq rfl) (hb hby at_146) (fun _ _ => ⟨rfl, e47, (by decide : 1 + 0 ≤ _), (by decide : 3 + 0 ≤ _)⟩)
      dsimp only [Pt.U, Pt.locs, Pt.cells, Pt.slots] at X107 l107 y107 z107 st107 hQ107
      subst l107 y107 z107
      obtain ⟨r_110, rfl, N107q, f111, e107⟩ := hQ107
      have N107 := Fr.app N47 N107q
      refine Go.st st107 ?_
      show Go p e below s Q 1 3 (T107.setTop (mkF m 149 #[.val (.long v15), .second, .val (.long t0), .second, .val (.long v17), .second, .val (.long d1), .second, .val (.long v19), .second, .val (.long d2), .second, .val (.int v12), .val (.long (4611686018427387903 : Int64)), .second, .val (.ref b20), .val (.long v34), .second, .val (.int (1 : Int32)), .val (.long v54), .second, .unset, .unset] [(.int r_110)]))
      have f112 := rng32 r_110
      refine Go.st (fun _ k => XS.istore X107.here hx rfl (hb hby at_149) rfl (l' := #[.val (.long v15), .second, .val (.long t0), .second, .val (.long v17), .second, .val (.long d1), .second, .val (.long v19), .second, .val (.long d2), .second, .val (.int v12), .val (.long (4611686018427387903 : Int64)), .second, .val (.ref b20), .val (.long v34), .second, .val (.int (1 : Int32)), .val (.long v54), .second, .val (.int r_110), .unset]) rfl k) ?_
      show Go p e below s Q 1 3 (T107.setTop (mkF m 151 #[.val (.long v15), .second, .val (.long t0), .second, .val (.long v17), .second, .val (.long d1), .second, .val (.long v19), .second, .val (.long d2), .second, .val (.int v12), .val (.long (4611686018427387903 : Int64)), .second, .val (.ref b20), .val (.long v34), .second, .val (.int (1 : Int32)), .val (.long v54), .second, .val (.int r_110), .unset] []))
      refine Go.st (fun _ k => XS.aload X107.here hx rfl (hb hby at_151) rfl rfl k) ?_
      show Go p e below s Q 1 3 (T107.setTop (mkF m 153 #[.val (.long v15), .second, .val (.long t0), .second, .val (.long v17), .second, .val (.long d1), .second, .val (.long v19), .second, .val (.long d2), .second, .val (.int v12), .val (.long (4611686018427387903 : Int64)), .second, .val (.ref b20), .val (.long v34), .second, .val (.int (1 : Int32)), .val (.long v54), .second, .val (.int r_110), .unset] [(.ref b20)]))
      refine Go.st (fun _ k => XS.lload X107.here hx rfl (hb hby at_153) rfl k) ?_
      show Go p e below s Q 1 3 (T107.setTop (mkF m 155 #[.val (.long v15), .second, .val (.long t0), .second, .val (.long v17), .second, .val (.long d1), .second, .val (.long v19), .second, .val (.long d2), .second, .val (.int v12), .val (.long (4611686018427387903 : Int64)), .second, .val (.ref b20), .val (.long v34), .second, .val (.int (1 : Int32)), .val (.long v54), .second, .val (.int r_110), .unset] [(.long v19), (.ref b20)]))
      refine Go.st (fun _ k => XS.lload X107.here hx rfl (hb hby at_155) rfl k) ?_
      show Go p e below s Q 1 3 (T107.setTop (mkF m 157 #[.val (.long v15), .second, .val (.long t0), .second, .val (.long v17), .second, .val (.long d1), .second, .val (.long v19), .second, .val (.long d2), .second, .val (.int v12), .val (.long (4611686018427387903 : Int64)), .second, .val (.ref b20), .val (.long v34), .second, .val (.int (1 : Int32)), .val (.long v54), .second, .val (.int r_110), .unset] [(.long v54), (.long v19), (.ref b20)]))
      have f114 := rng64 tn_38
      have p115 : 0 ≤ tn_38.toInt ∧ tn_38.toInt < 50 := by omega
      obtain ⟨cq113, kq113, q113a, q113b, q113c⟩ := isOf hZ e107 h41
      obtain ⟨_, _, ⟨T113, L113, k113, n113⟩, -, X113, ⟨Lc113, hQ113, l113, y113, z113⟩, st113⟩ := X107.virtualBack hx (y := (⟨"com/example/ballast/ballast/database/CompactionPolicy", "written", "(JJ)Z"⟩ : MethodName)) (z := (⟨"com/example/ballast/ballast/database/CompactionPolicy", "written", "(JJ)Z"⟩ : MethodName)) hown (mvT hZ (hw _ (List.mem_of_getElem? (i := 14) rfl))) (mvT hZ (hw _ (List.mem_of_getElem? (i := 15) rfl))) (notFace_of_selects (args := #[]) (mvT hZ (hw _ (List.mem_of_getElem? (i := 17) rfl)))) (mvT hZ (hw _ (List.mem_of_getElem? (i := 17) rfl))) (mvT hZ (hw _ (List.mem_of_getElem? (i := 16) rfl))) (by decide) (backOf (W := 0) (rm3 l Z a0 hw [] b20 v19 v54 v15 t0 tn_38 T35.heap n0 (Nat.le_trans Z0 K35.1) h41 Gb20 h45 h42 h43 h44 p115) hZ (hw _ (List.mem_of_getElem? (i := 18) rfl)) (hw _ (List.mem_of_getElem? (i := 3) rfl)) (by decide) (by decide)) q113a q113c (g := (mkF m 157 #[.val (.long v15), .second, .val (.long t0), .second, .val (.long v17), .second, .val (.long d1), .second, .val (.long v19), .second, .val (.long d2), .second, .val (.int v12), .val (.long (4611686018427387903 : Int64)), .second, .val (.ref b20), .val (.long v34), .second, .val (.int (1 : Int32)), .val (.long v54), .second, .val (.int r_110), .unset] [(.long v54), (.long v19), (.ref b20)])) rfl (by rw [hml]; rfl) (Steps.refl _) (argsL := [(.long v19), (.long v54)]) (rest := []) (lenOf pd_1 rfl) rfl (by show 2 * 0 + _ ≤ _; exact Nat.le_of_eq rfl) (hb hby at_157) (fun _ _ => ⟨rfl, e107, (by decide : 1 + 0 ≤ _), (by decide : 3 + 0 ≤ _)⟩)
      dsimp only [Pt.U, Pt.locs, Pt.cells, Pt.slots] at X113 l113 y113 z113 st113 hQ113
      subst l113 y113 z113
      obtain ⟨r_116, tn_117, rfl, N113q, f118, f119, K113q, h120, h121, h122, h123⟩ := hQ113
      have N113 := Fr.app N107 N113q
      have h124 : Sta Z T113.heap "com/example/ballast/ballast/database/CompactionPolicy" "MIN_NANOS" "J" (.long (600000000000 : Int64)) := Jvm.OwnGo.sta_keep h45 K113q (fun x hx => (allS (P := fun x => Exi T35.heap x) (exi_exa h41) all0) x hx)
      have K113 : Keep h0 T113.heap [] := K35.trans K113q (fun x hx => (show ∀ x ∈ ([b20] : List Addr), x ∈ ([] : List Addr) ∨ h0.size ≤ x from (allS (Or.inr szb20) all0)) x hx)
      refine Go.tr  st113 ?_
      show Go p e below s Q 1 3 (T113.setTop (mkF m 160 #[.val (.long v15), .second, .val (.long t0), .second, .val (.long v17), .second, .val (.long d1), .second, .val (.long v19), .second, .val (.long d2), .second, .val (.int v12), .val (.long (4611686018427387903 : Int64)), .second, .val (.ref b20), .val (.long v34), .second, .val (.int (1 : Int32)), .val (.long v54), .second, .val (.int r_110), .unset] [(.int r_116)]))
      have f125 := rng32 r_116
      refine Go.st (fun _ k => XS.iload X113.here hx rfl (hb hby at_160) rfl k) ?_
      show Go p e below s Q 1 3 (T113.setTop (mkF m 162 #[.val (.long v15), .second, .val (.long t0), .second, .val (.long v17), .second, .val (.long d1), .second, .val (.long v19), .second, .val (.long d2), .second, .val (.int v12), .val (.long (4611686018427387903 : Int64)), .second, .val (.ref b20), .val (.long v34), .second, .val (.int (1 : Int32)), .val (.long v54), .second, .val (.int r_110), .unset] [(.int r_110), (.int r_116)]))
      have c126 : r_116.toInt = r_110.toInt := by have q1 := c_lmul (2 : Int64) v15; have q2 := rng64 ((2 : Int64) * v15); have q3 := c_lsub v19 v15; have q4 := rng64 (v19 - v15); have q5 := c_lsub v54 t0; have q6 := rng64 (v54 - t0); rw [liJ_2] at q1; have q8 := c_ladd d1 d2; have q9 := rng64 (d1 + d2); omega
      refine Go.st (fun _ k => XS.icmpNo X113.here hx rfl (hb hby at_162) rfl (teq (eqI rfl rfl c126)).2 k) ?_
      show Go p e below s Q 1 3 (T113.setTop (mkF m 165 #[.val (.long v15), .second, .val (.long t0), .second, .val (.long v17), .second, .val (.long d1), .second, .val (.long v19), .second, .val (.long d2), .second, .val (.int v12), .val (.long (4611686018427387903 : Int64)), .second, .val (.ref b20), .val (.long v34), .second, .val (.int (1 : Int32)), .val (.long v54), .second, .val (.int r_110), .unset] []))
      refine Go.st (fun _ k => XS.iconst X113.here hx rfl (hb hby at_165) k) ?_
      show Go p e below s Q 1 3 (T113.setTop (mkF m 166 #[.val (.long v15), .second, .val (.long t0), .second, .val (.long v17), .second, .val (.long d1), .second, .val (.long v19), .second, .val (.long d2), .second, .val (.int v12), .val (.long (4611686018427387903 : Int64)), .second, .val (.ref b20), .val (.long v34), .second, .val (.int (1 : Int32)), .val (.long v54), .second, .val (.int r_110), .unset] [(.int (1 : Int32))]))
      refine Go.st (fun _ k => XS.goto X113.here hx rfl (pc0 := 166) (pc' := 170) rfl (hb hby at_166) (by decide) (by decide) k) ?_
      show Go p e below s Q 1 3 (T113.setTop (mkF m 170 #[.val (.long v15), .second, .val (.long t0), .second, .val (.long v17), .second, .val (.long d1), .second, .val (.long v19), .second, .val (.long d2), .second, .val (.int v12), .val (.long (4611686018427387903 : Int64)), .second, .val (.ref b20), .val (.long v34), .second, .val (.int (1 : Int32)), .val (.long v54), .second, .val (.int r_110), .unset] [(.int (1 : Int32))]))
      refine Go.st (fun _ k => XS.istore X113.here hx rfl (hb hby at_170) rfl (l' := #[.val (.long v15), .second, .val (.long t0), .second, .val (.long v17), .second, .val (.long d1), .second, .val (.long v19), .second, .val (.long d2), .second, .val (.int v12), .val (.long (4611686018427387903 : Int64)), .second, .val (.ref b20), .val (.long v34), .second, .val (.int (1 : Int32)), .val (.long v54), .second, .val (.int r_110), .val (.int (1 : Int32))]) rfl k) ?_
      show Go p e below s Q 1 3 (T113.setTop (mkF m 172 #[.val (.long v15), .second, .val (.long t0), .second, .val (.long v17), .second, .val (.long d1), .second, .val (.long v19), .second, .val (.long d2), .second, .val (.int v12), .val (.long (4611686018427387903 : Int64)), .second, .val (.ref b20), .val (.long v34), .second, .val (.int (1 : Int32)), .val (.long v54), .second, .val (.int r_110), .val (.int (1 : Int32))] []))
      refine Go.st (fun _ k => XS.iload X113.here hx rfl (hb hby at_172) rfl k) ?_
      show Go p e below s Q 1 3 (T113.setTop (mkF m 174 #[.val (.long v15), .second, .val (.long t0), .second, .val (.long v17), .second, .val (.long d1), .second, .val (.long v19), .second, .val (.long d2), .second, .val (.int v12), .val (.long (4611686018427387903 : Int64)), .second, .val (.ref b20), .val (.long v34), .second, .val (.int (1 : Int32)), .val (.long v54), .second, .val (.int r_110), .val (.int (1 : Int32))] [(.int (1 : Int32))]))
      refine Go.st (fun _ k => XS.ifNo X113.here hx rfl (hb hby at_174) rfl ((if0 _ _).trans (feq (neI liI_1 liI_0 (by decide))).1) k) ?_
      show Go p e below s Q 1 3 (T113.setTop (mkF m 177 #[.val (.long v15), .second, .val (.long t0), .second, .val (.long v17), .second, .val (.long d1), .second, .val (.long v19), .second, .val (.long d2), .second, .val (.int v12), .val (.long (4611686018427387903 : Int64)), .second, .val (.ref b20), .val (.long v34), .second, .val (.int (1 : Int32)), .val (.long v54), .second, .val (.int r_110), .val (.int (1 : Int32))] []))
      refine Go.st (fun _ k => XS.iload X113.here hx rfl (hb hby at_177) rfl k) ?_
      show Go p e below s Q 1 3 (T113.setTop (mkF m 179 #[.val (.long v15), .second, .val (.long t0), .second, .val (.long v17), .second, .val (.long d1), .second, .val (.long v19), .second, .val (.long d2), .second, .val (.int v12), .val (.long (4611686018427387903 : Int64)), .second, .val (.ref b20), .val (.long v34), .second, .val (.int (1 : Int32)), .val (.long v54), .second, .val (.int r_110), .val (.int (1 : Int32))] [(.int (1 : Int32))]))
      refine Go.st (fun _ k => XS.ifNo X113.here hx rfl (hb hby at_179) rfl ((if0 _ _).trans (feq (neI liI_1 liI_0 (by decide))).1) k) ?_
      show Go p e below s Q 1 3 (T113.setTop (mkF m 182 #[.val (.long v15), .second, .val (.long t0), .second, .val (.long v17), .second, .val (.long d1), .second, .val (.long v19), .second, .val (.long d2), .second, .val (.int v12), .val (.long (4611686018427387903 : Int64)), .second, .val (.ref b20), .val (.long v34), .second, .val (.int (1 : Int32)), .val (.long v54), .second, .val (.int r_110), .val (.int (1 : Int32))] []))
      refine Go.st (fun _ k => XS.iconst X113.here hx rfl (hb hby at_182) k) ?_
      show Go p e below s Q 1 3 (T113.setTop (mkF m 183 #[.val (.long v15), .second, .val (.long t0), .second, .val (.long v17), .second, .val (.long d1), .second, .val (.long v19), .second, .val (.long d2), .second, .val (.int v12), .val (.long (4611686018427387903 : Int64)), .second, .val (.ref b20), .val (.long v34), .second, .val (.int (1 : Int32)), .val (.long v54), .second, .val (.int r_110), .val (.int (1 : Int32))] [(.int (1 : Int32))]))
      refine Go.st (fun _ k => XS.goto X113.here hx rfl (pc0 := 183) (pc' := 187) rfl (hb hby at_183) (by decide) (by decide) k) ?_
      show Go p e below s Q 1 3 (T113.setTop (mkF m 187 #[.val (.long v15), .second, .val (.long t0), .second, .val (.long v17), .second, .val (.long d1), .second, .val (.long v19), .second, .val (.long d2), .second, .val (.int v12), .val (.long (4611686018427387903 : Int64)), .second, .val (.ref b20), .val (.long v34), .second, .val (.int (1 : Int32)), .val (.long v54), .second, .val (.int r_110), .val (.int (1 : Int32))] [(.int (1 : Int32))]))
      exact Go.retN X113 hx hlk (by simp) Bd.returns (hb hby at_187) (z' := (1 : Int32)) (by decide) (by rw [← hQ]; exact ⟨rfl, N113, K113⟩) (by decide) (by decide)
set_option maxRecDepth 65536 in
set_option maxHeartbeats 40000000 in
theorem comes_1 {Post : Tables → Env → Array Value → State → Outcome → State → Prop} (hpost : ∀ tb e args s v u, (limb_1_1.after args s (.returned v) u = true ∧ limb_1_2.after args s (.returned v) u = true ∧ True) → FrameEnd s (.returned v) u (Jvm.fieldLocs frame_1_writes args s ++ Jvm.arrayLocs frame_1_arrays args s ++ Jvm.staticLocs frame_1_statics s) 16 128 → Post tb e args s (.returned v) u) :
    ArmFor flags0 classFile x code maxLocals ret World_1 tables_1 room_1 Calls_1 rest_1 Pre_1 Post := by
  intro l hfl _ _ p e ha hc hk s m args below hf hA hF happ hP
  obtain ⟨hcalls, hrest, hpre⟩ := hP
  obtain ⟨-, -, -, hnamed, -, -, -, hat⟩ := (Spec.applies_iff hf).mp happ
  obtain ⟨hg, hn⟩ := and_e (Cond.before_iff.mp (show (Jvm.Cond.and given_1 narrow_1).before args s = true from hpre))
  obtain ⟨hcount, g0⟩ := and_e hg
  obtain ⟨a0, g1⟩ := and_e g0
  obtain ⟨a1, g2⟩ := and_e g1
  obtain ⟨a2, g3⟩ := and_e g2
  obtain ⟨a3, g4⟩ := and_e g3
  obtain ⟨a4, g5⟩ := and_e g4
  obtain ⟨w0, w1, w2, w3, w4, w5, rfl⟩ : ∃ w0 w1 w2 w3 w4 w5 : Value, args = #[w0, w1, w2, w3, w4, w5] := by
    have hs : args.size = 6 := by simpa [Cond.value, given_1] using hcount
    obtain ⟨L⟩ := args
    match L, hs with
    | [w0, w1, w2, w3, w4, w5], _ => exact ⟨w0, w1, w2, w3, w4, w5, rfl⟩
  have hw := fun d (hd : d ∈ tables_1) => atoms_spec (ws := Jvm.Cond.code x code maxLocals ret :: tables_1) hat d (List.mem_cons_of_mem _ hd)
  have hfit : Fit s := fun {y c} hc i hi => by
    obtain ⟨ha, rfl⟩ := Array.getElem?_eq_some_iff.mp hc
    have q := List.all_eq_true.mp ((Array.all_eq_true_iff_forall_mem.mp hF) _ (Array.getElem_mem ha)) i (List.mem_range.mpr hi)
    simpa [Array.getElem?_eq_getElem hi] using q
  obtain ⟨i0, ei0⟩ := isL_v a0
  obtain rfl : w0 = (.long i0) := Option.some.inj ei0
  obtain ⟨i1, ei1⟩ := isL_v a1
  obtain rfl : w1 = (.long i1) := Option.some.inj ei1
  obtain ⟨i2, ei2⟩ := isL_v a2
  obtain rfl : w2 = (.long i2) := Option.some.inj ei2
  obtain ⟨i3, ei3⟩ := isL_v a3
  obtain rfl : w3 = (.long i3) := Option.some.inj ei3
  obtain ⟨i4, ei4⟩ := isL_v a4
  obtain rfl : w4 = (.long i4) := Option.some.inj ei4
  obtain ⟨i5, ei5⟩ := isL_v g5
  obtain rfl : w5 = (.long i5) := Option.some.inj ei5
  have S_MIN_NANOS : Sta s s.heap "com/example/ballast/ballast/database/CompactionPolicy" "MIN_NANOS" "J" (.long (600000000000 : Int64)) := Sta.start (sta_long hn) (Or.inr ⟨(hw _ (List.mem_of_getElem? (i := 3) rfl)), (hw _ (List.mem_of_getElem? (i := 25) rfl))⟩)
  obtain ⟨n, o, h1, h2, h3, _, L, rfl, ⟨rfl, N, _⟩, hq⟩ := rm0 l s _ hw tables_1 i0 i1 i2 i3 i4 i5 s.heap s.heap.size (Nat.le_refl _) S_MIN_NANOS p e ha hc hk s m _ below hf ((Spec.applies_iff_loose hf).mp happ).1 ⟨rfl, State.Warmed39.refl s, rfl⟩ trivial
  refine ⟨n, _, h1, h2, h3, hpost _ _ _ _ _ _ ⟨Cond.after_iff.mpr rfl, Cond.after_iff.mpr (eq_i res_at (Term.int_eval (1)) rfl), trivial⟩ ⟨hq.1, hq.2.1, (hq.2.2.sift fun y hy => Or.inr (N y hy)).mono (by decide) (by decide)⟩⟩
theorem main_1_1 : Claimed_1_1 := comes_1 fun _ _ _ _ _ _ h hF => ⟨h.1, hF⟩
theorem main_1_2 : Claimed_1_2 := comes_1 fun _ _ _ _ _ _ h hF => ⟨h.2.1, hF⟩
end Jvm.Pilot.@@N@@
namespace Jvm.Pilot.@@N@@
open Jvm Jvm.ClassFile Sem Op Lib Jvm.Free Jvm.Stand Jvm.Pilot.@@N@@.Jvm.D
/-! MADE BY PROGRAM (witnessworld.py) out of the Statement's table words and the real class files: 9 classes; the members and pool entries that the words name. The judged class is class 1, her method 2. -/
namespace start1
open Jvm.ClassFile
def u (s : String) : CpInfo := .utf8 (stringToUtf16 s)
/-- a pool by its gaps: so many unusable entries, then the entry; so many at the end -/
def gap : Nat → List CpInfo → List CpInfo
  | 0, r => r
  | n + 1, r => .unusable :: gap n r
def poolList (es : List (Nat × CpInfo)) (last : Nat) : List CpInfo := es.foldr (fun e r => gap e.1 (e.2 :: r)) (gap last [])
def pool (es : List (Nat × CpInfo)) (last : Nat) : Array CpInfo := ⟨poolList es last⟩
def fileOf (pool : Array CpInfo) (this : Nat) (attrs : Array Attribute := #[]) (ms : Array MethodInfo := #[]) (fl : Nat := 33) (sup : Nat := 0) (ifs : Array Nat := #[]) (fds : Array FieldInfo := #[]) : ClassFile where
  minorVersion := 0
  majorVersion := 65
  constantPool := pool
  accessFlags := fl
  thisClass := this
  superClass := sup
  interfaces := ifs
  fields := fds
  methods := ms
  attributes := attrs
def plain (name : String) (sup : Option ClassId) : Class where
  name := name
  kind := .ordinary
  loader := none
  accessFlags := 33
  super := sup
  interfaces := #[]
  cf := none
  fields := #[]
  methods := #[]
  instanceTypes := #[]
  staticTypes := #[]
  resolved := #[]
  callSites := []
  init := .initialized
  statics := none
  mirror := none

def pool0 : Array CpInfo := pool [(5, u "<init>"), (0, u "()V"), (1, .class_ 10), (1, u "java/lang/Object")] 113

def k0c0 : Code := { maxStack := 0, maxLocals := 1, code := object_method_1_code, exceptionTable := #[], attributes := #[] }
def k0m0 : Method := { name := "<init>", desc := "()V", sig := { parameters := [], returnType := none }, accessFlags := 1, code := some k0c0 }
/-- java/lang/Object -/
def k0 : Class := { plain "java/lang/Object" none with
  accessFlags := 33
  interfaces := #[]
  cf := some (fileOf pool0 8 #[] #[{ accessFlags := 1, nameIndex := 5, descriptorIndex := 6, attributes := #[] }] 33 0 #[] #[])
  fields := #[]
  methods := #[k0m0]
  instanceTypes := #[]
  staticTypes := #[]
  resolved := Array.replicate 124 none
  statics := none }

def pool1 : Array CpInfo := pool [(2, .class_ 4), (1, u "java/lang/Object"), (0, u "<init>"), (0, u "()V"), (0, .long 10485760), (1, .long 600000000000), (1, .long 4611686018427387903), (1, .class_ 14), (0, u "com/example/ballast/ballast/database/CompactionPolicy"), (0, .methodref 13 16), (0, .nameAndType 5 17), (0, u "(JJ)V"), (0, .methodref 13 19), (0, .nameAndType 20 21), (0, u "written"), (0, u "(JJ)Z"), (0, .methodref 23 24), (0, .class_ 25), (0, .nameAndType 26 27), (0, u "com/example/ballast/ballast/database/CompactionPolicyWrittenPinLaw"), (0, u "due"), (0, u "(JJJ)Z"), (0, .methodref 13 29), (0, .nameAndType 30 17), (0, u "compacted"), (0, .methodref 13 32), (0, .nameAndType 33 34), (0, u "failed"), (0, u "(J)V"), (3, u "law"), (0, u "(JJJJJJ)Z")] 2

def k1m0 : Method := { name := "<init>", desc := "()V", sig := { parameters := [], returnType := none }, accessFlags := 1, code := none }
def k1c1 : Code := { maxStack := 4, maxLocals := 7, code := method_2_code, exceptionTable := #[], attributes := #[] }
def k1m1 : Method := { name := "due", desc := "(JJJ)Z", sig := { parameters := [.long, .long, .long], returnType := some .boolean }, accessFlags := 10, code := some k1c1 }
def k1c2 : Code := { maxStack := 8, maxLocals := 23, code := code, exceptionTable := #[], attributes := #[] }
def k1m2 : Method := { name := "law", desc := "(JJJJJJ)Z", sig := { parameters := [.long, .long, .long, .long, .long, .long], returnType := some .boolean }, accessFlags := 9, code := some k1c2 }
/-- com/example/ballast/ballast/database/CompactionPolicyWrittenPinLaw -/
def k1 : Class := { plain "com/example/ballast/ballast/database/CompactionPolicyWrittenPinLaw" (some 0) with
  accessFlags := 49
  interfaces := #[]
  cf := some (fileOf pool1 23 #[] #[{ accessFlags := 1, nameIndex := 5, descriptorIndex := 6, attributes := #[] }, { accessFlags := 10, nameIndex := 26, descriptorIndex := 27, attributes := #[] }, { accessFlags := 9, nameIndex := 38, descriptorIndex := 39, attributes := #[] }] 49 2 #[] #[])
  fields := #[]
  methods := #[k1m0, k1m1, k1m2]
  instanceTypes := #[]
  staticTypes := #[]
  resolved := Array.replicate 42 none
  statics := none }

def pool2 : Array CpInfo := pool [(1, .methodref 2 3), (0, .class_ 4), (0, .nameAndType 5 6), (0, u "java/lang/Object"), (0, u "<init>"), (0, u "()V"), (0, .fieldref 8 9), (0, .class_ 10), (0, .nameAndType 11 12), (0, u "com/example/ballast/ballast/database/CompactionPolicy"), (0, u "baseBytes"), (0, u "J"), (0, .fieldref 8 14), (0, .nameAndType 15 12), (0, u "since"), (0, .fieldref 8 17), (0, .nameAndType 18 12), (0, u "transactions"), (0, .long 2), (1, .long 10485760), (1, .long 100), (1, .fieldref 8 26), (0, .nameAndType 27 12), (0, u "MIN_NANOS"), (2, u "MAX_NANOS"), (17, u "MIN_BYTES"), (1, u "GROWTH"), (0, u "MIN_TRANSACTIONS"), (0, u "(JJ)V"), (2, u "written"), (0, u "(JJ)Z"), (1, u "compacted"), (0, u "failed"), (0, u "(J)V")] 3

def k2c0 : Code := { maxStack := 3, maxLocals := 5, code := prog_7_method_1_code, exceptionTable := #[], attributes := #[] }
def k2m0 : Method := { name := "<init>", desc := "(JJ)V", sig := { parameters := [.long, .long], returnType := none }, accessFlags := 0, code := some k2c0 }
def k2c1 : Code := { maxStack := 6, maxLocals := 9, code := prog_7_method_2_code, exceptionTable := #[], attributes := #[] }
def k2m1 : Method := { name := "written", desc := "(JJ)Z", sig := { parameters := [.long, .long], returnType := some .boolean }, accessFlags := 0, code := some k2c1 }
def k2c2 : Code := { maxStack := 3, maxLocals := 5, code := prog_7_method_3_code, exceptionTable := #[], attributes := #[] }
def k2m2 : Method := { name := "compacted", desc := "(JJ)V", sig := { parameters := [.long, .long], returnType := none }, accessFlags := 0, code := some k2c2 }
def k2c3 : Code := { maxStack := 3, maxLocals := 3, code := prog_7_method_4_code, exceptionTable := #[], attributes := #[] }
def k2m3 : Method := { name := "failed", desc := "(J)V", sig := { parameters := [.long], returnType := none }, accessFlags := 0, code := some k2c3 }
/-- com/example/ballast/ballast/database/CompactionPolicy -/
def k2 : Class := { plain "com/example/ballast/ballast/database/CompactionPolicy" (some 0) with
  accessFlags := 48
  interfaces := #[]
  cf := some (fileOf pool2 8 #[] #[{ accessFlags := 0, nameIndex := 5, descriptorIndex := 52, attributes := #[] }, { accessFlags := 0, nameIndex := 55, descriptorIndex := 56, attributes := #[] }, { accessFlags := 0, nameIndex := 58, descriptorIndex := 52, attributes := #[] }, { accessFlags := 0, nameIndex := 59, descriptorIndex := 60, attributes := #[] }] 48 2 #[] #[{ accessFlags := 24, nameIndex := 48, descriptorIndex := 12, attributes := #[] }, { accessFlags := 24, nameIndex := 50, descriptorIndex := 12, attributes := #[] }, { accessFlags := 24, nameIndex := 51, descriptorIndex := 12, attributes := #[] }, { accessFlags := 24, nameIndex := 27, descriptorIndex := 12, attributes := #[] }, { accessFlags := 24, nameIndex := 30, descriptorIndex := 12, attributes := #[] }, { accessFlags := 2, nameIndex := 11, descriptorIndex := 12, attributes := #[] }, { accessFlags := 2, nameIndex := 15, descriptorIndex := 12, attributes := #[] }, { accessFlags := 2, nameIndex := 18, descriptorIndex := 12, attributes := #[] }])
  fields := #[{ name := "MIN_BYTES", type := .long, accessFlags := 24, slot := 0, constantValue := 0 }, { name := "GROWTH", type := .long, accessFlags := 24, slot := 1, constantValue := 0 }, { name := "MIN_TRANSACTIONS", type := .long, accessFlags := 24, slot := 2, constantValue := 0 }, { name := "MIN_NANOS", type := .long, accessFlags := 24, slot := 3, constantValue := 0 }, { name := "MAX_NANOS", type := .long, accessFlags := 24, slot := 4, constantValue := 0 }, { name := "baseBytes", type := .long, accessFlags := 2, slot := 0, constantValue := 0 }, { name := "since", type := .long, accessFlags := 2, slot := 1, constantValue := 0 }, { name := "transactions", type := .long, accessFlags := 2, slot := 2, constantValue := 0 }]
  methods := #[k2m0, k2m1, k2m2, k2m3]
  instanceTypes := #[.long, .long, .long]
  staticTypes := #[.long, .long, .long, .long, .long]
  resolved := Array.replicate 64 none
  statics := some 0 }

def pool3 : Array CpInfo := pool [(1, u "java/lang/Cloneable"), (0, .class_ 1), (0, u "java/lang/Object"), (0, .class_ 3)] 3

/-- java/lang/Cloneable -/
def k3 : Class := { plain "java/lang/Cloneable" (some 0) with
  accessFlags := 1537
  interfaces := #[]
  cf := some (fileOf pool3 2 #[] #[] 1537 4 #[] #[])
  fields := #[]
  methods := #[]
  instanceTypes := #[]
  staticTypes := #[]
  resolved := Array.replicate 8 none
  statics := none }

def pool4 : Array CpInfo := pool [(1, u "java/io/Serializable"), (0, .class_ 1), (0, u "java/lang/Object"), (0, .class_ 3)] 3

/-- java/io/Serializable -/
def k4 : Class := { plain "java/io/Serializable" (some 0) with
  accessFlags := 1537
  interfaces := #[]
  cf := some (fileOf pool4 2 #[] #[] 1537 4 #[] #[])
  fields := #[]
  methods := #[]
  instanceTypes := #[]
  staticTypes := #[]
  resolved := Array.replicate 8 none
  statics := none }

/-- the primitive byte -/
def k5 : Class := { plain "byte" none with kind := .primitive 'B', accessFlags := 0x411 }
/-- [B -/
def k6 : Class := { plain "[B" (some 0) with kind := .array 5 .byte, interfaces := #[3, 4], accessFlags := 1041 }

/-- the primitive int -/
def k7 : Class := { plain "int" none with kind := .primitive 'I', accessFlags := 0x411 }
/-- [I -/
def k8 : Class := { plain "[I" (some 0) with kind := .array 7 .int, interfaces := #[3, 4], accessFlags := 1041 }

def heap : Heap := #[{ cls := 2, slots := #[.long 0, .long 0, .long 0, .long 600000000000, .long 0], vm := .statics 2 }]
def classes : Array Class := #[k0, k1, k2, k3, k4, k5, k6, k7, k8]
def interned : List (Array UInt16 × Addr) := []
def slotsUsed : Nat := 5
def theMethod : MethodId := ⟨1, 2⟩
def args0 : Array Value := #[.long 5, .long 7, .long 5, .long 7, .long 5, .long 7]
def aboutOver (below : List Frame) : State where
  vm := { classes := classes, interned := interned.toArray }
  heap := heap
  slotsUsed := slotsUsed
  threads := #[{ frames := .invoking theMethod args0 :: below }]
def below0 : List Frame := [.native { method := ⟨0, 0⟩, args := #[] }]
def about1 : State := aboutOver below0
def p0 : Program := .bare "" "" ""
def e0 : Env := launch0.env 0 0 0
theorem w_frames : about1.frames = Frame.invoking theMethod args0 :: below0 := rfl
set_option maxRecDepth 65536 in
theorem w_args : argsFit about1.vm theMethod args0 = true := by decide +kernel
set_option maxRecDepth 65536 in
theorem w_heap : heapFits about1 = true := by decide +kernel
set_option maxRecDepth 65536 in
theorem w_runnable : about1.curStatus? = some .runnable := by decide +kernel
set_option maxRecDepth 65536 in
theorem w_alone : about1.alone = true := by decide +kernel
set_option maxRecDepth 65536 in
theorem w_named : about1.methodNamed? x = some theMethod := by decide +kernel
set_option maxRecDepth 65536 in
theorem w_hears : about1.hears theMethod below0 = true := by decide +kernel
set_option maxRecDepth 65536 in
theorem w_ripe : about1.ripe theMethod args0 below0 = true := by decide +kernel
theorem w_running : about1.status = .running := rfl
set_option maxRecDepth 65536 in
theorem w_room : about1.hasRoom e0.platform room_1 = true :=
  launch0.hasRoom_least _ room_1 (by decide +kernel) (by decide +kernel) (by decide +kernel) (by decide +kernel) (by decide +kernel) (by decide +kernel)
theorem allAtoms_all (ts : List Jvm.Cond) (a : Array Jvm.Value) (st : Jvm.State) : (allAtoms ts).before a st = ts.all (fun c => c.before a st) := by
  induction ts with
  | nil => rfl
  | cons c t ih =>
    show (Jvm.Cond.and c (allAtoms t)).before a st = _
    rw [Jvm.Cond.before_and, ih, List.all_cons]
def words1 : List Jvm.Cond := Jvm.Cond.code x code maxLocals ret :: tables_1
/-- a 'code' word, met by the world's own term for the bytes: nothing is compared byte by byte -/
theorem code_word {y : MethodName} {bytes : ByteArray} {mx : Nat} {rt : Option FieldType} {a : Array Value} {s : State} {m : MethodId} {meth : Method} {c : Code} (h1 : s.methodNamed? y = some m) (h2 : s.vm.method? m = some meth) (h3 : meth.code = some c) (h4 : c.code = bytes)
    (h5 : (c.maxLocals == mx && c.exceptionTable.isEmpty && decide (c.maxStack ≤ mostOperands) && decide (meth.sig.returnType = rt) && !meth.locks && decide (parseMethodDescriptor y.desc = some meth.sig)) = true) : (Jvm.Cond.code y bytes mx rt).before a s = true := by
  simp only [Bool.and_eq_true, beq_iff_eq, Bool.not_eq_true', decide_eq_true_eq] at h5
  obtain ⟨⟨⟨⟨⟨g1, g2⟩, g3⟩, g4⟩, g5⟩, g6⟩ := h5
  simp [Cond.before, Cond.holds, Cond.value, h1, h2, h3, h4, g1, g2, g3, g4, g5, g6]
def isCode : Jvm.Cond → Bool
  | .code _ _ _ _ => true
  | _ => false
theorem all_split {L : List Jvm.Cond} {P : Jvm.Cond → Bool} (h1 : L.all (fun c => isCode c || P c) = true) (h2 : ∀ c ∈ L.filter isCode, P c = true) : L.all P = true := by
  refine List.all_eq_true.mpr fun c hc => ?_
  have h := List.all_eq_true.mp h1 c hc
  rcases Bool.eq_false_or_eq_true (isCode c) with hi | hi
  · exact h2 c (List.mem_filter.mpr ⟨hc, hi⟩)
  · simpa [hi] using h
set_option maxRecDepth 65536 in
theorem w_c0 : (Jvm.Cond.code x code maxLocals ret).before args0 about1 = true := code_word (m := ⟨1, 2⟩) (meth := k1m2) (c := k1c2) (by decide +kernel) rfl rfl rfl (by decide +kernel)
set_option maxRecDepth 65536 in
theorem w_c1 : (Jvm.Cond.code ({ cls := "com/example/ballast/ballast/database/CompactionPolicy", name := "<init>", desc := "(JJ)V" } : Jvm.MethodName) prog_7_method_1_code (5 : Nat) (Option.none : Option Jvm.ClassFile.FieldType)).before args0 about1 = true := code_word (m := ⟨2, 0⟩) (meth := k2m0) (c := k2c0) (by decide +kernel) rfl rfl rfl (by decide +kernel)
set_option maxRecDepth 65536 in
theorem w_c2 : (Jvm.Cond.code ({ cls := "java/lang/Object", name := "<init>", desc := "()V" } : Jvm.MethodName) object_method_1_code (1 : Nat) (Option.none : Option Jvm.ClassFile.FieldType)).before args0 about1 = true := code_word (m := ⟨0, 0⟩) (meth := k0m0) (c := k0c0) (by decide +kernel) rfl rfl rfl (by decide +kernel)
set_option maxRecDepth 65536 in
theorem w_c3 : (Jvm.Cond.code ({ cls := "com/example/ballast/ballast/database/CompactionPolicy", name := "written", desc := "(JJ)Z" } : Jvm.MethodName) prog_7_method_2_code (9 : Nat) (Option.some Jvm.ClassFile.FieldType.boolean)).before args0 about1 = true := code_word (m := ⟨2, 1⟩) (meth := k2m1) (c := k2c1) (by decide +kernel) rfl rfl rfl (by decide +kernel)
set_option maxRecDepth 65536 in
theorem w_c4 : (Jvm.Cond.code ({ cls := "com/example/ballast/ballast/database/CompactionPolicyWrittenPinLaw", name := "due", desc := "(JJJ)Z" } : Jvm.MethodName) method_2_code (7 : Nat) (Option.some Jvm.ClassFile.FieldType.boolean)).before args0 about1 = true := code_word (m := ⟨1, 1⟩) (meth := k1m1) (c := k1c1) (by decide +kernel) rfl rfl rfl (by decide +kernel)
set_option maxRecDepth 65536 in
theorem w_c5 : (Jvm.Cond.code ({ cls := "com/example/ballast/ballast/database/CompactionPolicy", name := "compacted", desc := "(JJ)V" } : Jvm.MethodName) prog_7_method_3_code (5 : Nat) (Option.none : Option Jvm.ClassFile.FieldType)).before args0 about1 = true := code_word (m := ⟨2, 2⟩) (meth := k2m2) (c := k2c2) (by decide +kernel) rfl rfl rfl (by decide +kernel)
set_option maxRecDepth 65536 in
theorem w_c6 : (Jvm.Cond.code ({ cls := "com/example/ballast/ballast/database/CompactionPolicy", name := "failed", desc := "(J)V" } : Jvm.MethodName) prog_7_method_4_code (3 : Nat) (Option.none : Option Jvm.ClassFile.FieldType)).before args0 about1 = true := code_word (m := ⟨2, 3⟩) (meth := k2m3) (c := k2c3) (by decide +kernel) rfl rfl rfl (by decide +kernel)
def codes1 : List Jvm.Cond := [Jvm.Cond.code x code maxLocals ret, Jvm.Cond.code ({ cls := "com/example/ballast/ballast/database/CompactionPolicy", name := "<init>", desc := "(JJ)V" } : Jvm.MethodName) prog_7_method_1_code (5 : Nat) (Option.none : Option Jvm.ClassFile.FieldType), Jvm.Cond.code ({ cls := "java/lang/Object", name := "<init>", desc := "()V" } : Jvm.MethodName) object_method_1_code (1 : Nat) (Option.none : Option Jvm.ClassFile.FieldType), Jvm.Cond.code ({ cls := "com/example/ballast/ballast/database/CompactionPolicy", name := "written", desc := "(JJ)Z" } : Jvm.MethodName) prog_7_method_2_code (9 : Nat) (Option.some Jvm.ClassFile.FieldType.boolean), Jvm.Cond.code ({ cls := "com/example/ballast/ballast/database/CompactionPolicyWrittenPinLaw", name := "due", desc := "(JJJ)Z" } : Jvm.MethodName) method_2_code (7 : Nat) (Option.some Jvm.ClassFile.FieldType.boolean), Jvm.Cond.code ({ cls := "com/example/ballast/ballast/database/CompactionPolicy", name := "compacted", desc := "(JJ)V" } : Jvm.MethodName) prog_7_method_3_code (5 : Nat) (Option.none : Option Jvm.ClassFile.FieldType), Jvm.Cond.code ({ cls := "com/example/ballast/ballast/database/CompactionPolicy", name := "failed", desc := "(J)V" } : Jvm.MethodName) prog_7_method_4_code (3 : Nat) (Option.none : Option Jvm.ClassFile.FieldType)]
set_option maxRecDepth 65536 in
theorem codes_eq : words1.filter isCode = codes1 := rfl
theorem w_codes : ∀ c ∈ words1.filter isCode, c.before args0 about1 = true := by
  rw [codes_eq]
  intro c hc
  simp only [codes1, List.mem_cons, List.not_mem_nil, or_false] at hc
  rcases hc with rfl | rfl | rfl | rfl | rfl | rfl | rfl
  · exact w_c0
  · exact w_c1
  · exact w_c2
  · exact w_c3
  · exact w_c4
  · exact w_c5
  · exact w_c6
set_option maxRecDepth 65536 in
theorem w_t1 : (words1.take 24).all (fun c => isCode c || c.before args0 about1) = true := by decide +kernel
set_option maxRecDepth 65536 in
theorem w_t2 : (words1.drop 24).all (fun c => isCode c || c.before args0 about1) = true := by decide +kernel
theorem w_tables : (allAtoms (Jvm.Cond.code x code maxLocals ret :: tables_1)).before args0 about1 = true := by
  rw [allAtoms_all]
  show words1.all (fun c => c.before args0 about1) = true
  refine all_split ?_ w_codes
  rw [← List.take_append_drop 24 words1, List.all_append, w_t1, w_t2]
  rfl
set_option maxRecDepth 65536 in
theorem w_case : (Jvm.Cond.and given_1 narrow_1).before args0 about1 = true := by decide +kernel
theorem w_applies : (headSpec (Jvm.Cond.code x code maxLocals ret :: tables_1) room_1).applies x e0.platform about1 = true :=
  (Spec.applies_iff w_frames).mpr ⟨w_running, w_runnable, w_alone, w_named, w_hears, w_ripe, w_room, w_tables⟩
theorem atStart : AtStart classFile x code maxLocals ret World_1 tables_1 room_1 Calls_1 rest_1 Pre_1 launch0 p0 e0 about1 theMethod args0 below0 :=
  ⟨lists_1, trivial, launch0.admits_env _ _ _, launch0.least_env, fairChoices_fair.cas, fairChoices_fair.clock, w_frames, w_args, w_heap, w_applies, trivial, trivial, w_case⟩
end start1
theorem witness_1 : WitnessClaimed_1 := ⟨start1.p0, start1.e0, start1.about1, start1.theMethod, start1.args0, start1.below0, start1.atStart⟩
end Jvm.Pilot.@@N@@
