import JvmDerived
import JvmDerived.Pilot.@@N@@Statement
import JvmDerived.Pilot.@@N@@Code
set_option linter.unusedVariables false
set_option linter.unusedSimpArgs false
namespace Jvm.RoadKit
open Sem ClassFile Op Lib Jvm.Stand Jvm.Free Jvm.LawKit
section New
variable {p : Program} {l : Launch} {e : Env} {R : Room} {s : State} {m : MethodId} {args : Array Value} {below : List Frame} {meth : Method} {c : Code} {T : State} {locs : List Loc} {cells slots : Nat}
theorem retI (X : Stand p l e R s m args below meth c T locs cells slots) (hx : p.tables.exec = Jvm.exec) {pc : Nat} {Ls : Array Slot} {z : Int32} {rest : List Value} (hret : meth.sig.returnType = some .int) (hd : decode c.code pc = .ok (.ireturn, 1)) {fs : List Frame}
    (hl : ∀ (f : JFrame) (acts : List Action), f.method = m → f.locked = none → f.entered = [] → (doReturn e (T.setTop f) acts (some (.int z))).1 = T.setFrames fs) : Steps p.tables e below (T.setTop (mkF m pc Ls (.int z :: rest))) (T.setFrames fs) := by
  have hm' : T.vm.method? m = some meth := X.method'
  have hn : narrow .int (.int z) = .int z := rfl
  show Steps p.tables e below (T.setTop { method := m, pc := pc, locals := Ls, stack := _ :: rest, locked := none }) _
  jvm_step X.here [X.here.top, hx, hd, hm', hret, hn]
  first | (intro acts; rw [hl _ acts rfl rfl rfl]) | rw [hl _ _ rfl rfl rfl]
  exact Steps.refl _
/-- from S the invocation comes to its end, and Q says what it returned, the heap, the places written -/
def OFin (p : Program) (e : Env) (below : List Frame) (s : State) (k n : Nat) (Q : Option Value → Heap → List Loc → Prop) (S : State) : Prop :=
  ∃ t o, Steps p.tables e below S t ∧ t.status = .running ∧ Ended t below o ∧ ∃ v L, o = .returned v ∧ Q v t.heap L ∧ FrameEnd s o t L k n
variable {k n : Nat} {Q : Option Value → Heap → List Loc → Prop} {S S' : State}
theorem OFin.back (h : ∀ t, Steps p.tables e below S' t → Steps p.tables e below S t) (g : OFin p e below s k n Q S') : OFin p e below s k n Q S := by
  obtain ⟨t, o, h1, h2⟩ := g
  exact ⟨t, o, h t h1, h2⟩
theorem OFin.via (h : Steps p.tables e below S S') (g : OFin p e below s k n Q S') : OFin p e below s k n Q S := by
  obtain ⟨t, o, h1, h2⟩ := g
  exact ⟨t, o, h.trans h1, h2⟩
variable {h : Heap} {pc : Nat} {Ls : Array Slot} {z : Int32} {rest : List Value}
theorem OFin.outI (X : Stand p l e R s m args below meth c T locs cells slots) (hx : p.tables.exec = Jvm.exec) (hret : meth.sig.returnType = some .int) (hk : meth.locks = false) (hd : decode c.code pc = .ok (.ireturn, 1)) (hc : cells ≤ k) (hs : slots ≤ n) (eT : T.heap = h) (hq : Q (some (.int z)) h locs) :
    OFin p e below s k n Q (T.setTop (mkF m pc Ls (.int z :: rest))) := by
  obtain ⟨fs, hr, hrun, hended, hW, hsame⟩ := X.leave (v := some (.int z)) (fun h => by rw [hret] at h; cases h) hk
  exact ⟨_, _, retI X hx hret hd hr, hrun, hended, _, _, rfl, by show Q _ T.heap _; rw [eT]; exact hq, ⟨_, rfl⟩, hW, hsame.mono hc hs⟩
theorem OFin.outN {t : FieldType} (X : Stand p l e R s m args below meth c T locs cells slots) (hx : p.tables.exec = Jvm.exec) (hret : meth.sig.returnType = some t) (ht : t = .boolean ∨ t = .byte ∨ t = .char ∨ t = .short) (hk : meth.locks = false) (hd : decode c.code pc = .ok (.ireturn, 1)) (hc : cells ≤ k) (hs : slots ≤ n) (eT : T.heap = h) (hq : Q (some (.int (nar t z))) h locs) :
    OFin p e below s k n Q (T.setTop (mkF m pc Ls (.int z :: rest))) := by
  obtain ⟨fs, hr, hrun, hended, hW, hsame⟩ := X.leave (v := some (.int (nar t z))) (fun h => by rw [hret] at h; cases h) hk
  exact ⟨_, _, retN X hx hret ht hd hr, hrun, hended, _, _, rfl, by show Q _ T.heap _; rw [eT]; exact hq, ⟨_, rfl⟩, hW, hsame.mono hc hs⟩
theorem OFin.outA {t : FieldType} {w : Value} (X : Stand p l e R s m args below meth c T locs cells slots) (hx : p.tables.exec = Jvm.exec) (hret : meth.sig.returnType = some t) (ht : t.isReference = true) (hn : narrow t w = w) (hw : w.isRef = true) (hk : meth.locks = false) (hd : decode c.code pc = .ok (.areturn, 1)) (hc : cells ≤ k) (hs : slots ≤ n) (eT : T.heap = h) (hq : Q (some w) h locs) :
    OFin p e below s k n Q (T.setTop (mkF m pc Ls (w :: rest))) := by
  obtain ⟨fs, hr, hrun, hended, hW, hsame⟩ := X.leave (v := some w) (fun h => by rw [hret] at h; cases h) hk
  exact ⟨_, _, retOut X hx hret hn (Or.inr (Or.inr (Or.inr (Or.inr ⟨rfl, ht, hw⟩)))) hd hr, hrun, hended, _, _, rfl, by show Q _ T.heap _; rw [eT]; exact hq, ⟨_, rfl⟩, hW, hsame.mono hc hs⟩
theorem OFin.outJ {w : Int64} (X : Stand p l e R s m args below meth c T locs cells slots) (hx : p.tables.exec = Jvm.exec) (hret : meth.sig.returnType = some .long) (hk : meth.locks = false) (hd : decode c.code pc = .ok (.lreturn, 1)) (hc : cells ≤ k) (hs : slots ≤ n) (eT : T.heap = h) (hq : Q (some (.long w)) h locs) :
    OFin p e below s k n Q (T.setTop (mkF m pc Ls (.long w :: rest))) := by
  obtain ⟨fs, hr, hrun, hended, hW, hsame⟩ := X.leave (v := some (.long w)) (fun h => by rw [hret] at h; cases h) hk
  exact ⟨_, _, retOut X hx hret rfl (Or.inr (Or.inl ⟨rfl, rfl, _, rfl⟩)) hd hr, hrun, hended, _, _, rfl, by show Q _ T.heap _; rw [eT]; exact hq, ⟨_, rfl⟩, hW, hsame.mono hc hs⟩
theorem OFin.outV (X : Stand p l e R s m args below meth c T locs cells slots) (hx : p.tables.exec = Jvm.exec) (hret : meth.sig.returnType = none) (hk : meth.locks = false) (hd : decode c.code pc = .ok (.return_, 1)) (hc : cells ≤ k) (hs : slots ≤ n) (eT : T.heap = h) (hq : Q none h locs) :
    OFin p e below s k n Q (T.setTop (mkF m pc Ls [])) := by
  obtain ⟨fs, hr, hrun, hended, hW, hsame⟩ := X.leave (v := none) (fun _ => rfl) hk
  exact ⟨_, _, X.returnOut hx hret hd hr, hrun, hended, _, _, rfl, by show Q _ T.heap _; rw [eT]; exact hq, ⟨_, rfl⟩, hW, hsame.mono hc hs⟩
end New
end Jvm.RoadKit
namespace Jvm.Pilot.@@N@@
open Jvm Jvm.ClassFile Sem Op Lib Jvm.Free Jvm.Stand Jvm.LawKit Jvm.RoadKit Bundle Jvm.Pilot.@@N@@.Jvm.D

theorem own_fldI {Z : State} {args : Array Value} {t : Term} {a : Addr} {C n d : String} {k : Int32} (ht : t.eval args Z none [] Z = some (.ref a)) (h : (Jvm.Cond.eq (Jvm.Term.field t C n d) (Jvm.Term.int k)).value args Z none Z [] = some true) : Fld Z Z.heap a C n d (.int k) := by
  exact Fld.start ((fld_at ht).symm.trans (eqv_i (F := Jvm.Term.int k) rfl h))

theorem own_ne {a b n : Nat} (h : a < n) (g : b = n) : a ≠ b := by omega
theorem own_sta {Z : State} {C n d : String} {v : Value} {k : Nat} {h : Heap} (S : Sta Z Z.heap C n d v) (O : Old Z k h) : Sta Z h C n d v := S.ext O.2
theorem own_len {s : State} {args : Array Value} {t : Term} {a : Addr} {cl : Cell} {n : Int32} (ht : t.eval args s none [] s = some (.ref a)) (ha : s.arrayAt? a = some cl) (h : (Jvm.Term.length t).eval args s none [] s = some (.int n)) : cl.slots.size < 2 ^ 31 ∧ cl.slots.size.toInt32 = n := by
  by_cases q : cl.slots.size < 2 ^ 31
  · rw [len_f ht ha q] at h
    exact ⟨q, Value.int.inj (Option.some.inj h)⟩
  · simp [Term.eval, ht, ha, q] at h
def own_eq (l1 : Int32) (c1 : Int64) (l2 : Int32) (c2 : Int64) : Int32 := if l1 = l2 ∧ c1 = c2 then 1 else 0
theorem own_eqT {l1 l2 : Int32} {c1 c2 : Int64} (h1 : l1 = l2) (h2 : c1 = c2) : own_eq l1 c1 l2 c2 = 1 := if_pos ⟨h1, h2⟩
theorem own_eqF {l1 l2 : Int32} {c1 c2 : Int64} (h : ¬ (l1 = l2 ∧ c1 = c2)) : own_eq l1 c1 l2 c2 = 0 := if_neg h
theorem own_notDrift {Z : State} {a0 : Array Value} (hw : ∀ d ∈ tables_1, d.before a0 Z = true) : ∃ c t, Z.vm.findClass "java/lang/Long" = some c ∧ Z.vm.findClass "com/example/mortise/mortise/schema/ContentModel$Drift" = some t ∧ Z.vm.assignable c t = false := by
  obtain ⟨t, kt, t1, t2, t3, t4, -, -⟩ := Cond.instantiable_spec ((hw _ (List.mem_of_getElem? (i := 1) rfl)))
  obtain ⟨co, ko, o1, o2, o3, -, -⟩ := Cond.noSuperclass_spec ((hw _ (List.mem_of_getElem? (i := 43) rfl)))
  obtain ⟨cn, hcn⟩ := found_sup ((hw _ (List.mem_of_getElem? (i := 42) rfl)))
  obtain ⟨pn, kn, kpn, n1, n2, n3, n4, -⟩ := Cond.superclass_spec hcn ((hw _ (List.mem_of_getElem? (i := 42) rfl)))
  cases n1.symm.trans o1
  obtain ⟨cl, hcl⟩ := found_sup ((hw _ (List.mem_of_getElem? (i := 41) rfl)))
  obtain ⟨pl, kl, kpl, l1, l2, l3, l4, l5, -, l7⟩ := Cond.superclass_spec hcl ((hw _ (List.mem_of_getElem? (i := 41) rfl)))
  cases l1.symm.trans hcn
  have e1 := ids_ne hcl t1 (by decide)
  have e2 := ids_ne hcn t1 (by decide)
  have e3 := ids_ne o1 t1 (by decide)
  have e4 : kt.isInterface = false := by cases hq : kt.isInterface with | false => rfl | true => rw [hq] at t4; simp at t4
  refine ⟨cl, t, hcl, t1, ?_⟩
  show Z.vm.assignableAux (255 + 1) cl t = false
  have s1 : ∀ f, Z.vm.isSubclassAux f co t = false := fun f => by cases f <;> simp [Vm.isSubclassAux, e3, o2, o3]
  have s2 : ∀ f, Z.vm.isSubclassAux f cn t = false := fun f => by cases f <;> simp [Vm.isSubclassAux, e2, n2, n4, s1]
  have s3 : ∀ f, Z.vm.isSubclassAux f cl t = false := fun f => by cases f <;> simp [Vm.isSubclassAux, e1, l2, l4, s2]
  simp [Vm.assignableAux, e1, l2, t2, l5, t3, e4, Vm.isSubclass, s3]

theorem own_hc {Z : State} {cl : Cell} {k : Nat} {h : Heap} (HC : ∀ q0 : Int64, ¬ (lcmpW q0 (-128 : Int64)) < (0 : Int32) → ¬ (0 : Int32) < (lcmpW q0 (127 : Int64)) → ∃ x : Addr, ¬ ((q0.toInt32 + (128 : Int32)) < 0 ∨ cl.slots.size ≤ ((q0.toInt32 + (128 : Int32))).toNatClampNeg) ∧ cl.slots[((q0.toInt32 + (128 : Int32))).toNatClampNeg]? = some (.ref x) ∧ Exa Z Z.heap x "java/lang/Long") (O : Old Z k h) {q0 : Int64} (u1 : ¬ (lcmpW q0 (-128 : Int64)) < (0 : Int32)) (u2 : ¬ (0 : Int32) < (lcmpW q0 (127 : Int64))) : ∃ x : Addr, ¬ ((q0.toInt32 + (128 : Int32)) < 0 ∨ cl.slots.size ≤ ((q0.toInt32 + (128 : Int32))).toNatClampNeg) ∧ cl.slots[((q0.toInt32 + (128 : Int32))).toNatClampNeg]? = some (.ref x) ∧ Exa Z h x "java/lang/Long" := by
  obtain ⟨x, a, b, c⟩ := HC q0 u1 u2
  exact ⟨x, a, b, c.ext O.2⟩
theorem own_ix {q : Int64} (h1 : ¬ q < (-128 : Int64)) (h2 : ¬ (127 : Int64) < q) : ¬ (q.toInt32 + (128 : Int32)) < 0 ∧ (q.toInt32 + (128 : Int32)) < 256 := by
  rw [Int64.lt_iff_toInt_lt] at h1 h2
  have a1 : (-128 : Int64).toInt = -128 := by decide
  have a2 : (127 : Int64).toInt = 127 := by decide
  have c1 := c_l2i q
  have c2 := c_iadd q.toInt32 128
  have c3 := rng32 q.toInt32
  have c4 := rng32 (q.toInt32 + 128)
  have c5 : (128 : Int32).toInt = 128 := by decide
  have c6 : (256 : Int32).toInt = 256 := by decide
  have c7 : (0 : Int32).toInt = 0 := by decide
  rw [Int32.lt_iff_toInt_lt, Int32.lt_iff_toInt_lt, c6, c7]
  omega
theorem own_sub {Z : State} {args : Array Value} {a b : Term} {idx : List Nat} {x y : Int32} (ha : a.eval args Z none idx Z = some (.int x)) (hb : b.eval args Z none idx Z = some (.int y)) : (Term.sub a b).eval args Z none idx Z = some (.int (x - y)) := by simp [Term.eval, ha, hb]
theorem own_cache {Z : State} {args : Array Value} {ac : Addr} {cl : Cell} (ev : (Jvm.Term.static "java/lang/Long$LongCache" "cache" "[Ljava/lang/Long;").eval args Z none [] Z = some (.ref ac)) (Ar : Arr Z Z.heap ac cl (.object "java/lang/Long"))
    (w4 : (Jvm.Cond.eq (Jvm.Term.length (Jvm.Term.static "java/lang/Long$LongCache" "cache" "[Ljava/lang/Long;")) (Jvm.Term.int (256 : Int32))).before args Z = true) (w5 : ((Jvm.Cond.all (Jvm.Term.static "java/lang/Long$LongCache" "cache" "[Ljava/lang/Long;") (Jvm.Cond.and (Jvm.Cond.exactly (Jvm.Term.elem (Jvm.Term.static "java/lang/Long$LongCache" "cache" "[Ljava/lang/Long;") (Jvm.Term.index (0 : Nat))) "java/lang/Long") (Jvm.Cond.eq (Jvm.Term.field (Jvm.Term.elem (Jvm.Term.static "java/lang/Long$LongCache" "cache" "[Ljava/lang/Long;") (Jvm.Term.index (0 : Nat))) "java/lang/Long" "value" "J") (Jvm.Term.op1 Jvm.Unary.i2l (Jvm.Term.sub (Jvm.Term.index (0 : Nat)) (Jvm.Term.int (128 : Int32)))))))).before args Z = true) : ∀ q0 : Int64, ¬ (lcmpW q0 (-128 : Int64)) < (0 : Int32) → ¬ (0 : Int32) < (lcmpW q0 (127 : Int64)) → ∃ x : Addr, ¬ ((q0.toInt32 + (128 : Int32)) < 0 ∨ cl.slots.size ≤ ((q0.toInt32 + (128 : Int32))).toNatClampNeg) ∧ cl.slots[((q0.toInt32 + (128 : Int32))).toNatClampNeg]? = some (.ref x) ∧ Exa Z Z.heap x "java/lang/Long" := by
  have et : ∀ idx, (Jvm.Term.static "java/lang/Long$LongCache" "cache" "[Ljava/lang/Long;").eval args Z none idx Z = some (.ref ac) := fun _ => ev
  obtain ⟨z1, z2⟩ := own_len ev (Ar.fin (Vm.Alike.refl _)) (eqv_i (F := Jvm.Term.int (256 : Int32)) rfl (Cond.before_iff.mp w4))
  obtain ⟨-, hS, -, hall⟩ := Bxs.start (val := fun j => .long (j - 128).toInt64) (z := 256) et Ar z1 z2 (by decide) (Cond.before_iff.mp w5) (fun X j nn hh => eqv_l (i2l_at (own_sub (idx_at nn) rfl)) hh)
  intro q0 u1 u2
  have hin := inb_of hS (own_ix (fun h => u1 ((lw_lt _ _).mpr h)) (fun h => u2 ((lw_gt _ _).mpr h)))
  obtain ⟨b, e1, e2, -⟩ := hall _ hin
  exact ⟨b, hin, e1, e2⟩
theorem d1_0 : decode prog_90_method_1_code 0 = .ok (.aload_n 0, 1) := by decide +kernel
theorem d1_1 : decode prog_90_method_1_code 1 = .ok (.invokespecial 1, 3) := by decide +kernel
theorem d1_4 : decode prog_90_method_1_code 4 = .ok (.aload_n 0, 1) := by decide +kernel
theorem d1_5 : decode prog_90_method_1_code 5 = .ok (.iload_n 1, 1) := by decide +kernel
theorem d1_6 : decode prog_90_method_1_code 6 = .ok (.putfield 7, 3) := by decide +kernel
theorem d1_9 : decode prog_90_method_1_code 9 = .ok (.aload_n 0, 1) := by decide +kernel
theorem d1_10 : decode prog_90_method_1_code 10 = .ok (.lload_n 2, 1) := by decide +kernel
theorem d1_11 : decode prog_90_method_1_code 11 = .ok (.putfield 13, 3) := by decide +kernel
theorem d1_14 : decode prog_90_method_1_code 14 = .ok (.return_, 1) := by decide +kernel
theorem pn1 : plainName "com/example/mortise/mortise/schema/ContentModel$Drift" = true := by first | (simp [plainName, overriddenIn]; done) | decide +kernel
theorem ef1 (m : MethodId) (a : Addr) (lv : Int32) (bv : Int64) : entryFrame m #[(.ref a), (.int lv), (.long bv)] 4 = mkF m 0 #[.val (.ref a), .val (.int lv), .val (.long bv), .second] [] := by first | (simp [entryFrame, mkF, argsToLocals, Value.category]; done) | rfl
def Q1 (Z : State) (a : Addr) (lv : Int32) (bv : Int64) (h0 : Heap) (n0 : Nat) (v : Option Value) (h : Heap) (L : List Loc) : Prop := v = none ∧ Fr n0 L ∧ Keep h0 h [a] ∧ Exa Z h a "com/example/mortise/mortise/schema/ContentModel$Drift" ∧ Fld Z h a "com/example/mortise/mortise/schema/ContentModel$Drift" "level" "I" (.int lv) ∧ Fld Z h a "com/example/mortise/mortise/schema/ContentModel$Drift" "by" "J" (.long bv)
set_option maxRecDepth 65536 in
set_option maxHeartbeats 40000000 in
theorem rm1 (l : Launch) (Z : State) (a0 : Array Value) (hw : ∀ d ∈ tables_1, d.before a0 Z = true) (ws : List Jvm.Cond) (a : Addr) (lv : Int32) (bv : Int64) (h0 : Heap) (n0 : Nat) (Z0 : n0 ≤ h0.size) (F1 : Fld Z h0 a "com/example/mortise/mortise/schema/ContentModel$Drift" "level" "I" (.int (0 : Int32))) (F2 : Fld Z h0 a "com/example/mortise/mortise/schema/ContentModel$Drift" "by" "J" (.long (0 : Int64))) (EX : Exa Z h0 a "com/example/mortise/mortise/schema/ContentModel$Drift") (ga : n0 ≤ a) :
    MetFree l (⟨"com/example/mortise/mortise/schema/ContentModel$Drift", "<init>", "(IJ)V"⟩ : MethodName) (head1 (Jvm.Cond.code (⟨"com/example/mortise/mortise/schema/ContentModel$Drift", "<init>", "(IJ)V"⟩ : MethodName) prog_90_method_1_code 4 none :: ws) ({ frames := 1, cells := 0, slots := 0, locals := 12 } : Room)) (fun ar_ U => ar_ = #[(.ref a), (.int lv), (.long bv)] ∧ Z.Warmed39 U.vm ∧ U.heap = h0) (fun _ _ _ _ _ => True) (fun _ U o U' => ∃ v L, o = .returned v ∧ Q1 Z a lv bv h0 n0 v U'.heap L ∧ FrameEnd U o U' L ({ frames := 1, cells := 0, slots := 0, locals := 12 } : Room).cells ({ frames := 1, cells := 0, slots := 0, locals := 12 } : Room).slots) := by
  refine MetFree.of_bodySF (plainFor_of_name pn1) hisR ?_
  intro p e s m args below meth c s₁ Bd hml0 hP hK
  obtain ⟨rfl, hZ, hh⟩ := hP
  have hx := Bd.exec
  have hby := Bd.bytes
  have hml : c.maxLocals = 4 := hml0
  have hown : s.vm.findClass "com/example/mortise/mortise/schema/ContentModel$Drift" = some m.cls := findClass_of_methodNamed Bd.named
  have hnm := (name_of_methodNamed Bd.named Bd.method).1
  have X0 : Stand p l e ({ frames := 1, cells := 0, slots := 0, locals := 12 } : Room) s m #[(.ref a), (.int lv), (.long bv)] below meth c s₁ [] 0 0 := Stand.of_body Bd
  have e0 : s₁.heap = h0 := by rw [← hh, Bd.state]; rfl
  have N0 := Fr.nil n0
  show OFin p e below s _ _ (Q1 Z a lv bv h0 n0) (s₁.setTop (entryFrame m #[(.ref a), (.int lv), (.long bv)] 4))
  rw [ef1]
  obtain ⟨Q, hQ⟩ : ∃ Q, Q = Q1 Z a lv bv h0 n0 := ⟨_, rfl⟩
  rw [← hQ]
  show OFin p e below s _ _ Q (s₁.setTop (mkF m 0 #[.val (.ref a), .val (.int lv), .val (.long bv), .second] []))
  refine OFin.back (fun _ hr => XS.aloadN X0.here hx rfl (hb hby d1_0) rfl rfl hr) ?_
  show OFin p e below s _ _ Q (s₁.setTop (mkF m 1 #[.val (.ref a), .val (.int lv), .val (.long bv), .second] [(.ref a)]))
  obtain ⟨T1, X1, e1, st1⟩ := initO X0 hx hZ hown (hw _ (List.mem_of_getElem? (i := 6) rfl)) (hw _ (List.mem_of_getElem? (i := 7) rfl)) (hw _ (List.mem_of_getElem? (i := 8) rfl)) e0 (g := (mkF m 1 #[.val (.ref a), .val (.int lv), .val (.long bv), .second] [(.ref a)])) rfl (by rw [hml]; rfl) rfl (hb hby d1_1) (by decide) (W := 0) (by show 2 * 0 + _ ≤ _; exact Nat.le_of_eq rfl) (by decide)
  refine OFin.back st1 ?_
  show OFin p e below s _ _ Q (T1.setTop (mkF m 4 #[.val (.ref a), .val (.int lv), .val (.long bv), .second] []))
  refine OFin.back (fun _ hr => XS.aloadN X1.here hx rfl (hb hby d1_4) rfl rfl hr) ?_
  show OFin p e below s _ _ Q (T1.setTop (mkF m 5 #[.val (.ref a), .val (.int lv), .val (.long bv), .second] [(.ref a)]))
  refine OFin.back (fun _ hr => XS.iloadN X1.here hx rfl (hb hby d1_5) rfl hr) ?_
  show OFin p e below s _ _ Q (T1.setTop (mkF m 6 #[.val (.ref a), .val (.int lv), .val (.long bv), .second] [(.int lv), (.ref a)]))
  obtain ⟨T2, h2, X2, e2, W2, st2⟩ := putF X1 hx hZ hown (host := "") (Or.inl (hw _ (List.mem_of_getElem? (i := 9) rfl))) Via.refl e1 F1 EX (Or.inr ⟨(hw _ (List.mem_of_getElem? (i := 10) rfl)), rfl, hnm⟩) (hw _ (List.mem_of_getElem? (i := 1) rfl)) (ty := .int) (by decide) rfl rfl (g := (mkF m 6 #[.val (.ref a), .val (.int lv), .val (.long bv), .second] [(.int lv), (.ref a)])) rfl rfl (hb hby d1_6)
  have f3 := F1.same W2
  have f4 := F2.other W2 (Or.inr (slot_ne (Or.inr (hw _ (List.mem_of_getElem? (i := 12) rfl))) (Or.inr (hw _ (List.mem_of_getElem? (i := 10) rfl))) (by decide) (t := .long) (t' := .int) (by decide) (by decide)))
  have f5 := EX.wr W2
  have f6 := Nat.le_trans Z0 (Keep.of_wr W2).1
  have f7 := (Keep.refl h0 [a]).wr W2 (Or.inl (List.mem_of_getElem? (i := 0) rfl))
  have N2 := Fr.snoc X2 N0 ga
  refine OFin.back st2 ?_
  show OFin p e below s _ _ Q (T2.setTop (mkF m 9 #[.val (.ref a), .val (.int lv), .val (.long bv), .second] []))
  refine OFin.back (fun _ hr => XS.aloadN X2.here hx rfl (hb hby d1_9) rfl rfl hr) ?_
  show OFin p e below s _ _ Q (T2.setTop (mkF m 10 #[.val (.ref a), .val (.int lv), .val (.long bv), .second] [(.ref a)]))
  refine OFin.back (fun _ hr => XS.lloadN X2.here hx rfl (hb hby d1_10) rfl hr) ?_
  show OFin p e below s _ _ Q (T2.setTop (mkF m 11 #[.val (.ref a), .val (.int lv), .val (.long bv), .second] [(.long bv), (.ref a)]))
  obtain ⟨T8, h8, X8, e8, W8, st8⟩ := putF X2 hx hZ hown (host := "") (Or.inl (hw _ (List.mem_of_getElem? (i := 11) rfl))) Via.refl e2 f4 f5 (Or.inr ⟨(hw _ (List.mem_of_getElem? (i := 12) rfl)), rfl, hnm⟩) (hw _ (List.mem_of_getElem? (i := 1) rfl)) (ty := .long) (by decide) rfl rfl (g := (mkF m 11 #[.val (.ref a), .val (.int lv), .val (.long bv), .second] [(.long bv), (.ref a)])) rfl rfl (hb hby d1_11)
  have f9 := f4.same W8
  have f10 := f5.wr W8
  have f11 := f3.other W8 (Or.inr (slot_ne (Or.inr (hw _ (List.mem_of_getElem? (i := 10) rfl))) (Or.inr (hw _ (List.mem_of_getElem? (i := 12) rfl))) (by decide) (t := .int) (t' := .long) (by decide) (by decide)))
  have f12 := Nat.le_trans f6 (Keep.of_wr W8).1
  have f13 := f7.wr W8 (Or.inl (List.mem_of_getElem? (i := 0) rfl))
  have N8 := Fr.snoc X8 N2 ga
  refine OFin.back st8 ?_
  show OFin p e below s _ _ Q (T8.setTop (mkF m 14 #[.val (.ref a), .val (.int lv), .val (.long bv), .second] []))
  exact OFin.outV X8 hx Bd.returns Bd.notSynchronized (hb hby d1_14) (by decide) (by decide) e8 (by rw [hQ]; exact ⟨rfl, N8, f13, f10, f11, f9⟩)
theorem d2n_0 : decode prog_90_method_3_code 0 = .ok (.aload_n 1, 1) := by decide +kernel
theorem d2n_1 : decode prog_90_method_3_code 1 = .ok (.instanceof 8, 3) := by decide +kernel
theorem d2n_4 : decode prog_90_method_3_code 4 = .ok (.ifCond .eq 35, 3) := by decide +kernel
theorem d2n_39 : decode prog_90_method_3_code 39 = .ok (.iconst 0, 1) := by decide +kernel
theorem d2n_40 : decode prog_90_method_3_code 40 = .ok (.ireturn, 1) := by decide +kernel
theorem pn2n : plainName "com/example/mortise/mortise/schema/ContentModel$Drift" = true := by first | (simp [plainName, overriddenIn]; done) | decide +kernel
theorem ef2n (m : MethodId) (a : Addr) : entryFrame m #[(.ref a), .null] 3 = mkF m 0 #[.val (.ref a), .val .null, .unset] [] := by first | (simp [entryFrame, mkF, argsToLocals, Value.category]; done) | rfl
def Q2n (Z : State) (a : Addr) (h0 : Heap) (n0 : Nat) (v : Option Value) (h : Heap) (L : List Loc) : Prop := v = some (.int 0) ∧ Fr n0 L ∧ h = h0
set_option maxRecDepth 65536 in
set_option maxHeartbeats 40000000 in
theorem rm2n (l : Launch) (Z : State) (a0 : Array Value) (hw : ∀ d ∈ tables_1, d.before a0 Z = true) (ws : List Jvm.Cond) (a : Addr) (h0 : Heap) (n0 : Nat) (Z0 : n0 ≤ h0.size) :
    MetFree l (⟨"com/example/mortise/mortise/schema/ContentModel$Drift", "equals", "(Ljava/lang/Object;)Z"⟩ : MethodName) (head1 (Jvm.Cond.code (⟨"com/example/mortise/mortise/schema/ContentModel$Drift", "equals", "(Ljava/lang/Object;)Z"⟩ : MethodName) prog_90_method_3_code 3 (some .boolean) :: ws) ({ frames := 0, cells := 0, slots := 0, locals := 0 } : Room)) (fun ar_ U => ar_ = #[(.ref a), .null] ∧ Z.Warmed39 U.vm ∧ U.heap = h0) (fun _ _ _ _ _ => True) (fun _ U o U' => ∃ v L, o = .returned v ∧ Q2n Z a h0 n0 v U'.heap L ∧ FrameEnd U o U' L ({ frames := 0, cells := 0, slots := 0, locals := 0 } : Room).cells ({ frames := 0, cells := 0, slots := 0, locals := 0 } : Room).slots) := by
  refine MetFree.of_bodySF (plainFor_of_name pn2n) hisR ?_
  intro p e s m args below meth c s₁ Bd hml0 hP hK
  obtain ⟨rfl, hZ, hh⟩ := hP
  have hx := Bd.exec
  have hby := Bd.bytes
  have hml : c.maxLocals = 3 := hml0
  have hown : s.vm.findClass "com/example/mortise/mortise/schema/ContentModel$Drift" = some m.cls := findClass_of_methodNamed Bd.named
  have hnm := (name_of_methodNamed Bd.named Bd.method).1
  have X0 : Stand p l e ({ frames := 0, cells := 0, slots := 0, locals := 0 } : Room) s m #[(.ref a), .null] below meth c s₁ [] 0 0 := Stand.of_body Bd
  have e0 : s₁.heap = h0 := by rw [← hh, Bd.state]; rfl
  have N0 := Fr.nil n0
  show OFin p e below s _ _ (Q2n Z a h0 n0) (s₁.setTop (entryFrame m #[(.ref a), .null] 3))
  rw [ef2n]
  obtain ⟨Q, hQ⟩ : ∃ Q, Q = Q2n Z a h0 n0 := ⟨_, rfl⟩
  rw [← hQ]
  show OFin p e below s _ _ Q (s₁.setTop (mkF m 0 #[.val (.ref a), .val .null, .unset] []))
  refine OFin.back (fun _ hr => XS.aloadN X0.here hx rfl (hb hby d2n_0) rfl rfl hr) ?_
  show OFin p e below s _ _ Q (s₁.setTop (mkF m 1 #[.val (.ref a), .val .null, .unset] [.null]))
  refine OFin.back (X0.instanceofNull hx (g := (mkF m 1 #[.val (.ref a), .val .null, .unset] [.null])) rfl rfl (hb hby d2n_1)) ?_
  show OFin p e below s _ _ Q (s₁.setTop (mkF m 4 #[.val (.ref a), .val .null, .unset] [(.int (0 : Int32))]))
  refine OFin.back (fun _ hr => XS.ifYes X0.here hx rfl (pc0 := 4) (pc' := 39) rfl (hb hby d2n_4) rfl ((if0 _ _).trans (teq (by decide : (0 : Int32) = (0 : Int32))).1) (by decide) (by decide) hr) ?_
  show OFin p e below s _ _ Q (s₁.setTop (mkF m 39 #[.val (.ref a), .val .null, .unset] []))
  refine OFin.back (fun _ hr => XS.iconst X0.here hx rfl (hb hby d2n_39) hr) ?_
  show OFin p e below s _ _ Q (s₁.setTop (mkF m 40 #[.val (.ref a), .val .null, .unset] [(.int (0 : Int32))]))
  exact OFin.outN (t := .boolean) X0 hx Bd.returns (by simp) Bd.notSynchronized (hb hby d2n_40) (by decide) (by decide) e0 (by rw [hQ]; exact ⟨rfl, N0, rfl⟩)
theorem d2l_0 : decode prog_90_method_3_code 0 = .ok (.aload_n 1, 1) := by decide +kernel
theorem d2l_1 : decode prog_90_method_3_code 1 = .ok (.instanceof 8, 3) := by decide +kernel
theorem d2l_4 : decode prog_90_method_3_code 4 = .ok (.ifCond .eq 35, 3) := by decide +kernel
theorem d2l_39 : decode prog_90_method_3_code 39 = .ok (.iconst 0, 1) := by decide +kernel
theorem d2l_40 : decode prog_90_method_3_code 40 = .ok (.ireturn, 1) := by decide +kernel
theorem pn2l : plainName "com/example/mortise/mortise/schema/ContentModel$Drift" = true := by first | (simp [plainName, overriddenIn]; done) | decide +kernel
theorem ef2l (m : MethodId) (a : Addr) (b : Addr) : entryFrame m #[(.ref a), (.ref b)] 3 = mkF m 0 #[.val (.ref a), .val (.ref b), .unset] [] := by first | (simp [entryFrame, mkF, argsToLocals, Value.category]; done) | rfl
def Q2l (Z : State) (a : Addr) (b : Addr) (h0 : Heap) (n0 : Nat) (v : Option Value) (h : Heap) (L : List Loc) : Prop := v = some (.int 0) ∧ Fr n0 L ∧ h = h0
set_option maxRecDepth 65536 in
set_option maxHeartbeats 40000000 in
theorem rm2l (l : Launch) (Z : State) (a0 : Array Value) (hw : ∀ d ∈ tables_1, d.before a0 Z = true) (ws : List Jvm.Cond) (a : Addr) (b : Addr) (h0 : Heap) (n0 : Nat) (Z0 : n0 ≤ h0.size) (EB : Exa Z h0 b "java/lang/Long") :
    MetFree l (⟨"com/example/mortise/mortise/schema/ContentModel$Drift", "equals", "(Ljava/lang/Object;)Z"⟩ : MethodName) (head1 (Jvm.Cond.code (⟨"com/example/mortise/mortise/schema/ContentModel$Drift", "equals", "(Ljava/lang/Object;)Z"⟩ : MethodName) prog_90_method_3_code 3 (some .boolean) :: ws) ({ frames := 0, cells := 0, slots := 0, locals := 0 } : Room)) (fun ar_ U => ar_ = #[(.ref a), (.ref b)] ∧ Z.Warmed39 U.vm ∧ U.heap = h0) (fun _ _ _ _ _ => True) (fun _ U o U' => ∃ v L, o = .returned v ∧ Q2l Z a b h0 n0 v U'.heap L ∧ FrameEnd U o U' L ({ frames := 0, cells := 0, slots := 0, locals := 0 } : Room).cells ({ frames := 0, cells := 0, slots := 0, locals := 0 } : Room).slots) := by
  refine MetFree.of_bodySF (plainFor_of_name pn2l) hisR ?_
  intro p e s m args below meth c s₁ Bd hml0 hP hK
  obtain ⟨rfl, hZ, hh⟩ := hP
  have hx := Bd.exec
  have hby := Bd.bytes
  have hml : c.maxLocals = 3 := hml0
  have hown : s.vm.findClass "com/example/mortise/mortise/schema/ContentModel$Drift" = some m.cls := findClass_of_methodNamed Bd.named
  have hnm := (name_of_methodNamed Bd.named Bd.method).1
  have X0 : Stand p l e ({ frames := 0, cells := 0, slots := 0, locals := 0 } : Room) s m #[(.ref a), (.ref b)] below meth c s₁ [] 0 0 := Stand.of_body Bd
  have e0 : s₁.heap = h0 := by rw [← hh, Bd.state]; rfl
  have N0 := Fr.nil n0
  show OFin p e below s _ _ (Q2l Z a b h0 n0) (s₁.setTop (entryFrame m #[(.ref a), (.ref b)] 3))
  rw [ef2l]
  obtain ⟨Q, hQ⟩ : ∃ Q, Q = Q2l Z a b h0 n0 := ⟨_, rfl⟩
  rw [← hQ]
  show OFin p e below s _ _ Q (s₁.setTop (mkF m 0 #[.val (.ref a), .val (.ref b), .unset] []))
  refine OFin.back (fun _ hr => XS.aloadN X0.here hx rfl (hb hby d2l_0) rfl rfl hr) ?_
  show OFin p e below s _ _ Q (s₁.setTop (mkF m 1 #[.val (.ref a), .val (.ref b), .unset] [(.ref b)]))
  obtain ⟨T1, X1, e1, st1⟩ := instNo X0 hx hZ hown (hw _ (List.mem_of_getElem? (i := 18) rfl)) e0 EB (own_notDrift hw) (g := (mkF m 1 #[.val (.ref a), .val (.ref b), .unset] [(.ref b)])) rfl rfl (hb hby d2l_1)
  refine OFin.back st1 ?_
  show OFin p e below s _ _ Q (T1.setTop (mkF m 4 #[.val (.ref a), .val (.ref b), .unset] [(.int (0 : Int32))]))
  refine OFin.back (fun _ hr => XS.ifYes X1.here hx rfl (pc0 := 4) (pc' := 39) rfl (hb hby d2l_4) rfl ((if0 _ _).trans (teq (by decide : (0 : Int32) = (0 : Int32))).1) (by decide) (by decide) hr) ?_
  show OFin p e below s _ _ Q (T1.setTop (mkF m 39 #[.val (.ref a), .val (.ref b), .unset] []))
  refine OFin.back (fun _ hr => XS.iconst X1.here hx rfl (hb hby d2l_39) hr) ?_
  show OFin p e below s _ _ Q (T1.setTop (mkF m 40 #[.val (.ref a), .val (.ref b), .unset] [(.int (0 : Int32))]))
  exact OFin.outN (t := .boolean) X1 hx Bd.returns (by simp) Bd.notSynchronized (hb hby d2l_40) (by decide) (by decide) e1 (by rw [hQ]; exact ⟨rfl, N0, rfl⟩)
theorem d2d_0 : decode prog_90_method_3_code 0 = .ok (.aload_n 1, 1) := by decide +kernel
theorem d2d_1 : decode prog_90_method_3_code 1 = .ok (.instanceof 8, 3) := by decide +kernel
theorem d2d_4 : decode prog_90_method_3_code 4 = .ok (.ifCond .eq 35, 3) := by decide +kernel
theorem d2d_7 : decode prog_90_method_3_code 7 = .ok (.aload_n 1, 1) := by decide +kernel
theorem d2d_8 : decode prog_90_method_3_code 8 = .ok (.checkcast 8, 3) := by decide +kernel
theorem d2d_11 : decode prog_90_method_3_code 11 = .ok (.astore_n 2, 1) := by decide +kernel
theorem d2d_12 : decode prog_90_method_3_code 12 = .ok (.aload_n 2, 1) := by decide +kernel
theorem d2d_13 : decode prog_90_method_3_code 13 = .ok (.getfield 7, 3) := by decide +kernel
theorem d2d_16 : decode prog_90_method_3_code 16 = .ok (.aload_n 0, 1) := by decide +kernel
theorem d2d_17 : decode prog_90_method_3_code 17 = .ok (.getfield 7, 3) := by decide +kernel
theorem d2d_20 : decode prog_90_method_3_code 20 = .ok (.if_icmp .ne 19, 3) := by decide +kernel
theorem d2d_23 : decode prog_90_method_3_code 23 = .ok (.aload_n 2, 1) := by decide +kernel
theorem d2d_24 : decode prog_90_method_3_code 24 = .ok (.getfield 13, 3) := by decide +kernel
theorem d2d_27 : decode prog_90_method_3_code 27 = .ok (.aload_n 0, 1) := by decide +kernel
theorem d2d_28 : decode prog_90_method_3_code 28 = .ok (.getfield 13, 3) := by decide +kernel
theorem d2d_31 : decode prog_90_method_3_code 31 = .ok (.lcmp, 1) := by decide +kernel
theorem d2d_32 : decode prog_90_method_3_code 32 = .ok (.ifCond .ne 7, 3) := by decide +kernel
theorem d2d_35 : decode prog_90_method_3_code 35 = .ok (.iconst 1, 1) := by decide +kernel
theorem d2d_36 : decode prog_90_method_3_code 36 = .ok (.goto 4, 3) := by decide +kernel
theorem d2d_39 : decode prog_90_method_3_code 39 = .ok (.iconst 0, 1) := by decide +kernel
theorem d2d_40 : decode prog_90_method_3_code 40 = .ok (.ireturn, 1) := by decide +kernel
theorem pn2d : plainName "com/example/mortise/mortise/schema/ContentModel$Drift" = true := by first | (simp [plainName, overriddenIn]; done) | decide +kernel
theorem ef2d (m : MethodId) (a : Addr) (b : Addr) : entryFrame m #[(.ref a), (.ref b)] 3 = mkF m 0 #[.val (.ref a), .val (.ref b), .unset] [] := by first | (simp [entryFrame, mkF, argsToLocals, Value.category]; done) | rfl
def Q2d (Z : State) (a : Addr) (b : Addr) (l1 : Int32) (c1 : Int64) (l2 : Int32) (c2 : Int64) (h0 : Heap) (n0 : Nat) (v : Option Value) (h : Heap) (L : List Loc) : Prop := v = some (.int (own_eq l1 c1 l2 c2)) ∧ Fr n0 L ∧ h = h0
set_option maxRecDepth 65536 in
set_option maxHeartbeats 40000000 in
theorem rm2d (l : Launch) (Z : State) (a0 : Array Value) (hw : ∀ d ∈ tables_1, d.before a0 Z = true) (ws : List Jvm.Cond) (a : Addr) (b : Addr) (l1 : Int32) (c1 : Int64) (l2 : Int32) (c2 : Int64) (h0 : Heap) (n0 : Nat) (Z0 : n0 ≤ h0.size) (F1 : Fld Z h0 a "com/example/mortise/mortise/schema/ContentModel$Drift" "level" "I" (.int l1)) (F2 : Fld Z h0 a "com/example/mortise/mortise/schema/ContentModel$Drift" "by" "J" (.long c1)) (F3 : Fld Z h0 b "com/example/mortise/mortise/schema/ContentModel$Drift" "level" "I" (.int l2)) (F4 : Fld Z h0 b "com/example/mortise/mortise/schema/ContentModel$Drift" "by" "J" (.long c2)) (EB : Exa Z h0 b "com/example/mortise/mortise/schema/ContentModel$Drift") :
    MetFree l (⟨"com/example/mortise/mortise/schema/ContentModel$Drift", "equals", "(Ljava/lang/Object;)Z"⟩ : MethodName) (head1 (Jvm.Cond.code (⟨"com/example/mortise/mortise/schema/ContentModel$Drift", "equals", "(Ljava/lang/Object;)Z"⟩ : MethodName) prog_90_method_3_code 3 (some .boolean) :: ws) ({ frames := 0, cells := 0, slots := 0, locals := 0 } : Room)) (fun ar_ U => ar_ = #[(.ref a), (.ref b)] ∧ Z.Warmed39 U.vm ∧ U.heap = h0) (fun _ _ _ _ _ => True) (fun _ U o U' => ∃ v L, o = .returned v ∧ Q2d Z a b l1 c1 l2 c2 h0 n0 v U'.heap L ∧ FrameEnd U o U' L ({ frames := 0, cells := 0, slots := 0, locals := 0 } : Room).cells ({ frames := 0, cells := 0, slots := 0, locals := 0 } : Room).slots) := by
  refine MetFree.of_bodySF (plainFor_of_name pn2d) hisR ?_
  intro p e s m args below meth c s₁ Bd hml0 hP hK
  obtain ⟨rfl, hZ, hh⟩ := hP
  have hx := Bd.exec
  have hby := Bd.bytes
  have hml : c.maxLocals = 3 := hml0
  have hown : s.vm.findClass "com/example/mortise/mortise/schema/ContentModel$Drift" = some m.cls := findClass_of_methodNamed Bd.named
  have hnm := (name_of_methodNamed Bd.named Bd.method).1
  have X0 : Stand p l e ({ frames := 0, cells := 0, slots := 0, locals := 0 } : Room) s m #[(.ref a), (.ref b)] below meth c s₁ [] 0 0 := Stand.of_body Bd
  have e0 : s₁.heap = h0 := by rw [← hh, Bd.state]; rfl
  have N0 := Fr.nil n0
  show OFin p e below s _ _ (Q2d Z a b l1 c1 l2 c2 h0 n0) (s₁.setTop (entryFrame m #[(.ref a), (.ref b)] 3))
  rw [ef2d]
  obtain ⟨Q, hQ⟩ : ∃ Q, Q = Q2d Z a b l1 c1 l2 c2 h0 n0 := ⟨_, rfl⟩
  rw [← hQ]
  show OFin p e below s _ _ Q (s₁.setTop (mkF m 0 #[.val (.ref a), .val (.ref b), .unset] []))
  refine OFin.back (fun _ hr => XS.aloadN X0.here hx rfl (hb hby d2d_0) rfl rfl hr) ?_
  show OFin p e below s _ _ Q (s₁.setTop (mkF m 1 #[.val (.ref a), .val (.ref b), .unset] [(.ref b)]))
  obtain ⟨T1, X1, e1, st1⟩ := instY X0 hx hZ hown (hw _ (List.mem_of_getElem? (i := 18) rfl)) e0 (Ins.self EB) (g := (mkF m 1 #[.val (.ref a), .val (.ref b), .unset] [(.ref b)])) rfl rfl (hb hby d2d_1)
  refine OFin.back st1 ?_
  show OFin p e below s _ _ Q (T1.setTop (mkF m 4 #[.val (.ref a), .val (.ref b), .unset] [(.int (1 : Int32))]))
  refine OFin.back (fun _ hr => XS.ifNo X1.here hx rfl (hb hby d2d_4) rfl ((if0 _ _).trans (feq (by decide : ¬ ((1 : Int32) = (0 : Int32)))).1) hr) ?_
  show OFin p e below s _ _ Q (T1.setTop (mkF m 7 #[.val (.ref a), .val (.ref b), .unset] []))
  refine OFin.back (fun _ hr => XS.aloadN X1.here hx rfl (hb hby d2d_7) rfl rfl hr) ?_
  show OFin p e below s _ _ Q (T1.setTop (mkF m 8 #[.val (.ref a), .val (.ref b), .unset] [(.ref b)]))
  obtain ⟨T2, X2, e2, st2⟩ := castY X1 hx hZ hown (hw _ (List.mem_of_getElem? (i := 18) rfl)) e1 (Ins.self EB) (g := (mkF m 8 #[.val (.ref a), .val (.ref b), .unset] [(.ref b)])) rfl rfl (hb hby d2d_8)
  refine OFin.back st2 ?_
  show OFin p e below s _ _ Q (T2.setTop (mkF m 11 #[.val (.ref a), .val (.ref b), .unset] [(.ref b)]))
  refine OFin.back (fun _ hr => XS.astoreN X2.here hx rfl (hb hby d2d_11) rfl rfl (l' := #[.val (.ref a), .val (.ref b), .val (.ref b)]) rfl hr) ?_
  show OFin p e below s _ _ Q (T2.setTop (mkF m 12 #[.val (.ref a), .val (.ref b), .val (.ref b)] []))
  refine OFin.back (fun _ hr => XS.aloadN X2.here hx rfl (hb hby d2d_12) rfl rfl hr) ?_
  show OFin p e below s _ _ Q (T2.setTop (mkF m 13 #[.val (.ref a), .val (.ref b), .val (.ref b)] [(.ref b)]))
  obtain ⟨T3, X3, e3, st3⟩ := getF X2 hx hZ hown (host := "") (Or.inl (hw _ (List.mem_of_getElem? (i := 9) rfl))) Via.refl e2 F3 (g := (mkF m 13 #[.val (.ref a), .val (.ref b), .val (.ref b)] [(.ref b)])) rfl rfl (hb hby d2d_13)
  refine OFin.back st3 ?_
  show OFin p e below s _ _ Q (T3.setTop (mkF m 16 #[.val (.ref a), .val (.ref b), .val (.ref b)] [(.int l2)]))
  refine OFin.back (fun _ hr => XS.aloadN X3.here hx rfl (hb hby d2d_16) rfl rfl hr) ?_
  show OFin p e below s _ _ Q (T3.setTop (mkF m 17 #[.val (.ref a), .val (.ref b), .val (.ref b)] [(.ref a), (.int l2)]))
  obtain ⟨T4, X4, e4, st4⟩ := getF X3 hx hZ hown (host := "") (Or.inl (hw _ (List.mem_of_getElem? (i := 9) rfl))) Via.refl e3 F1 (g := (mkF m 17 #[.val (.ref a), .val (.ref b), .val (.ref b)] [(.ref a), (.int l2)])) rfl rfl (hb hby d2d_17)
  refine OFin.back st4 ?_
  show OFin p e below s _ _ Q (T4.setTop (mkF m 20 #[.val (.ref a), .val (.ref b), .val (.ref b)] [(.int l1), (.int l2)]))
  by_cases hc20_5 : l2 = l1
  · -- l2 = l1
    refine OFin.back (fun _ hr => XS.icmpNo X4.here hx rfl (hb hby d2d_20) rfl (teq hc20_5).2 hr) ?_
    show OFin p e below s _ _ Q (T4.setTop (mkF m 23 #[.val (.ref a), .val (.ref b), .val (.ref b)] []))
    refine OFin.back (fun _ hr => XS.aloadN X4.here hx rfl (hb hby d2d_23) rfl rfl hr) ?_
    show OFin p e below s _ _ Q (T4.setTop (mkF m 24 #[.val (.ref a), .val (.ref b), .val (.ref b)] [(.ref b)]))
    obtain ⟨T6, X6, e6, st6⟩ := getF X4 hx hZ hown (host := "") (Or.inl (hw _ (List.mem_of_getElem? (i := 11) rfl))) Via.refl e4 F4 (g := (mkF m 24 #[.val (.ref a), .val (.ref b), .val (.ref b)] [(.ref b)])) rfl rfl (hb hby d2d_24)
    refine OFin.back st6 ?_
    show OFin p e below s _ _ Q (T6.setTop (mkF m 27 #[.val (.ref a), .val (.ref b), .val (.ref b)] [(.long c2)]))
    refine OFin.back (fun _ hr => XS.aloadN X6.here hx rfl (hb hby d2d_27) rfl rfl hr) ?_
    show OFin p e below s _ _ Q (T6.setTop (mkF m 28 #[.val (.ref a), .val (.ref b), .val (.ref b)] [(.ref a), (.long c2)]))
    obtain ⟨T7, X7, e7, st7⟩ := getF X6 hx hZ hown (host := "") (Or.inl (hw _ (List.mem_of_getElem? (i := 11) rfl))) Via.refl e6 F2 (g := (mkF m 28 #[.val (.ref a), .val (.ref b), .val (.ref b)] [(.ref a), (.long c2)])) rfl rfl (hb hby d2d_28)
    refine OFin.back st7 ?_
    show OFin p e below s _ _ Q (T7.setTop (mkF m 31 #[.val (.ref a), .val (.ref b), .val (.ref b)] [(.long c1), (.long c2)]))
    refine OFin.back (fun _ hr => XS.lcmp X7.here hx rfl (hb hby d2d_31) rfl hr) ?_
    show OFin p e below s _ _ Q (T7.setTop (mkF m 32 #[.val (.ref a), .val (.ref b), .val (.ref b)] [(.int (lcmpW c2 c1))]))
    by_cases hc32_8 : (lcmpW c2 c1) = (0 : Int32)
    · -- (lcmpW c2 c1) = (0 : Int32)
      refine OFin.back (fun _ hr => XS.ifNo X7.here hx rfl (hb hby d2d_32) rfl ((if0 _ _).trans (teq hc32_8).2) hr) ?_
      show OFin p e below s _ _ Q (T7.setTop (mkF m 35 #[.val (.ref a), .val (.ref b), .val (.ref b)] []))
      refine OFin.back (fun _ hr => XS.iconst X7.here hx rfl (hb hby d2d_35) hr) ?_
      show OFin p e below s _ _ Q (T7.setTop (mkF m 36 #[.val (.ref a), .val (.ref b), .val (.ref b)] [(.int (1 : Int32))]))
      refine OFin.back (fun _ hr => XS.goto X7.here hx rfl (pc0 := 36) (pc' := 40) rfl (hb hby d2d_36) (by decide) (by decide) hr) ?_
      show OFin p e below s _ _ Q (T7.setTop (mkF m 40 #[.val (.ref a), .val (.ref b), .val (.ref b)] [(.int (1 : Int32))]))
      exact OFin.outN (t := .boolean) X7 hx Bd.returns (by simp) Bd.notSynchronized (hb hby d2d_40) (by decide) (by decide) e7 (by rw [hQ]; exact ⟨by rw [show own_eq l1 c1 l2 c2 = (1 : Int32) from own_eqT hc20_5.symm ((lw_eq _ _).mp hc32_8).symm]; rfl, N0, rfl⟩)
    · -- not (lcmpW c2 c1) = (0 : Int32)
      refine OFin.back (fun _ hr => XS.ifYes X7.here hx rfl (pc0 := 32) (pc' := 39) rfl (hb hby d2d_32) rfl ((if0 _ _).trans (feq hc32_8).2) (by decide) (by decide) hr) ?_
      show OFin p e below s _ _ Q (T7.setTop (mkF m 39 #[.val (.ref a), .val (.ref b), .val (.ref b)] []))
      refine OFin.back (fun _ hr => XS.iconst X7.here hx rfl (hb hby d2d_39) hr) ?_
      show OFin p e below s _ _ Q (T7.setTop (mkF m 40 #[.val (.ref a), .val (.ref b), .val (.ref b)] [(.int (0 : Int32))]))
      exact OFin.outN (t := .boolean) X7 hx Bd.returns (by simp) Bd.notSynchronized (hb hby d2d_40) (by decide) (by decide) e7 (by rw [hQ]; exact ⟨by rw [show own_eq l1 c1 l2 c2 = (0 : Int32) from own_eqF (fun q => hc32_8 ((lw_eq _ _).mpr q.2.symm))]; rfl, N0, rfl⟩)
  · -- not l2 = l1
    refine OFin.back (fun _ hr => XS.icmpYes X4.here hx rfl (pc0 := 20) (pc' := 39) rfl (hb hby d2d_20) rfl (feq hc20_5).2 (by decide) (by decide) hr) ?_
    show OFin p e below s _ _ Q (T4.setTop (mkF m 39 #[.val (.ref a), .val (.ref b), .val (.ref b)] []))
    refine OFin.back (fun _ hr => XS.iconst X4.here hx rfl (hb hby d2d_39) hr) ?_
    show OFin p e below s _ _ Q (T4.setTop (mkF m 40 #[.val (.ref a), .val (.ref b), .val (.ref b)] [(.int (0 : Int32))]))
    exact OFin.outN (t := .boolean) X4 hx Bd.returns (by simp) Bd.notSynchronized (hb hby d2d_40) (by decide) (by decide) e4 (by rw [hQ]; exact ⟨by rw [show own_eq l1 c1 l2 c2 = (0 : Int32) from own_eqF (fun q => hc20_5 q.1.symm)]; rfl, N0, rfl⟩)
theorem d3_0 : decode jdk_18_method_1_code 0 = .ok (.aload_n 0, 1) := by decide +kernel
theorem d3_1 : decode jdk_18_method_1_code 1 = .ok (.invokespecial 1, 3) := by decide +kernel
theorem d3_4 : decode jdk_18_method_1_code 4 = .ok (.return_, 1) := by decide +kernel
theorem pn3 : plainName "java/lang/Number" = true := by first | (simp [plainName, overriddenIn]; done) | decide +kernel
theorem ef3 (m : MethodId) (a : Addr) : entryFrame m #[(.ref a)] 1 = mkF m 0 #[.val (.ref a)] [] := by first | (simp [entryFrame, mkF, argsToLocals, Value.category]; done) | rfl
def Q3 (Z : State) (a : Addr) (h0 : Heap) (n0 : Nat) (v : Option Value) (h : Heap) (L : List Loc) : Prop := v = none ∧ Fr n0 L ∧ h = h0
set_option maxRecDepth 65536 in
set_option maxHeartbeats 40000000 in
theorem rm3 (l : Launch) (Z : State) (a0 : Array Value) (hw : ∀ d ∈ tables_1, d.before a0 Z = true) (ws : List Jvm.Cond) (a : Addr) (h0 : Heap) (n0 : Nat) (Z0 : n0 ≤ h0.size) :
    MetFree l (⟨"java/lang/Number", "<init>", "()V"⟩ : MethodName) (head1 (Jvm.Cond.code (⟨"java/lang/Number", "<init>", "()V"⟩ : MethodName) jdk_18_method_1_code 1 none :: ws) ({ frames := 1, cells := 0, slots := 0, locals := 12 } : Room)) (fun ar_ U => ar_ = #[(.ref a)] ∧ Z.Warmed39 U.vm ∧ U.heap = h0) (fun _ _ _ _ _ => True) (fun _ U o U' => ∃ v L, o = .returned v ∧ Q3 Z a h0 n0 v U'.heap L ∧ FrameEnd U o U' L ({ frames := 1, cells := 0, slots := 0, locals := 12 } : Room).cells ({ frames := 1, cells := 0, slots := 0, locals := 12 } : Room).slots) := by
  refine MetFree.of_bodySF (plainFor_of_name pn3) hisR ?_
  intro p e s m args below meth c s₁ Bd hml0 hP hK
  obtain ⟨rfl, hZ, hh⟩ := hP
  have hx := Bd.exec
  have hby := Bd.bytes
  have hml : c.maxLocals = 1 := hml0
  have hown : s.vm.findClass "java/lang/Number" = some m.cls := findClass_of_methodNamed Bd.named
  have hnm := (name_of_methodNamed Bd.named Bd.method).1
  have X0 : Stand p l e ({ frames := 1, cells := 0, slots := 0, locals := 12 } : Room) s m #[(.ref a)] below meth c s₁ [] 0 0 := Stand.of_body Bd
  have e0 : s₁.heap = h0 := by rw [← hh, Bd.state]; rfl
  have N0 := Fr.nil n0
  show OFin p e below s _ _ (Q3 Z a h0 n0) (s₁.setTop (entryFrame m #[(.ref a)] 1))
  rw [ef3]
  obtain ⟨Q, hQ⟩ : ∃ Q, Q = Q3 Z a h0 n0 := ⟨_, rfl⟩
  rw [← hQ]
  show OFin p e below s _ _ Q (s₁.setTop (mkF m 0 #[.val (.ref a)] []))
  refine OFin.back (fun _ hr => XS.aloadN X0.here hx rfl (hb hby d3_0) rfl rfl hr) ?_
  show OFin p e below s _ _ Q (s₁.setTop (mkF m 1 #[.val (.ref a)] [(.ref a)]))
  obtain ⟨T1, X1, e1, st1⟩ := initO X0 hx hZ hown (hw _ (List.mem_of_getElem? (i := 38) rfl)) (hw _ (List.mem_of_getElem? (i := 7) rfl)) (hw _ (List.mem_of_getElem? (i := 8) rfl)) e0 (g := (mkF m 1 #[.val (.ref a)] [(.ref a)])) rfl (by rw [hml]; rfl) rfl (hb hby d3_1) (by decide) (W := 0) (by show 2 * 0 + _ ≤ _; exact Nat.le_of_eq rfl) (by decide)
  refine OFin.back st1 ?_
  show OFin p e below s _ _ Q (T1.setTop (mkF m 4 #[.val (.ref a)] []))
  exact OFin.outV X1 hx Bd.returns Bd.notSynchronized (hb hby d3_4) (by decide) (by decide) e1 (by rw [hQ]; exact ⟨rfl, N0, rfl⟩)
theorem d4_0 : decode jdk_35_method_26_code 0 = .ok (.aload_n 0, 1) := by decide +kernel
theorem d4_1 : decode jdk_35_method_26_code 1 = .ok (.invokespecial 270, 3) := by decide +kernel
theorem d4_4 : decode jdk_35_method_26_code 4 = .ok (.aload_n 0, 1) := by decide +kernel
theorem d4_5 : decode jdk_35_method_26_code 5 = .ok (.lload_n 1, 1) := by decide +kernel
theorem d4_6 : decode jdk_35_method_26_code 6 = .ok (.putfield 273, 3) := by decide +kernel
theorem d4_9 : decode jdk_35_method_26_code 9 = .ok (.return_, 1) := by decide +kernel
theorem pn4 : plainName "java/lang/Long" = true := by first | (simp [plainName, overriddenIn]; done) | decide +kernel
theorem pd4_0 : parseMethodDescriptor "()V" = some ⟨[], none⟩ := by decide +kernel
theorem ef4 (m : MethodId) (a : Addr) (q0 : Int64) : entryFrame m #[(.ref a), (.long q0)] 3 = mkF m 0 #[.val (.ref a), .val (.long q0), .second] [] := by first | (simp [entryFrame, mkF, argsToLocals, Value.category]; done) | rfl
def Q4 (Z : State) (a : Addr) (q0 : Int64) (h0 : Heap) (n0 : Nat) (v : Option Value) (h : Heap) (L : List Loc) : Prop := v = none ∧ Fr n0 L ∧ Keep h0 h [a] ∧ Exa Z h a "java/lang/Long"
set_option maxRecDepth 65536 in
set_option maxHeartbeats 40000000 in
theorem rm4 (l : Launch) (Z : State) (a0 : Array Value) (hw : ∀ d ∈ tables_1, d.before a0 Z = true) (ws : List Jvm.Cond) (a : Addr) (q0 : Int64) (h0 : Heap) (n0 : Nat) (Z0 : n0 ≤ h0.size) (F1 : Fld Z h0 a "java/lang/Long" "value" "J" (.long (0 : Int64))) (EX : Exa Z h0 a "java/lang/Long") (ga : n0 ≤ a) :
    MetFree l (⟨"java/lang/Long", "<init>", "(J)V"⟩ : MethodName) (head1 (Jvm.Cond.code (⟨"java/lang/Long", "<init>", "(J)V"⟩ : MethodName) jdk_35_method_26_code 3 none :: ws) ({ frames := 2, cells := 0, slots := 0, locals := 24 } : Room)) (fun ar_ U => ar_ = #[(.ref a), (.long q0)] ∧ Z.Warmed39 U.vm ∧ U.heap = h0) (fun _ _ _ _ _ => True) (fun _ U o U' => ∃ v L, o = .returned v ∧ Q4 Z a q0 h0 n0 v U'.heap L ∧ FrameEnd U o U' L ({ frames := 2, cells := 0, slots := 0, locals := 24 } : Room).cells ({ frames := 2, cells := 0, slots := 0, locals := 24 } : Room).slots) := by
  refine MetFree.of_bodySF (plainFor_of_name pn4) hisR ?_
  intro p e s m args below meth c s₁ Bd hml0 hP hK
  obtain ⟨rfl, hZ, hh⟩ := hP
  have hx := Bd.exec
  have hby := Bd.bytes
  have hml : c.maxLocals = 3 := hml0
  have hown : s.vm.findClass "java/lang/Long" = some m.cls := findClass_of_methodNamed Bd.named
  have hnm := (name_of_methodNamed Bd.named Bd.method).1
  have X0 : Stand p l e ({ frames := 2, cells := 0, slots := 0, locals := 24 } : Room) s m #[(.ref a), (.long q0)] below meth c s₁ [] 0 0 := Stand.of_body Bd
  have e0 : s₁.heap = h0 := by rw [← hh, Bd.state]; rfl
  have N0 := Fr.nil n0
  show OFin p e below s _ _ (Q4 Z a q0 h0 n0) (s₁.setTop (entryFrame m #[(.ref a), (.long q0)] 3))
  rw [ef4]
  obtain ⟨Q, hQ⟩ : ∃ Q, Q = Q4 Z a q0 h0 n0 := ⟨_, rfl⟩
  rw [← hQ]
  show OFin p e below s _ _ Q (s₁.setTop (mkF m 0 #[.val (.ref a), .val (.long q0), .second] []))
  refine OFin.back (fun _ hr => XS.aloadN X0.here hx rfl (hb hby d4_0) rfl rfl hr) ?_
  show OFin p e below s _ _ Q (s₁.setTop (mkF m 1 #[.val (.ref a), .val (.long q0), .second] [(.ref a)]))
  obtain ⟨_, _, ⟨T1, L1, k1, n1⟩, -, X1, ⟨Lc1, hQ1, l1, y1, z1⟩, st1⟩ := X0.specialBack hx (y := (⟨"java/lang/Number", "<init>", "()V"⟩ : MethodName)) rfl hown (mvT hZ (hw _ (List.mem_of_getElem? (i := 32) rfl))) (mvT hZ (hw _ (List.mem_of_getElem? (i := 33) rfl))) (mvT hZ (hw _ (List.mem_of_getElem? (i := 37) rfl))) (by decide) (backOf (W := 0) (rm3 l Z a0 hw [] a (h0) n0 Z0) hZ (hw _ (List.mem_of_getElem? (i := 37) rfl)) (hw _ (List.mem_of_getElem? (i := 36) rfl)) (by decide) (by decide)) (g := (mkF m 1 #[.val (.ref a), .val (.long q0), .second] [(.ref a)])) rfl (by rw [hml]; rfl) (Steps.refl _) (a := a) (argsL := []) (rest := []) (lenOf pd4_0 rfl) rfl (by show 2 * 0 + _ ≤ _; exact Nat.le_of_eq rfl) (hb hby d4_1) (fun _ _ => ⟨rfl, e0, (by decide : 0 + 0 ≤ _), (by decide : 0 + 0 ≤ _)⟩)
  dsimp only [Pt.U, Pt.locs, Pt.cells, Pt.slots] at X1 l1 y1 z1 st1 hQ1
  subst l1 y1 z1
  obtain ⟨rfl, N1q, e1⟩ := hQ1
  have N1 := Fr.app N0 N1q
  refine OFin.via st1 ?_
  show OFin p e below s _ _ Q (T1.setTop (mkF m 4 #[.val (.ref a), .val (.long q0), .second] []))
  refine OFin.back (fun _ hr => XS.aloadN X1.here hx rfl (hb hby d4_4) rfl rfl hr) ?_
  show OFin p e below s _ _ Q (T1.setTop (mkF m 5 #[.val (.ref a), .val (.long q0), .second] [(.ref a)]))
  refine OFin.back (fun _ hr => XS.lloadN X1.here hx rfl (hb hby d4_5) rfl hr) ?_
  show OFin p e below s _ _ Q (T1.setTop (mkF m 6 #[.val (.ref a), .val (.long q0), .second] [(.long q0), (.ref a)]))
  obtain ⟨T2, h2, X2, e2, W2, st2⟩ := putF X1 hx hZ hown (host := "") (Or.inl (hw _ (List.mem_of_getElem? (i := 39) rfl))) Via.refl e1 F1 EX (Or.inr ⟨(hw _ (List.mem_of_getElem? (i := 40) rfl)), rfl, hnm⟩) (hw _ (List.mem_of_getElem? (i := 27) rfl)) (ty := .long) (by decide) rfl rfl (g := (mkF m 6 #[.val (.ref a), .val (.long q0), .second] [(.long q0), (.ref a)])) rfl rfl (hb hby d4_6)
  have f3 := F1.same W2
  have f4 := EX.wr W2
  have f5 := Nat.le_trans Z0 (Keep.of_wr W2).1
  have f6 := (Keep.refl h0 [a]).wr W2 (Or.inl (List.mem_of_getElem? (i := 0) rfl))
  have N2 := Fr.snoc X2 N1 ga
  refine OFin.back st2 ?_
  show OFin p e below s _ _ Q (T2.setTop (mkF m 9 #[.val (.ref a), .val (.long q0), .second] []))
  exact OFin.outV X2 hx Bd.returns Bd.notSynchronized (hb hby d4_9) (by decide) (by decide) e2 (by rw [hQ]; exact ⟨rfl, N2, f6, f4⟩)
theorem d5_0 : decode jdk_35_method_24_code 0 = .ok (.sipush 128, 3) := by decide +kernel
theorem d5_3 : decode jdk_35_method_24_code 3 = .ok (.istore_n 2, 1) := by decide +kernel
theorem d5_4 : decode jdk_35_method_24_code 4 = .ok (.lload_n 0, 1) := by decide +kernel
theorem d5_5 : decode jdk_35_method_24_code 5 = .ok (.ldc2_w 230, 3) := by decide +kernel
theorem d5_8 : decode jdk_35_method_24_code 8 = .ok (.lcmp, 1) := by decide +kernel
theorem d5_9 : decode jdk_35_method_24_code 9 = .ok (.ifCond .lt 22, 3) := by decide +kernel
theorem d5_12 : decode jdk_35_method_24_code 12 = .ok (.lload_n 0, 1) := by decide +kernel
theorem d5_13 : decode jdk_35_method_24_code 13 = .ok (.ldc2_w 232, 3) := by decide +kernel
theorem d5_16 : decode jdk_35_method_24_code 16 = .ok (.lcmp, 1) := by decide +kernel
theorem d5_17 : decode jdk_35_method_24_code 17 = .ok (.ifCond .gt 14, 3) := by decide +kernel
theorem d5_20 : decode jdk_35_method_24_code 20 = .ok (.getstatic 234, 3) := by decide +kernel
theorem d5_23 : decode jdk_35_method_24_code 23 = .ok (.lload_n 0, 1) := by decide +kernel
theorem d5_24 : decode jdk_35_method_24_code 24 = .ok (.l2i, 1) := by decide +kernel
theorem d5_25 : decode jdk_35_method_24_code 25 = .ok (.sipush 128, 3) := by decide +kernel
theorem d5_28 : decode jdk_35_method_24_code 28 = .ok (.iadd, 1) := by decide +kernel
theorem d5_29 : decode jdk_35_method_24_code 29 = .ok (.aaload, 1) := by decide +kernel
theorem d5_30 : decode jdk_35_method_24_code 30 = .ok (.areturn, 1) := by decide +kernel
theorem d5_31 : decode jdk_35_method_24_code 31 = .ok (.new 1, 3) := by decide +kernel
theorem d5_34 : decode jdk_35_method_24_code 34 = .ok (.dup, 1) := by decide +kernel
theorem d5_35 : decode jdk_35_method_24_code 35 = .ok (.lload_n 0, 1) := by decide +kernel
theorem d5_36 : decode jdk_35_method_24_code 36 = .ok (.invokespecial 240, 3) := by decide +kernel
theorem d5_39 : decode jdk_35_method_24_code 39 = .ok (.areturn, 1) := by decide +kernel
theorem pn5 : plainName "java/lang/Long" = true := by first | (simp [plainName, overriddenIn]; done) | decide +kernel
theorem pd5_0 : parseMethodDescriptor "(J)V" = some ⟨[.long], none⟩ := by decide +kernel
theorem ef5 (m : MethodId) (q0 : Int64) : entryFrame m #[(.long q0)] 3 = mkF m 0 #[.val (.long q0), .second, .unset] [] := by first | (simp [entryFrame, mkF, argsToLocals, Value.category]; done) | rfl
def Q5 (Z : State) (q0 : Int64) (ac : Addr) (cl : Cell) (h0 : Heap) (n0 : Nat) (v : Option Value) (h : Heap) (L : List Loc) : Prop := ∃ x : Addr, v = some (.ref x) ∧ Fr n0 L ∧ Keep h0 h [] ∧ Exa Z h x "java/lang/Long"
set_option maxRecDepth 65536 in
set_option maxHeartbeats 40000000 in
theorem rm5 (l : Launch) (Z : State) (a0 : Array Value) (hw : ∀ d ∈ tables_1, d.before a0 Z = true) (ws : List Jvm.Cond) (q0 : Int64) (ac : Addr) (cl : Cell) (h0 : Heap) (n0 : Nat) (Z0 : n0 ≤ h0.size) (S1 : Sta Z h0 "java/lang/Long$LongCache" "cache" "[Ljava/lang/Long;" (.ref ac)) (Ar : Arr Z h0 ac cl (.object "java/lang/Long")) (HC : ¬ (lcmpW q0 (-128 : Int64)) < (0 : Int32) → ¬ (0 : Int32) < (lcmpW q0 (127 : Int64)) → ∃ x : Addr, ¬ ((q0.toInt32 + (128 : Int32)) < 0 ∨ cl.slots.size ≤ ((q0.toInt32 + (128 : Int32))).toNatClampNeg) ∧ cl.slots[((q0.toInt32 + (128 : Int32))).toNatClampNeg]? = some (.ref x) ∧ Exa Z h0 x "java/lang/Long") :
    MetFree l (⟨"java/lang/Long", "valueOf", "(J)Ljava/lang/Long;"⟩ : MethodName) (head1 (Jvm.Cond.code (⟨"java/lang/Long", "valueOf", "(J)Ljava/lang/Long;"⟩ : MethodName) jdk_35_method_24_code 3 (some (.object "java/lang/Long")) :: ws) ({ frames := 3, cells := 1, slots := 1, locals := 39 } : Room)) (fun ar_ U => ar_ = #[(.long q0)] ∧ Z.Warmed39 U.vm ∧ U.heap = h0) (fun _ _ _ _ _ => True) (fun _ U o U' => ∃ v L, o = .returned v ∧ Q5 Z q0 ac cl h0 n0 v U'.heap L ∧ FrameEnd U o U' L ({ frames := 3, cells := 1, slots := 1, locals := 39 } : Room).cells ({ frames := 3, cells := 1, slots := 1, locals := 39 } : Room).slots) := by
  refine MetFree.of_bodySF (plainFor_of_name pn5) hisR ?_
  intro p e s m args below meth c s₁ Bd hml0 hP hK
  obtain ⟨rfl, hZ, hh⟩ := hP
  have hx := Bd.exec
  have hby := Bd.bytes
  have hml : c.maxLocals = 3 := hml0
  have hown : s.vm.findClass "java/lang/Long" = some m.cls := findClass_of_methodNamed Bd.named
  have hnm := (name_of_methodNamed Bd.named Bd.method).1
  have X0 : Stand p l e ({ frames := 3, cells := 1, slots := 1, locals := 39 } : Room) s m #[(.long q0)] below meth c s₁ [] 0 0 := Stand.of_body Bd
  have e0 : s₁.heap = h0 := by rw [← hh, Bd.state]; rfl
  have N0 := Fr.nil n0
  show OFin p e below s _ _ (Q5 Z q0 ac cl h0 n0) (s₁.setTop (entryFrame m #[(.long q0)] 3))
  rw [ef5]
  obtain ⟨Q, hQ⟩ : ∃ Q, Q = Q5 Z q0 ac cl h0 n0 := ⟨_, rfl⟩
  rw [← hQ]
  show OFin p e below s _ _ Q (s₁.setTop (mkF m 0 #[.val (.long q0), .second, .unset] []))
  refine OFin.back (fun _ hr => XS.sipush X0.here hx rfl (hb hby d5_0) hr) ?_
  show OFin p e below s _ _ Q (s₁.setTop (mkF m 3 #[.val (.long q0), .second, .unset] [(.int (128 : Int32))]))
  refine OFin.back (fun _ hr => XS.istoreN X0.here hx rfl (hb hby d5_3) rfl (l' := #[.val (.long q0), .second, .val (.int (128 : Int32))]) rfl hr) ?_
  show OFin p e below s _ _ Q (s₁.setTop (mkF m 4 #[.val (.long q0), .second, .val (.int (128 : Int32))] []))
  refine OFin.back (fun _ hr => XS.lloadN X0.here hx rfl (hb hby d5_4) rfl hr) ?_
  show OFin p e below s _ _ Q (s₁.setTop (mkF m 5 #[.val (.long q0), .second, .val (.int (128 : Int32))] [(.long q0)]))
  refine OFin.back (X0.ldc2Long hx hown (mvT hZ (hw _ (List.mem_of_getElem? (i := 24) rfl))) (g := (mkF m 5 #[.val (.long q0), .second, .val (.int (128 : Int32))] [(.long q0)])) rfl (hb hby d5_5)) ?_
  show OFin p e below s _ _ Q (s₁.setTop (mkF m 8 #[.val (.long q0), .second, .val (.int (128 : Int32))] [(.long (-128 : Int64)), (.long q0)]))
  refine OFin.back (fun _ hr => XS.lcmp X0.here hx rfl (hb hby d5_8) rfl hr) ?_
  show OFin p e below s _ _ Q (s₁.setTop (mkF m 9 #[.val (.long q0), .second, .val (.int (128 : Int32))] [(.int (lcmpW q0 (-128 : Int64)))]))
  by_cases hc9_1 : (lcmpW q0 (-128 : Int64)) < (0 : Int32)
  · -- (lcmpW q0 (-128 : Int64)) < (0 : Int32)
    refine OFin.back (fun _ hr => XS.ifYes X0.here hx rfl (pc0 := 9) (pc' := 31) rfl (hb hby d5_9) rfl ((if0 _ _).trans (tlt hc9_1).1) (by decide) (by decide) hr) ?_
    show OFin p e below s _ _ Q (s₁.setTop (mkF m 31 #[.val (.long q0), .second, .val (.int (128 : Int32))] []))
    obtain ⟨T2, h2, X2, e2, E2, A2, D2, -, st2⟩ := newO X0 hx hZ hown (hw _ (List.mem_of_getElem? (i := 26) rfl)) (hw _ (List.mem_of_getElem? (i := 27) rfl)) (hw _ (List.mem_of_getElem? (i := 22) rfl)) e0 (g := (mkF m 31 #[.val (.long q0), .second, .val (.int (128 : Int32))] [])) rfl (hb hby d5_31) (by decide) (by decide)
    obtain ⟨b2, g2⟩ : ∃ z, z = h0.size := ⟨_, rfl⟩
    rw [← g2] at A2 D2 st2
    have f3 := Nat.le_trans Z0 (Nat.le_of_eq g2.symm)
    have f4 := Nat.le_trans (Keep.refl h0 []).1 (Nat.le_of_eq g2.symm)
    have f5 := Nat.le_trans Z0 E2.1
    have f6 := (Keep.refl h0 []).ext E2
    have f7 : Fld Z h2 b2 "java/lang/Long" "value" "J" (.long (0 : Int64)) := D2 (Or.inr (hw _ (List.mem_of_getElem? (i := 40) rfl))) (ty := .long) (by decide)
    refine OFin.back st2 ?_
    show OFin p e below s _ _ Q (T2.setTop (mkF m 34 #[.val (.long q0), .second, .val (.int (128 : Int32))] [(.ref b2)]))
    refine OFin.back (fun _ hr => XS.dup X2.here hx rfl (hb hby d5_34) rfl rfl hr) ?_
    show OFin p e below s _ _ Q (T2.setTop (mkF m 35 #[.val (.long q0), .second, .val (.int (128 : Int32))] [(.ref b2), (.ref b2)]))
    refine OFin.back (fun _ hr => XS.lloadN X2.here hx rfl (hb hby d5_35) rfl hr) ?_
    show OFin p e below s _ _ Q (T2.setTop (mkF m 36 #[.val (.long q0), .second, .val (.int (128 : Int32))] [(.long q0), (.ref b2), (.ref b2)]))
    obtain ⟨_, _, ⟨T8, L8, k8, n8⟩, -, X8, ⟨Lc8, hQ8, l8, y8, z8⟩, st8⟩ := X2.specialBack hx (y := (⟨"java/lang/Long", "<init>", "(J)V"⟩ : MethodName)) rfl hown (mvT hZ (hw _ (List.mem_of_getElem? (i := 28) rfl))) (mvT hZ (hw _ (List.mem_of_getElem? (i := 29) rfl))) (mvT hZ (hw _ (List.mem_of_getElem? (i := 31) rfl))) (by decide) (backOf (W := 1) (rm4 l Z a0 hw [] b2 q0 (h2) n0 f5 f7 A2 f3) hZ (hw _ (List.mem_of_getElem? (i := 31) rfl)) (hw _ (List.mem_of_getElem? (i := 22) rfl)) (by decide) (by decide)) (g := (mkF m 36 #[.val (.long q0), .second, .val (.int (128 : Int32))] [(.long q0), (.ref b2), (.ref b2)])) rfl (by rw [hml]; rfl) (Steps.refl _) (a := b2) (argsL := [(.long q0)]) (rest := [(.ref b2)]) (lenOf pd5_0 rfl) rfl (by show 2 * 0 + _ ≤ _; exact Nat.le_of_eq rfl) (hb hby d5_36) (fun _ _ => ⟨rfl, e2, (by decide : 1 + 0 ≤ _), (by decide : 1 + 0 ≤ _)⟩)
    dsimp only [Pt.U, Pt.locs, Pt.cells, Pt.slots] at X8 l8 y8 z8 st8 hQ8
    subst l8 y8 z8
    obtain ⟨rfl, N8q, K8, EX8⟩ := hQ8
    have N8 := Fr.app N0 N8q
    refine OFin.via st8 ?_
    have f9 := A2.keep K8
    have f10 := Nat.le_trans f5 K8.1
    have f11 := f6.trans K8 (allS (Or.inr f4) all0)
    show OFin p e below s _ _ Q (T8.setTop (mkF m 39 #[.val (.long q0), .second, .val (.int (128 : Int32))] [(.ref b2)]))
    exact OFin.outA X8 hx Bd.returns rfl rfl rfl Bd.notSynchronized (hb hby d5_39) (by decide) (by decide) rfl (by rw [hQ]; exact ⟨b2, rfl, N8, f11, EX8⟩)
  · -- not (lcmpW q0 (-128 : Int64)) < (0 : Int32)
    refine OFin.back (fun _ hr => XS.ifNo X0.here hx rfl (hb hby d5_9) rfl ((if0 _ _).trans (flt hc9_1).1) hr) ?_
    show OFin p e below s _ _ Q (s₁.setTop (mkF m 12 #[.val (.long q0), .second, .val (.int (128 : Int32))] []))
    refine OFin.back (fun _ hr => XS.lloadN X0.here hx rfl (hb hby d5_12) rfl hr) ?_
    show OFin p e below s _ _ Q (s₁.setTop (mkF m 13 #[.val (.long q0), .second, .val (.int (128 : Int32))] [(.long q0)]))
    refine OFin.back (X0.ldc2Long hx hown (mvT hZ (hw _ (List.mem_of_getElem? (i := 25) rfl))) (g := (mkF m 13 #[.val (.long q0), .second, .val (.int (128 : Int32))] [(.long q0)])) rfl (hb hby d5_13)) ?_
    show OFin p e below s _ _ Q (s₁.setTop (mkF m 16 #[.val (.long q0), .second, .val (.int (128 : Int32))] [(.long (127 : Int64)), (.long q0)]))
    refine OFin.back (fun _ hr => XS.lcmp X0.here hx rfl (hb hby d5_16) rfl hr) ?_
    show OFin p e below s _ _ Q (s₁.setTop (mkF m 17 #[.val (.long q0), .second, .val (.int (128 : Int32))] [(.int (lcmpW q0 (127 : Int64)))]))
    by_cases hc17_12 : (0 : Int32) < (lcmpW q0 (127 : Int64))
    · -- (0 : Int32) < (lcmpW q0 (127 : Int64))
      refine OFin.back (fun _ hr => XS.ifYes X0.here hx rfl (pc0 := 17) (pc' := 31) rfl (hb hby d5_17) rfl ((if0 _ _).trans (tlt hc17_12).2.2.1) (by decide) (by decide) hr) ?_
      show OFin p e below s _ _ Q (s₁.setTop (mkF m 31 #[.val (.long q0), .second, .val (.int (128 : Int32))] []))
      obtain ⟨T13, h13, X13, e13, E13, A13, D13, -, st13⟩ := newO X0 hx hZ hown (hw _ (List.mem_of_getElem? (i := 26) rfl)) (hw _ (List.mem_of_getElem? (i := 27) rfl)) (hw _ (List.mem_of_getElem? (i := 22) rfl)) e0 (g := (mkF m 31 #[.val (.long q0), .second, .val (.int (128 : Int32))] [])) rfl (hb hby d5_31) (by decide) (by decide)
      obtain ⟨b13, g13⟩ : ∃ z, z = h0.size := ⟨_, rfl⟩
      rw [← g13] at A13 D13 st13
      have f14 := Nat.le_trans Z0 (Nat.le_of_eq g13.symm)
      have f15 := Nat.le_trans (Keep.refl h0 []).1 (Nat.le_of_eq g13.symm)
      have f16 := Nat.le_trans Z0 E13.1
      have f17 := (Keep.refl h0 []).ext E13
      have f18 : Fld Z h13 b13 "java/lang/Long" "value" "J" (.long (0 : Int64)) := D13 (Or.inr (hw _ (List.mem_of_getElem? (i := 40) rfl))) (ty := .long) (by decide)
      refine OFin.back st13 ?_
      show OFin p e below s _ _ Q (T13.setTop (mkF m 34 #[.val (.long q0), .second, .val (.int (128 : Int32))] [(.ref b13)]))
      refine OFin.back (fun _ hr => XS.dup X13.here hx rfl (hb hby d5_34) rfl rfl hr) ?_
      show OFin p e below s _ _ Q (T13.setTop (mkF m 35 #[.val (.long q0), .second, .val (.int (128 : Int32))] [(.ref b13), (.ref b13)]))
      refine OFin.back (fun _ hr => XS.lloadN X13.here hx rfl (hb hby d5_35) rfl hr) ?_
      show OFin p e below s _ _ Q (T13.setTop (mkF m 36 #[.val (.long q0), .second, .val (.int (128 : Int32))] [(.long q0), (.ref b13), (.ref b13)]))
      obtain ⟨_, _, ⟨T19, L19, k19, n19⟩, -, X19, ⟨Lc19, hQ19, l19, y19, z19⟩, st19⟩ := X13.specialBack hx (y := (⟨"java/lang/Long", "<init>", "(J)V"⟩ : MethodName)) rfl hown (mvT hZ (hw _ (List.mem_of_getElem? (i := 28) rfl))) (mvT hZ (hw _ (List.mem_of_getElem? (i := 29) rfl))) (mvT hZ (hw _ (List.mem_of_getElem? (i := 31) rfl))) (by decide) (backOf (W := 1) (rm4 l Z a0 hw [] b13 q0 (h13) n0 f16 f18 A13 f14) hZ (hw _ (List.mem_of_getElem? (i := 31) rfl)) (hw _ (List.mem_of_getElem? (i := 22) rfl)) (by decide) (by decide)) (g := (mkF m 36 #[.val (.long q0), .second, .val (.int (128 : Int32))] [(.long q0), (.ref b13), (.ref b13)])) rfl (by rw [hml]; rfl) (Steps.refl _) (a := b13) (argsL := [(.long q0)]) (rest := [(.ref b13)]) (lenOf pd5_0 rfl) rfl (by show 2 * 0 + _ ≤ _; exact Nat.le_of_eq rfl) (hb hby d5_36) (fun _ _ => ⟨rfl, e13, (by decide : 1 + 0 ≤ _), (by decide : 1 + 0 ≤ _)⟩)
      dsimp only [Pt.U, Pt.locs, Pt.cells, Pt.slots] at X19 l19 y19 z19 st19 hQ19
      subst l19 y19 z19
      obtain ⟨rfl, N19q, K19, EX19⟩ := hQ19
      have N19 := Fr.app N0 N19q
      refine OFin.via st19 ?_
      have f20 := A13.keep K19
      have f21 := Nat.le_trans f16 K19.1
      have f22 := f17.trans K19 (allS (Or.inr f15) all0)
      show OFin p e below s _ _ Q (T19.setTop (mkF m 39 #[.val (.long q0), .second, .val (.int (128 : Int32))] [(.ref b13)]))
      exact OFin.outA X19 hx Bd.returns rfl rfl rfl Bd.notSynchronized (hb hby d5_39) (by decide) (by decide) rfl (by rw [hQ]; exact ⟨b13, rfl, N19, f22, EX19⟩)
    · -- not (0 : Int32) < (lcmpW q0 (127 : Int64))
      refine OFin.back (fun _ hr => XS.ifNo X0.here hx rfl (hb hby d5_17) rfl ((if0 _ _).trans (flt hc17_12).2.2.1) hr) ?_
      show OFin p e below s _ _ Q (s₁.setTop (mkF m 20 #[.val (.long q0), .second, .val (.int (128 : Int32))] []))
      obtain ⟨T23, X23, e23, st23⟩ := getS2 X0 hx hZ hown (host := "") (Or.inl (hw _ (List.mem_of_getElem? (i := 44) rfl))) Via.refl e0 S1 (g := (mkF m 20 #[.val (.long q0), .second, .val (.int (128 : Int32))] [])) rfl (hb hby d5_20)
      refine OFin.back st23 ?_
      show OFin p e below s _ _ Q (T23.setTop (mkF m 23 #[.val (.long q0), .second, .val (.int (128 : Int32))] [(.ref ac)]))
      refine OFin.back (fun _ hr => XS.lloadN X23.here hx rfl (hb hby d5_23) rfl hr) ?_
      show OFin p e below s _ _ Q (T23.setTop (mkF m 24 #[.val (.long q0), .second, .val (.int (128 : Int32))] [(.long q0), (.ref ac)]))
      refine OFin.back (fun _ hr => XS.l2i X23.here hx rfl (hb hby d5_24) rfl hr) ?_
      show OFin p e below s _ _ Q (T23.setTop (mkF m 25 #[.val (.long q0), .second, .val (.int (128 : Int32))] [(.int (q0.toInt32)), (.ref ac)]))
      refine OFin.back (fun _ hr => XS.sipush X23.here hx rfl (hb hby d5_25) hr) ?_
      show OFin p e below s _ _ Q (T23.setTop (mkF m 28 #[.val (.long q0), .second, .val (.int (128 : Int32))] [(.int (128 : Int32)), (.int (q0.toInt32)), (.ref ac)]))
      refine OFin.back (fun _ hr => XS.iadd X23.here hx rfl (hb hby d5_28) rfl hr) ?_
      show OFin p e below s _ _ Q (T23.setTop (mkF m 29 #[.val (.long q0), .second, .val (.int (128 : Int32))] [(.int ((q0.toInt32) + (128 : Int32))), (.ref ac)]))
      obtain ⟨x29, hin29, hat29, ex29⟩ := HC hc9_1 hc17_12
      refine OFin.back (X23.aaload hx (j := ((q0.toInt32) + (128 : Int32))) (v := .ref x29) (by rw [e23]; exact Ar.1) (State.isArrayOf_alike hZ.alike Ar.2.1) rfl Ar.2.2 hin29 hat29 (g := (mkF m 29 #[.val (.long q0), .second, .val (.int (128 : Int32))] [(.int ((q0.toInt32) + (128 : Int32))), (.ref ac)])) rfl rfl (hb hby d5_29)) ?_
      show OFin p e below s _ _ Q (T23.setTop (mkF m 30 #[.val (.long q0), .second, .val (.int (128 : Int32))] [(.ref x29)]))
      exact OFin.outA X23 hx Bd.returns rfl rfl rfl Bd.notSynchronized (hb hby d5_30) (by decide) (by decide) e23 (by rw [hQ]; exact ⟨x29, rfl, N0, (Keep.refl h0 []), ex29⟩)
theorem pn0 : plainName "com/example/mortise/mortise/schema/DriftEqualsPinLaw" = true := by first | (simp [plainName, overriddenIn]; done) | decide +kernel
theorem pd0_0 : parseMethodDescriptor "(IJ)V" = some ⟨[.int, .long], none⟩ := by decide +kernel
theorem pd0_1 : parseMethodDescriptor "(Ljava/lang/Object;)Z" = some ⟨[(.object "java/lang/Object")], some .boolean⟩ := by decide +kernel
theorem pd0_2 : parseMethodDescriptor "(J)Ljava/lang/Long;" = some ⟨[.long], some (.object "java/lang/Long")⟩ := by decide +kernel
theorem ef0 (m : MethodId) (lv1 : Int32) (bv1 : Int64) (lv2 : Int32) (bv2 : Int64) (md : Int32) : entryFrame m #[(.int lv1), (.long bv1), (.int lv2), (.long bv2), (.int md)] maxLocals = mkF m 0 #[.val (.int lv1), .val (.long bv1), .second, .val (.int lv2), .val (.long bv2), .second, .val (.int md), .unset, .unset, .unset, .unset, .unset, .unset, .unset] [] := by first | (simp [entryFrame, mkF, argsToLocals, Value.category, maxLocals]; done) | rfl
def Q0 (Z : State) (lv1 : Int32) (bv1 : Int64) (lv2 : Int32) (bv2 : Int64) (md : Int32) (ac : Addr) (cl : Cell) (h0 : Heap) (n0 : Nat) (v : Option Value) (h : Heap) (L : List Loc) : Prop := v = some (.int 1) ∧ Fr n0 L
set_option maxRecDepth 65536 in
set_option maxHeartbeats 40000000 in
theorem rm0 (l : Launch) (Z : State) (a0 : Array Value) (hw : ∀ d ∈ tables_1, d.before a0 Z = true) (ws : List Jvm.Cond) (lv1 : Int32) (bv1 : Int64) (lv2 : Int32) (bv2 : Int64) (md : Int32) (ac : Addr) (cl : Cell) (h0 : Heap) (n0 : Nat) (Z0 : n0 ≤ h0.size) (O0 : Old Z n0 h0) (S1 : Sta Z Z.heap "java/lang/Long$LongCache" "cache" "[Ljava/lang/Long;" (.ref ac)) (Ar : Arr Z Z.heap ac cl (.object "java/lang/Long")) (HC : ∀ q0 : Int64, ¬ (lcmpW q0 (-128 : Int64)) < (0 : Int32) → ¬ (0 : Int32) < (lcmpW q0 (127 : Int64)) → ∃ x : Addr, ¬ ((q0.toInt32 + (128 : Int32)) < 0 ∨ cl.slots.size ≤ ((q0.toInt32 + (128 : Int32))).toNatClampNeg) ∧ cl.slots[((q0.toInt32 + (128 : Int32))).toNatClampNeg]? = some (.ref x) ∧ Exa Z Z.heap x "java/lang/Long") :
    MetFree l x (head1 (Jvm.Cond.code x code maxLocals ret :: ws) room_1) (fun ar_ U => ar_ = #[(.int lv1), (.long bv1), (.int lv2), (.long bv2), (.int md)] ∧ Z.Warmed39 U.vm ∧ U.heap = h0) (fun _ _ _ _ _ => True) (fun _ U o U' => ∃ v L, o = .returned v ∧ Q0 Z lv1 bv1 lv2 bv2 md ac cl h0 n0 v U'.heap L ∧ FrameEnd U o U' L room_1.cells room_1.slots) := by
  refine MetFree.of_bodySF (plainFor_of_name pn0) hisR ?_
  intro p e s m args below meth c s₁ Bd hml0 hP hK
  obtain ⟨rfl, hZ, hh⟩ := hP
  have hx := Bd.exec
  have hby := Bd.bytes
  have hml : c.maxLocals = 14 := hml0
  have hown : s.vm.findClass "com/example/mortise/mortise/schema/DriftEqualsPinLaw" = some m.cls := findClass_of_methodNamed Bd.named
  have hnm := (name_of_methodNamed Bd.named Bd.method).1
  have X0 : Stand p l e room_1 s m #[(.int lv1), (.long bv1), (.int lv2), (.long bv2), (.int md)] below meth c s₁ [] 0 0 := Stand.of_body Bd
  have e0 : s₁.heap = h0 := by rw [← hh, Bd.state]; rfl
  have N0 := Fr.nil n0
  show OFin p e below s _ _ (Q0 Z lv1 bv1 lv2 bv2 md ac cl h0 n0) (s₁.setTop (entryFrame m #[(.int lv1), (.long bv1), (.int lv2), (.long bv2), (.int md)] maxLocals))
  rw [ef0]
  obtain ⟨Q, hQ⟩ : ∃ Q, Q = Q0 Z lv1 bv1 lv2 bv2 md ac cl h0 n0 := ⟨_, rfl⟩
  rw [← hQ]
  show OFin p e below s _ _ Q (s₁.setTop (mkF m 0 #[.val (.int lv1), .val (.long bv1), .second, .val (.int lv2), .val (.long bv2), .second, .val (.int md), .unset, .unset, .unset, .unset, .unset, .unset, .unset] []))
  have J14 : ∀ v7 : Int32, OFin p e below s room_1.cells room_1.slots Q (s₁.setTop (mkF m 14 #[.val (.int lv1), .val (.long bv1), .second, .val (.int lv2), .val (.long bv2), .second, .val (.int md), .val (.int v7), .unset, .unset, .unset, .unset, .unset, .unset] [])) := by
    intro v7
    show OFin p e below s _ _ Q (s₁.setTop (mkF m 14 #[.val (.int lv1), .val (.long bv1), .second, .val (.int lv2), .val (.long bv2), .second, .val (.int md), .val (.int v7), .unset, .unset, .unset, .unset, .unset, .unset] []))
    have J29 : ∀ v8 : Int64, OFin p e below s room_1.cells room_1.slots Q (s₁.setTop (mkF m 29 #[.val (.int lv1), .val (.long bv1), .second, .val (.int lv2), .val (.long bv2), .second, .val (.int md), .val (.int v7), .val (.long v8), .second, .unset, .unset, .unset, .unset] [])) := by
      intro v8
      show OFin p e below s _ _ Q (s₁.setTop (mkF m 29 #[.val (.int lv1), .val (.long bv1), .second, .val (.int lv2), .val (.long bv2), .second, .val (.int md), .val (.int v7), .val (.long v8), .second, .unset, .unset, .unset, .unset] []))
      obtain ⟨T1, h1, X1, e1, E1, A1, D1, -, st1⟩ := newO X0 hx hZ hown (hw _ (List.mem_of_getElem? (i := 0) rfl)) (hw _ (List.mem_of_getElem? (i := 1) rfl)) (hw _ (List.mem_of_getElem? (i := 2) rfl)) e0 (g := (mkF m 29 #[.val (.int lv1), .val (.long bv1), .second, .val (.int lv2), .val (.long bv2), .second, .val (.int md), .val (.int v7), .val (.long v8), .second, .unset, .unset, .unset, .unset] [])) rfl (hb hby at_29) (by decide) (by decide)
      obtain ⟨b1, g1⟩ : ∃ z, z = h0.size := ⟨_, rfl⟩
      rw [← g1] at A1 D1 st1
      have f2 := Nat.le_trans Z0 (Nat.le_of_eq g1.symm)
      have f3 := Nat.le_trans (Keep.refl h0 []).1 (Nat.le_of_eq g1.symm)
      have f4 := O0.ext E1
      have f5 := Nat.le_trans Z0 E1.1
      have f6 := (Keep.refl h0 []).ext E1
      have f7 : Fld Z h1 b1 "com/example/mortise/mortise/schema/ContentModel$Drift" "level" "I" (.int (0 : Int32)) := D1 (Or.inr (hw _ (List.mem_of_getElem? (i := 10) rfl))) (ty := .int) (by decide)
      have f8 : Fld Z h1 b1 "com/example/mortise/mortise/schema/ContentModel$Drift" "by" "J" (.long (0 : Int64)) := D1 (Or.inr (hw _ (List.mem_of_getElem? (i := 12) rfl))) (ty := .long) (by decide)
      refine OFin.back st1 ?_
      show OFin p e below s _ _ Q (T1.setTop (mkF m 32 #[.val (.int lv1), .val (.long bv1), .second, .val (.int lv2), .val (.long bv2), .second, .val (.int md), .val (.int v7), .val (.long v8), .second, .unset, .unset, .unset, .unset] [(.ref b1)]))
      refine OFin.back (fun _ hr => XS.dup X1.here hx rfl (hb hby at_32) rfl rfl hr) ?_
      show OFin p e below s _ _ Q (T1.setTop (mkF m 33 #[.val (.int lv1), .val (.long bv1), .second, .val (.int lv2), .val (.long bv2), .second, .val (.int md), .val (.int v7), .val (.long v8), .second, .unset, .unset, .unset, .unset] [(.ref b1), (.ref b1)]))
      refine OFin.back (fun _ hr => XS.iloadN X1.here hx rfl (hb hby at_33) rfl hr) ?_
      show OFin p e below s _ _ Q (T1.setTop (mkF m 34 #[.val (.int lv1), .val (.long bv1), .second, .val (.int lv2), .val (.long bv2), .second, .val (.int md), .val (.int v7), .val (.long v8), .second, .unset, .unset, .unset, .unset] [(.int lv1), (.ref b1), (.ref b1)]))
      refine OFin.back (fun _ hr => XS.lloadN X1.here hx rfl (hb hby at_34) rfl hr) ?_
      show OFin p e below s _ _ Q (T1.setTop (mkF m 35 #[.val (.int lv1), .val (.long bv1), .second, .val (.int lv2), .val (.long bv2), .second, .val (.int md), .val (.int v7), .val (.long v8), .second, .unset, .unset, .unset, .unset] [(.long bv1), (.int lv1), (.ref b1), (.ref b1)]))
      obtain ⟨_, _, ⟨T9, L9, k9, n9⟩, -, X9, ⟨Lc9, hQ9, l9, y9, z9⟩, st9⟩ := X1.specialBack hx (y := (⟨"com/example/mortise/mortise/schema/ContentModel$Drift", "<init>", "(IJ)V"⟩ : MethodName)) rfl hown (mvT hZ (hw _ (List.mem_of_getElem? (i := 3) rfl))) (mvT hZ (hw _ (List.mem_of_getElem? (i := 4) rfl))) (mvT hZ (hw _ (List.mem_of_getElem? (i := 5) rfl))) (by decide) (backOf (W := 1) (rm1 l Z a0 hw [] b1 lv1 bv1 (h1) n0 f5 f7 f8 A1 f2) hZ (hw _ (List.mem_of_getElem? (i := 5) rfl)) (hw _ (List.mem_of_getElem? (i := 2) rfl)) (by decide) (by decide)) (g := (mkF m 35 #[.val (.int lv1), .val (.long bv1), .second, .val (.int lv2), .val (.long bv2), .second, .val (.int md), .val (.int v7), .val (.long v8), .second, .unset, .unset, .unset, .unset] [(.long bv1), (.int lv1), (.ref b1), (.ref b1)])) rfl (by rw [hml]; rfl) (Steps.refl _) (a := b1) (argsL := [(.int lv1), (.long bv1)]) (rest := [(.ref b1)]) (lenOf pd0_0 rfl) rfl (by show 2 * 0 + _ ≤ _; exact Nat.le_of_eq rfl) (hb hby at_35) (fun _ _ => ⟨rfl, e1, (by decide : 1 + 0 ≤ _), (by decide : 2 + 0 ≤ _)⟩)
      dsimp only [Pt.U, Pt.locs, Pt.cells, Pt.slots] at X9 l9 y9 z9 st9 hQ9
      subst l9 y9 z9
      obtain ⟨rfl, N9q, K9, EX9, FA9, FB9⟩ := hQ9
      have N9 := Fr.app N0 N9q
      refine OFin.via st9 ?_
      have f10 := f4.keep K9 (allS f2 all0)
      have f11 := A1.keep K9
      have f12 := Nat.le_trans f5 K9.1
      have f13 := f6.trans K9 (allS (Or.inr f3) all0)
      show OFin p e below s _ _ Q (T9.setTop (mkF m 38 #[.val (.int lv1), .val (.long bv1), .second, .val (.int lv2), .val (.long bv2), .second, .val (.int md), .val (.int v7), .val (.long v8), .second, .unset, .unset, .unset, .unset] [(.ref b1)]))
      refine OFin.back (fun _ hr => XS.astore X9.here hx rfl (hb hby at_38) rfl rfl (l' := #[.val (.int lv1), .val (.long bv1), .second, .val (.int lv2), .val (.long bv2), .second, .val (.int md), .val (.int v7), .val (.long v8), .second, .val (.ref b1), .unset, .unset, .unset]) rfl hr) ?_
      show OFin p e below s _ _ Q (T9.setTop (mkF m 40 #[.val (.int lv1), .val (.long bv1), .second, .val (.int lv2), .val (.long bv2), .second, .val (.int md), .val (.int v7), .val (.long v8), .second, .val (.ref b1), .unset, .unset, .unset] []))
      obtain ⟨T14, h14, X14, e14, E14, A14, D14, -, st14⟩ := newO X9 hx hZ hown (hw _ (List.mem_of_getElem? (i := 0) rfl)) (hw _ (List.mem_of_getElem? (i := 1) rfl)) (hw _ (List.mem_of_getElem? (i := 2) rfl)) rfl (g := (mkF m 40 #[.val (.int lv1), .val (.long bv1), .second, .val (.int lv2), .val (.long bv2), .second, .val (.int md), .val (.int v7), .val (.long v8), .second, .val (.ref b1), .unset, .unset, .unset] [])) rfl (hb hby at_40) (by decide) (by decide)
      obtain ⟨b14, g14⟩ : ∃ z, z = T9.heap.size := ⟨_, rfl⟩
      rw [← g14] at A14 D14 st14
      have f15 := own_ne EX9.lt g14
      have f16 := Nat.le_trans f12 (Nat.le_of_eq g14.symm)
      have f17 := Nat.le_trans f13.1 (Nat.le_of_eq g14.symm)
      have f18 := f10.ext E14
      have f19 := EX9.ext E14
      have f20 := FA9.ext E14
      have f21 := FB9.ext E14
      have f22 := Nat.le_trans f12 E14.1
      have f23 := f13.ext E14
      have f24 : Fld Z h14 b14 "com/example/mortise/mortise/schema/ContentModel$Drift" "level" "I" (.int (0 : Int32)) := D14 (Or.inr (hw _ (List.mem_of_getElem? (i := 10) rfl))) (ty := .int) (by decide)
      have f25 : Fld Z h14 b14 "com/example/mortise/mortise/schema/ContentModel$Drift" "by" "J" (.long (0 : Int64)) := D14 (Or.inr (hw _ (List.mem_of_getElem? (i := 12) rfl))) (ty := .long) (by decide)
      refine OFin.back st14 ?_
      show OFin p e below s _ _ Q (T14.setTop (mkF m 43 #[.val (.int lv1), .val (.long bv1), .second, .val (.int lv2), .val (.long bv2), .second, .val (.int md), .val (.int v7), .val (.long v8), .second, .val (.ref b1), .unset, .unset, .unset] [(.ref b14)]))
      refine OFin.back (fun _ hr => XS.dup X14.here hx rfl (hb hby at_43) rfl rfl hr) ?_
      show OFin p e below s _ _ Q (T14.setTop (mkF m 44 #[.val (.int lv1), .val (.long bv1), .second, .val (.int lv2), .val (.long bv2), .second, .val (.int md), .val (.int v7), .val (.long v8), .second, .val (.ref b1), .unset, .unset, .unset] [(.ref b14), (.ref b14)]))
      refine OFin.back (fun _ hr => XS.iload X14.here hx rfl (hb hby at_44) rfl hr) ?_
      show OFin p e below s _ _ Q (T14.setTop (mkF m 46 #[.val (.int lv1), .val (.long bv1), .second, .val (.int lv2), .val (.long bv2), .second, .val (.int md), .val (.int v7), .val (.long v8), .second, .val (.ref b1), .unset, .unset, .unset] [(.int v7), (.ref b14), (.ref b14)]))
      refine OFin.back (fun _ hr => XS.lload X14.here hx rfl (hb hby at_46) rfl hr) ?_
      show OFin p e below s _ _ Q (T14.setTop (mkF m 48 #[.val (.int lv1), .val (.long bv1), .second, .val (.int lv2), .val (.long bv2), .second, .val (.int md), .val (.int v7), .val (.long v8), .second, .val (.ref b1), .unset, .unset, .unset] [(.long v8), (.int v7), (.ref b14), (.ref b14)]))
      obtain ⟨_, _, ⟨T26, L26, k26, n26⟩, -, X26, ⟨Lc26, hQ26, l26, y26, z26⟩, st26⟩ := X14.specialBack hx (y := (⟨"com/example/mortise/mortise/schema/ContentModel$Drift", "<init>", "(IJ)V"⟩ : MethodName)) rfl hown (mvT hZ (hw _ (List.mem_of_getElem? (i := 3) rfl))) (mvT hZ (hw _ (List.mem_of_getElem? (i := 4) rfl))) (mvT hZ (hw _ (List.mem_of_getElem? (i := 5) rfl))) (by decide) (backOf (W := 1) (rm1 l Z a0 hw [] b14 v7 v8 (h14) n0 f22 f24 f25 A14 f16) hZ (hw _ (List.mem_of_getElem? (i := 5) rfl)) (hw _ (List.mem_of_getElem? (i := 2) rfl)) (by decide) (by decide)) (g := (mkF m 48 #[.val (.int lv1), .val (.long bv1), .second, .val (.int lv2), .val (.long bv2), .second, .val (.int md), .val (.int v7), .val (.long v8), .second, .val (.ref b1), .unset, .unset, .unset] [(.long v8), (.int v7), (.ref b14), (.ref b14)])) rfl (by rw [hml]; rfl) (Steps.refl _) (a := b14) (argsL := [(.int v7), (.long v8)]) (rest := [(.ref b14)]) (lenOf pd0_0 rfl) rfl (by show 2 * 0 + _ ≤ _; exact Nat.le_of_eq rfl) (hb hby at_48) (fun _ _ => ⟨rfl, e14, (by decide : 2 + 0 ≤ _), (by decide : 4 + 0 ≤ _)⟩)
      dsimp only [Pt.U, Pt.locs, Pt.cells, Pt.slots] at X26 l26 y26 z26 st26 hQ26
      subst l26 y26 z26
      obtain ⟨rfl, N26q, K26, EX26, FA26, FB26⟩ := hQ26
      have N26 := Fr.app N9 N26q
      refine OFin.via st26 ?_
      have f27 := f18.keep K26 (allS f16 all0)
      have f28 := f19.keep K26
      have f29 := f20.keep K26 (ninS f15 nin0)
      have f30 := f21.keep K26 (ninS f15 nin0)
      have f31 := A14.keep K26
      have f32 := Nat.le_trans f22 K26.1
      have f33 := f23.trans K26 (allS (Or.inr f17) all0)
      show OFin p e below s _ _ Q (T26.setTop (mkF m 51 #[.val (.int lv1), .val (.long bv1), .second, .val (.int lv2), .val (.long bv2), .second, .val (.int md), .val (.int v7), .val (.long v8), .second, .val (.ref b1), .unset, .unset, .unset] [(.ref b14)]))
      refine OFin.back (fun _ hr => XS.astore X26.here hx rfl (hb hby at_51) rfl rfl (l' := #[.val (.int lv1), .val (.long bv1), .second, .val (.int lv2), .val (.long bv2), .second, .val (.int md), .val (.int v7), .val (.long v8), .second, .val (.ref b1), .val (.ref b14), .unset, .unset]) rfl hr) ?_
      show OFin p e below s _ _ Q (T26.setTop (mkF m 53 #[.val (.int lv1), .val (.long bv1), .second, .val (.int lv2), .val (.long bv2), .second, .val (.int md), .val (.int v7), .val (.long v8), .second, .val (.ref b1), .val (.ref b14), .unset, .unset] []))
      refine OFin.back (fun _ hr => XS.iloadN X26.here hx rfl (hb hby at_53) rfl hr) ?_
      show OFin p e below s _ _ Q (T26.setTop (mkF m 54 #[.val (.int lv1), .val (.long bv1), .second, .val (.int lv2), .val (.long bv2), .second, .val (.int md), .val (.int v7), .val (.long v8), .second, .val (.ref b1), .val (.ref b14), .unset, .unset] [(.int lv1)]))
      refine OFin.back (fun _ hr => XS.iload X26.here hx rfl (hb hby at_54) rfl hr) ?_
      show OFin p e below s _ _ Q (T26.setTop (mkF m 56 #[.val (.int lv1), .val (.long bv1), .second, .val (.int lv2), .val (.long bv2), .second, .val (.int md), .val (.int v7), .val (.long v8), .second, .val (.ref b1), .val (.ref b14), .unset, .unset] [(.int v7), (.int lv1)]))
      by_cases hc56_34 : lv1 = v7
      · -- lv1 = v7
        refine OFin.back (fun _ hr => XS.icmpNo X26.here hx rfl (hb hby at_56) rfl (teq hc56_34).2 hr) ?_
        show OFin p e below s _ _ Q (T26.setTop (mkF m 59 #[.val (.int lv1), .val (.long bv1), .second, .val (.int lv2), .val (.long bv2), .second, .val (.int md), .val (.int v7), .val (.long v8), .second, .val (.ref b1), .val (.ref b14), .unset, .unset] []))
        refine OFin.back (fun _ hr => XS.lloadN X26.here hx rfl (hb hby at_59) rfl hr) ?_
        show OFin p e below s _ _ Q (T26.setTop (mkF m 60 #[.val (.int lv1), .val (.long bv1), .second, .val (.int lv2), .val (.long bv2), .second, .val (.int md), .val (.int v7), .val (.long v8), .second, .val (.ref b1), .val (.ref b14), .unset, .unset] [(.long bv1)]))
        refine OFin.back (fun _ hr => XS.lload X26.here hx rfl (hb hby at_60) rfl hr) ?_
        show OFin p e below s _ _ Q (T26.setTop (mkF m 62 #[.val (.int lv1), .val (.long bv1), .second, .val (.int lv2), .val (.long bv2), .second, .val (.int md), .val (.int v7), .val (.long v8), .second, .val (.ref b1), .val (.ref b14), .unset, .unset] [(.long v8), (.long bv1)]))
        refine OFin.back (fun _ hr => XS.lcmp X26.here hx rfl (hb hby at_62) rfl hr) ?_
        show OFin p e below s _ _ Q (T26.setTop (mkF m 63 #[.val (.int lv1), .val (.long bv1), .second, .val (.int lv2), .val (.long bv2), .second, .val (.int md), .val (.int v7), .val (.long v8), .second, .val (.ref b1), .val (.ref b14), .unset, .unset] [(.int (lcmpW bv1 v8))]))
        by_cases hc63_35 : (lcmpW bv1 v8) = (0 : Int32)
        · -- (lcmpW bv1 v8) = (0 : Int32)
          refine OFin.back (fun _ hr => XS.ifNo X26.here hx rfl (hb hby at_63) rfl ((if0 _ _).trans (teq hc63_35).2) hr) ?_
          show OFin p e below s _ _ Q (T26.setTop (mkF m 66 #[.val (.int lv1), .val (.long bv1), .second, .val (.int lv2), .val (.long bv2), .second, .val (.int md), .val (.int v7), .val (.long v8), .second, .val (.ref b1), .val (.ref b14), .unset, .unset] []))
          refine OFin.back (fun _ hr => XS.iconst X26.here hx rfl (hb hby at_66) hr) ?_
          show OFin p e below s _ _ Q (T26.setTop (mkF m 67 #[.val (.int lv1), .val (.long bv1), .second, .val (.int lv2), .val (.long bv2), .second, .val (.int md), .val (.int v7), .val (.long v8), .second, .val (.ref b1), .val (.ref b14), .unset, .unset] [(.int (1 : Int32))]))
          refine OFin.back (fun _ hr => XS.goto X26.here hx rfl (pc0 := 67) (pc' := 71) rfl (hb hby at_67) (by decide) (by decide) hr) ?_
          show OFin p e below s _ _ Q (T26.setTop (mkF m 71 #[.val (.int lv1), .val (.long bv1), .second, .val (.int lv2), .val (.long bv2), .second, .val (.int md), .val (.int v7), .val (.long v8), .second, .val (.ref b1), .val (.ref b14), .unset, .unset] [(.int (1 : Int32))]))
          refine OFin.back (fun _ hr => XS.istore X26.here hx rfl (hb hby at_71) rfl (l' := #[.val (.int lv1), .val (.long bv1), .second, .val (.int lv2), .val (.long bv2), .second, .val (.int md), .val (.int v7), .val (.long v8), .second, .val (.ref b1), .val (.ref b14), .val (.int (1 : Int32)), .unset]) rfl hr) ?_
          show OFin p e below s _ _ Q (T26.setTop (mkF m 73 #[.val (.int lv1), .val (.long bv1), .second, .val (.int lv2), .val (.long bv2), .second, .val (.int md), .val (.int v7), .val (.long v8), .second, .val (.ref b1), .val (.ref b14), .val (.int (1 : Int32)), .unset] []))
          refine OFin.back (fun _ hr => XS.iload X26.here hx rfl (hb hby at_73) rfl hr) ?_
          show OFin p e below s _ _ Q (T26.setTop (mkF m 75 #[.val (.int lv1), .val (.long bv1), .second, .val (.int lv2), .val (.long bv2), .second, .val (.int md), .val (.int v7), .val (.long v8), .second, .val (.ref b1), .val (.ref b14), .val (.int (1 : Int32)), .unset] [(.int md)]))
          refine OFin.back (fun _ hr => XS.iconst X26.here hx rfl (hb hby at_75) hr) ?_
          show OFin p e below s _ _ Q (T26.setTop (mkF m 76 #[.val (.int lv1), .val (.long bv1), .second, .val (.int lv2), .val (.long bv2), .second, .val (.int md), .val (.int v7), .val (.long v8), .second, .val (.ref b1), .val (.ref b14), .val (.int (1 : Int32)), .unset] [(.int (4 : Int32)), (.int md)]))
          refine OFin.back (fun _ hr => XS.iand X26.here hx rfl (hb hby at_76) rfl hr) ?_
          show OFin p e below s _ _ Q (T26.setTop (mkF m 77 #[.val (.int lv1), .val (.long bv1), .second, .val (.int lv2), .val (.long bv2), .second, .val (.int md), .val (.int v7), .val (.long v8), .second, .val (.ref b1), .val (.ref b14), .val (.int (1 : Int32)), .unset] [(.int (md &&& (4 : Int32)))]))
          by_cases hc77_36 : (md &&& (4 : Int32)) = (0 : Int32)
          · -- (md &&& (4 : Int32)) = (0 : Int32)
            refine OFin.back (fun _ hr => XS.ifYes X26.here hx rfl (pc0 := 77) (pc' := 92) rfl (hb hby at_77) rfl ((if0 _ _).trans (teq hc77_36).1) (by decide) (by decide) hr) ?_
            show OFin p e below s _ _ Q (T26.setTop (mkF m 92 #[.val (.int lv1), .val (.long bv1), .second, .val (.int lv2), .val (.long bv2), .second, .val (.int md), .val (.int v7), .val (.long v8), .second, .val (.ref b1), .val (.ref b14), .val (.int (1 : Int32)), .unset] []))
            refine OFin.back (fun _ hr => XS.aload X26.here hx rfl (hb hby at_92) rfl rfl hr) ?_
            show OFin p e below s _ _ Q (T26.setTop (mkF m 94 #[.val (.int lv1), .val (.long bv1), .second, .val (.int lv2), .val (.long bv2), .second, .val (.int md), .val (.int v7), .val (.long v8), .second, .val (.ref b1), .val (.ref b14), .val (.int (1 : Int32)), .unset] [(.ref b1)]))
            refine OFin.back (fun _ hr => XS.aconstNull X26.here hx rfl (hb hby at_94) hr) ?_
            show OFin p e below s _ _ Q (T26.setTop (mkF m 95 #[.val (.int lv1), .val (.long bv1), .second, .val (.int lv2), .val (.long bv2), .second, .val (.int md), .val (.int v7), .val (.long v8), .second, .val (.ref b1), .val (.ref b14), .val (.int (1 : Int32)), .unset] [.null, (.ref b1)]))
            obtain ⟨cq37, kq37, q37a, q37b, q37c⟩ := isOf hZ rfl f28
            obtain ⟨_, _, ⟨T37, L37, k37, n37⟩, -, X37, ⟨Lc37, hQ37, l37, y37, z37⟩, st37⟩ := X26.virtualBack hx (y := (⟨"com/example/mortise/mortise/schema/ContentModel$Drift", "equals", "(Ljava/lang/Object;)Z"⟩ : MethodName)) (z := (⟨"com/example/mortise/mortise/schema/ContentModel$Drift", "equals", "(Ljava/lang/Object;)Z"⟩ : MethodName)) hown (mvT hZ (hw _ (List.mem_of_getElem? (i := 13) rfl))) (mvT hZ (hw _ (List.mem_of_getElem? (i := 14) rfl))) (notFace_of_selects (args := #[]) (mvT hZ (hw _ (List.mem_of_getElem? (i := 16) rfl)))) (mvT hZ (hw _ (List.mem_of_getElem? (i := 16) rfl))) (mvT hZ (hw _ (List.mem_of_getElem? (i := 15) rfl))) (by decide) (backOf (W := 0) (rm2n l Z a0 hw [] b1 (T26.heap) n0 f32) hZ (hw _ (List.mem_of_getElem? (i := 17) rfl)) (hw _ (List.mem_of_getElem? (i := 2) rfl)) (by decide) (by decide)) q37a q37c (g := (mkF m 95 #[.val (.int lv1), .val (.long bv1), .second, .val (.int lv2), .val (.long bv2), .second, .val (.int md), .val (.int v7), .val (.long v8), .second, .val (.ref b1), .val (.ref b14), .val (.int (1 : Int32)), .unset] [.null, (.ref b1)])) rfl (by rw [hml]; rfl) (Steps.refl _) (argsL := [.null]) (rest := []) (lenOf pd0_1 rfl) rfl (by show 2 * 0 + _ ≤ _; exact Nat.le_of_eq rfl) (hb hby at_95) (fun _ _ => ⟨rfl, rfl, (by decide : 2 + 0 ≤ _), (by decide : 4 + 0 ≤ _)⟩)
            dsimp only [Pt.U, Pt.locs, Pt.cells, Pt.slots] at X37 l37 y37 z37 st37 hQ37
            subst l37 y37 z37
            obtain ⟨rfl, N37q, e37⟩ := hQ37
            have N37 := Fr.app N26 N37q
            refine OFin.via st37 ?_
            show OFin p e below s _ _ Q (T37.setTop (mkF m 98 #[.val (.int lv1), .val (.long bv1), .second, .val (.int lv2), .val (.long bv2), .second, .val (.int md), .val (.int v7), .val (.long v8), .second, .val (.ref b1), .val (.ref b14), .val (.int (1 : Int32)), .unset] [(.int (0 : Int32))]))
            refine OFin.back (fun _ hr => XS.istore X37.here hx rfl (hb hby at_98) rfl (l' := #[.val (.int lv1), .val (.long bv1), .second, .val (.int lv2), .val (.long bv2), .second, .val (.int md), .val (.int v7), .val (.long v8), .second, .val (.ref b1), .val (.ref b14), .val (.int (1 : Int32)), .val (.int (0 : Int32))]) rfl hr) ?_
            show OFin p e below s _ _ Q (T37.setTop (mkF m 100 #[.val (.int lv1), .val (.long bv1), .second, .val (.int lv2), .val (.long bv2), .second, .val (.int md), .val (.int v7), .val (.long v8), .second, .val (.ref b1), .val (.ref b14), .val (.int (1 : Int32)), .val (.int (0 : Int32))] []))
            refine OFin.back (fun _ hr => XS.aload X37.here hx rfl (hb hby at_100) rfl rfl hr) ?_
            show OFin p e below s _ _ Q (T37.setTop (mkF m 102 #[.val (.int lv1), .val (.long bv1), .second, .val (.int lv2), .val (.long bv2), .second, .val (.int md), .val (.int v7), .val (.long v8), .second, .val (.ref b1), .val (.ref b14), .val (.int (1 : Int32)), .val (.int (0 : Int32))] [(.ref b1)]))
            refine OFin.back (fun _ hr => XS.aload X37.here hx rfl (hb hby at_102) rfl rfl hr) ?_
            show OFin p e below s _ _ Q (T37.setTop (mkF m 104 #[.val (.int lv1), .val (.long bv1), .second, .val (.int lv2), .val (.long bv2), .second, .val (.int md), .val (.int v7), .val (.long v8), .second, .val (.ref b1), .val (.ref b14), .val (.int (1 : Int32)), .val (.int (0 : Int32))] [(.ref b14), (.ref b1)]))
            obtain ⟨cq38, kq38, q38a, q38b, q38c⟩ := isOf hZ e37 f28
            obtain ⟨_, _, ⟨T38, L38, k38, n38⟩, -, X38, ⟨Lc38, hQ38, l38, y38, z38⟩, st38⟩ := X37.virtualBack hx (y := (⟨"com/example/mortise/mortise/schema/ContentModel$Drift", "equals", "(Ljava/lang/Object;)Z"⟩ : MethodName)) (z := (⟨"com/example/mortise/mortise/schema/ContentModel$Drift", "equals", "(Ljava/lang/Object;)Z"⟩ : MethodName)) hown (mvT hZ (hw _ (List.mem_of_getElem? (i := 13) rfl))) (mvT hZ (hw _ (List.mem_of_getElem? (i := 14) rfl))) (notFace_of_selects (args := #[]) (mvT hZ (hw _ (List.mem_of_getElem? (i := 16) rfl)))) (mvT hZ (hw _ (List.mem_of_getElem? (i := 16) rfl))) (mvT hZ (hw _ (List.mem_of_getElem? (i := 15) rfl))) (by decide) (backOf (W := 0) (rm2d l Z a0 hw [] b1 b14 lv1 bv1 v7 v8 (T26.heap) n0 f32 f29 f30 FA26 FB26 EX26) hZ (hw _ (List.mem_of_getElem? (i := 17) rfl)) (hw _ (List.mem_of_getElem? (i := 2) rfl)) (by decide) (by decide)) q38a q38c (g := (mkF m 104 #[.val (.int lv1), .val (.long bv1), .second, .val (.int lv2), .val (.long bv2), .second, .val (.int md), .val (.int v7), .val (.long v8), .second, .val (.ref b1), .val (.ref b14), .val (.int (1 : Int32)), .val (.int (0 : Int32))] [(.ref b14), (.ref b1)])) rfl (by rw [hml]; rfl) (Steps.refl _) (argsL := [(.ref b14)]) (rest := []) (lenOf pd0_1 rfl) rfl (by show 2 * 0 + _ ≤ _; exact Nat.le_of_eq rfl) (hb hby at_104) (fun _ _ => ⟨rfl, e37, (by decide : 2 + 0 ≤ _), (by decide : 4 + 0 ≤ _)⟩)
            dsimp only [Pt.U, Pt.locs, Pt.cells, Pt.slots] at X38 l38 y38 z38 st38 hQ38
            subst l38 y38 z38
            obtain ⟨rfl, N38q, e38⟩ := hQ38
            have N38 := Fr.app N37 N38q
            refine OFin.via st38 ?_
            rw [show (own_eq lv1 bv1 v7 v8) = (1 : Int32) from own_eqT hc56_34 ((lw_eq _ _).mp hc63_35)]
            show OFin p e below s _ _ Q (T38.setTop (mkF m 107 #[.val (.int lv1), .val (.long bv1), .second, .val (.int lv2), .val (.long bv2), .second, .val (.int md), .val (.int v7), .val (.long v8), .second, .val (.ref b1), .val (.ref b14), .val (.int (1 : Int32)), .val (.int (0 : Int32))] [(.int (1 : Int32))]))
            refine OFin.back (fun _ hr => XS.iload X38.here hx rfl (hb hby at_107) rfl hr) ?_
            show OFin p e below s _ _ Q (T38.setTop (mkF m 109 #[.val (.int lv1), .val (.long bv1), .second, .val (.int lv2), .val (.long bv2), .second, .val (.int md), .val (.int v7), .val (.long v8), .second, .val (.ref b1), .val (.ref b14), .val (.int (1 : Int32)), .val (.int (0 : Int32))] [(.int (1 : Int32)), (.int (1 : Int32))]))
            refine OFin.back (fun _ hr => XS.icmpNo X38.here hx rfl (hb hby at_109) rfl (teq (by decide : (1 : Int32) = (1 : Int32))).2 hr) ?_
            show OFin p e below s _ _ Q (T38.setTop (mkF m 112 #[.val (.int lv1), .val (.long bv1), .second, .val (.int lv2), .val (.long bv2), .second, .val (.int md), .val (.int v7), .val (.long v8), .second, .val (.ref b1), .val (.ref b14), .val (.int (1 : Int32)), .val (.int (0 : Int32))] []))
            refine OFin.back (fun _ hr => XS.aload X38.here hx rfl (hb hby at_112) rfl rfl hr) ?_
            show OFin p e below s _ _ Q (T38.setTop (mkF m 114 #[.val (.int lv1), .val (.long bv1), .second, .val (.int lv2), .val (.long bv2), .second, .val (.int md), .val (.int v7), .val (.long v8), .second, .val (.ref b1), .val (.ref b14), .val (.int (1 : Int32)), .val (.int (0 : Int32))] [(.ref b14)]))
            refine OFin.back (fun _ hr => XS.aload X38.here hx rfl (hb hby at_114) rfl rfl hr) ?_
            show OFin p e below s _ _ Q (T38.setTop (mkF m 116 #[.val (.int lv1), .val (.long bv1), .second, .val (.int lv2), .val (.long bv2), .second, .val (.int md), .val (.int v7), .val (.long v8), .second, .val (.ref b1), .val (.ref b14), .val (.int (1 : Int32)), .val (.int (0 : Int32))] [(.ref b1), (.ref b14)]))
            obtain ⟨cq39, kq39, q39a, q39b, q39c⟩ := isOf hZ e38 EX26
            obtain ⟨_, _, ⟨T39, L39, k39, n39⟩, -, X39, ⟨Lc39, hQ39, l39, y39, z39⟩, st39⟩ := X38.virtualBack hx (y := (⟨"com/example/mortise/mortise/schema/ContentModel$Drift", "equals", "(Ljava/lang/Object;)Z"⟩ : MethodName)) (z := (⟨"com/example/mortise/mortise/schema/ContentModel$Drift", "equals", "(Ljava/lang/Object;)Z"⟩ : MethodName)) hown (mvT hZ (hw _ (List.mem_of_getElem? (i := 13) rfl))) (mvT hZ (hw _ (List.mem_of_getElem? (i := 14) rfl))) (notFace_of_selects (args := #[]) (mvT hZ (hw _ (List.mem_of_getElem? (i := 16) rfl)))) (mvT hZ (hw _ (List.mem_of_getElem? (i := 16) rfl))) (mvT hZ (hw _ (List.mem_of_getElem? (i := 15) rfl))) (by decide) (backOf (W := 0) (rm2d l Z a0 hw [] b14 b1 v7 v8 lv1 bv1 (T26.heap) n0 f32 FA26 FB26 f29 f30 f28) hZ (hw _ (List.mem_of_getElem? (i := 17) rfl)) (hw _ (List.mem_of_getElem? (i := 2) rfl)) (by decide) (by decide)) q39a q39c (g := (mkF m 116 #[.val (.int lv1), .val (.long bv1), .second, .val (.int lv2), .val (.long bv2), .second, .val (.int md), .val (.int v7), .val (.long v8), .second, .val (.ref b1), .val (.ref b14), .val (.int (1 : Int32)), .val (.int (0 : Int32))] [(.ref b1), (.ref b14)])) rfl (by rw [hml]; rfl) (Steps.refl _) (argsL := [(.ref b1)]) (rest := []) (lenOf pd0_1 rfl) rfl (by show 2 * 0 + _ ≤ _; exact Nat.le_of_eq rfl) (hb hby at_116) (fun _ _ => ⟨rfl, e38, (by decide : 2 + 0 ≤ _), (by decide : 4 + 0 ≤ _)⟩)
            dsimp only [Pt.U, Pt.locs, Pt.cells, Pt.slots] at X39 l39 y39 z39 st39 hQ39
            subst l39 y39 z39
            obtain ⟨rfl, N39q, e39⟩ := hQ39
            have N39 := Fr.app N38 N39q
            refine OFin.via st39 ?_
            rw [show (own_eq v7 v8 lv1 bv1) = (1 : Int32) from own_eqT hc56_34.symm ((lw_eq _ _).mp hc63_35).symm]
            show OFin p e below s _ _ Q (T39.setTop (mkF m 119 #[.val (.int lv1), .val (.long bv1), .second, .val (.int lv2), .val (.long bv2), .second, .val (.int md), .val (.int v7), .val (.long v8), .second, .val (.ref b1), .val (.ref b14), .val (.int (1 : Int32)), .val (.int (0 : Int32))] [(.int (1 : Int32))]))
            refine OFin.back (fun _ hr => XS.iload X39.here hx rfl (hb hby at_119) rfl hr) ?_
            show OFin p e below s _ _ Q (T39.setTop (mkF m 121 #[.val (.int lv1), .val (.long bv1), .second, .val (.int lv2), .val (.long bv2), .second, .val (.int md), .val (.int v7), .val (.long v8), .second, .val (.ref b1), .val (.ref b14), .val (.int (1 : Int32)), .val (.int (0 : Int32))] [(.int (1 : Int32)), (.int (1 : Int32))]))
            refine OFin.back (fun _ hr => XS.icmpNo X39.here hx rfl (hb hby at_121) rfl (teq (by decide : (1 : Int32) = (1 : Int32))).2 hr) ?_
            show OFin p e below s _ _ Q (T39.setTop (mkF m 124 #[.val (.int lv1), .val (.long bv1), .second, .val (.int lv2), .val (.long bv2), .second, .val (.int md), .val (.int v7), .val (.long v8), .second, .val (.ref b1), .val (.ref b14), .val (.int (1 : Int32)), .val (.int (0 : Int32))] []))
            refine OFin.back (fun _ hr => XS.aload X39.here hx rfl (hb hby at_124) rfl rfl hr) ?_
            show OFin p e below s _ _ Q (T39.setTop (mkF m 126 #[.val (.int lv1), .val (.long bv1), .second, .val (.int lv2), .val (.long bv2), .second, .val (.int md), .val (.int v7), .val (.long v8), .second, .val (.ref b1), .val (.ref b14), .val (.int (1 : Int32)), .val (.int (0 : Int32))] [(.ref b1)]))
            refine OFin.back (fun _ hr => XS.aload X39.here hx rfl (hb hby at_126) rfl rfl hr) ?_
            show OFin p e below s _ _ Q (T39.setTop (mkF m 128 #[.val (.int lv1), .val (.long bv1), .second, .val (.int lv2), .val (.long bv2), .second, .val (.int md), .val (.int v7), .val (.long v8), .second, .val (.ref b1), .val (.ref b14), .val (.int (1 : Int32)), .val (.int (0 : Int32))] [(.ref b1), (.ref b1)]))
            obtain ⟨cq40, kq40, q40a, q40b, q40c⟩ := isOf hZ e39 f28
            obtain ⟨_, _, ⟨T40, L40, k40, n40⟩, -, X40, ⟨Lc40, hQ40, l40, y40, z40⟩, st40⟩ := X39.virtualBack hx (y := (⟨"com/example/mortise/mortise/schema/ContentModel$Drift", "equals", "(Ljava/lang/Object;)Z"⟩ : MethodName)) (z := (⟨"com/example/mortise/mortise/schema/ContentModel$Drift", "equals", "(Ljava/lang/Object;)Z"⟩ : MethodName)) hown (mvT hZ (hw _ (List.mem_of_getElem? (i := 13) rfl))) (mvT hZ (hw _ (List.mem_of_getElem? (i := 14) rfl))) (notFace_of_selects (args := #[]) (mvT hZ (hw _ (List.mem_of_getElem? (i := 16) rfl)))) (mvT hZ (hw _ (List.mem_of_getElem? (i := 16) rfl))) (mvT hZ (hw _ (List.mem_of_getElem? (i := 15) rfl))) (by decide) (backOf (W := 0) (rm2d l Z a0 hw [] b1 b1 lv1 bv1 lv1 bv1 (T26.heap) n0 f32 f29 f30 f29 f30 f28) hZ (hw _ (List.mem_of_getElem? (i := 17) rfl)) (hw _ (List.mem_of_getElem? (i := 2) rfl)) (by decide) (by decide)) q40a q40c (g := (mkF m 128 #[.val (.int lv1), .val (.long bv1), .second, .val (.int lv2), .val (.long bv2), .second, .val (.int md), .val (.int v7), .val (.long v8), .second, .val (.ref b1), .val (.ref b14), .val (.int (1 : Int32)), .val (.int (0 : Int32))] [(.ref b1), (.ref b1)])) rfl (by rw [hml]; rfl) (Steps.refl _) (argsL := [(.ref b1)]) (rest := []) (lenOf pd0_1 rfl) rfl (by show 2 * 0 + _ ≤ _; exact Nat.le_of_eq rfl) (hb hby at_128) (fun _ _ => ⟨rfl, e39, (by decide : 2 + 0 ≤ _), (by decide : 4 + 0 ≤ _)⟩)
            dsimp only [Pt.U, Pt.locs, Pt.cells, Pt.slots] at X40 l40 y40 z40 st40 hQ40
            subst l40 y40 z40
            obtain ⟨rfl, N40q, e40⟩ := hQ40
            have N40 := Fr.app N39 N40q
            refine OFin.via st40 ?_
            rw [show (own_eq lv1 bv1 lv1 bv1) = (1 : Int32) from own_eqT rfl rfl]
            show OFin p e below s _ _ Q (T40.setTop (mkF m 131 #[.val (.int lv1), .val (.long bv1), .second, .val (.int lv2), .val (.long bv2), .second, .val (.int md), .val (.int v7), .val (.long v8), .second, .val (.ref b1), .val (.ref b14), .val (.int (1 : Int32)), .val (.int (0 : Int32))] [(.int (1 : Int32))]))
            refine OFin.back (fun _ hr => XS.ifNo X40.here hx rfl (hb hby at_131) rfl ((if0 _ _).trans (feq (by decide : ¬ ((1 : Int32) = (0 : Int32)))).1) hr) ?_
            show OFin p e below s _ _ Q (T40.setTop (mkF m 134 #[.val (.int lv1), .val (.long bv1), .second, .val (.int lv2), .val (.long bv2), .second, .val (.int md), .val (.int v7), .val (.long v8), .second, .val (.ref b1), .val (.ref b14), .val (.int (1 : Int32)), .val (.int (0 : Int32))] []))
            refine OFin.back (fun _ hr => XS.iload X40.here hx rfl (hb hby at_134) rfl hr) ?_
            show OFin p e below s _ _ Q (T40.setTop (mkF m 136 #[.val (.int lv1), .val (.long bv1), .second, .val (.int lv2), .val (.long bv2), .second, .val (.int md), .val (.int v7), .val (.long v8), .second, .val (.ref b1), .val (.ref b14), .val (.int (1 : Int32)), .val (.int (0 : Int32))] [(.int (0 : Int32))]))
            refine OFin.back (fun _ hr => XS.ifNo X40.here hx rfl (hb hby at_136) rfl ((if0 _ _).trans (teq (by decide : (0 : Int32) = (0 : Int32))).2) hr) ?_
            show OFin p e below s _ _ Q (T40.setTop (mkF m 139 #[.val (.int lv1), .val (.long bv1), .second, .val (.int lv2), .val (.long bv2), .second, .val (.int md), .val (.int v7), .val (.long v8), .second, .val (.ref b1), .val (.ref b14), .val (.int (1 : Int32)), .val (.int (0 : Int32))] []))
            refine OFin.back (fun _ hr => XS.iconst X40.here hx rfl (hb hby at_139) hr) ?_
            show OFin p e below s _ _ Q (T40.setTop (mkF m 140 #[.val (.int lv1), .val (.long bv1), .second, .val (.int lv2), .val (.long bv2), .second, .val (.int md), .val (.int v7), .val (.long v8), .second, .val (.ref b1), .val (.ref b14), .val (.int (1 : Int32)), .val (.int (0 : Int32))] [(.int (1 : Int32))]))
            refine OFin.back (fun _ hr => XS.goto X40.here hx rfl (pc0 := 140) (pc' := 144) rfl (hb hby at_140) (by decide) (by decide) hr) ?_
            show OFin p e below s _ _ Q (T40.setTop (mkF m 144 #[.val (.int lv1), .val (.long bv1), .second, .val (.int lv2), .val (.long bv2), .second, .val (.int md), .val (.int v7), .val (.long v8), .second, .val (.ref b1), .val (.ref b14), .val (.int (1 : Int32)), .val (.int (0 : Int32))] [(.int (1 : Int32))]))
            exact OFin.outN (t := .boolean) X40 hx Bd.returns (by simp) Bd.notSynchronized (hb hby at_144) (by decide) (by decide) e40 (by rw [hQ]; exact ⟨rfl, N40⟩)
          · -- not (md &&& (4 : Int32)) = (0 : Int32)
            refine OFin.back (fun _ hr => XS.ifNo X26.here hx rfl (hb hby at_77) rfl ((if0 _ _).trans (feq hc77_36).1) hr) ?_
            show OFin p e below s _ _ Q (T26.setTop (mkF m 80 #[.val (.int lv1), .val (.long bv1), .second, .val (.int lv2), .val (.long bv2), .second, .val (.int md), .val (.int v7), .val (.long v8), .second, .val (.ref b1), .val (.ref b14), .val (.int (1 : Int32)), .unset] []))
            refine OFin.back (fun _ hr => XS.aload X26.here hx rfl (hb hby at_80) rfl rfl hr) ?_
            show OFin p e below s _ _ Q (T26.setTop (mkF m 82 #[.val (.int lv1), .val (.long bv1), .second, .val (.int lv2), .val (.long bv2), .second, .val (.int md), .val (.int v7), .val (.long v8), .second, .val (.ref b1), .val (.ref b14), .val (.int (1 : Int32)), .unset] [(.ref b1)]))
            refine OFin.back (fun _ hr => XS.lloadN X26.here hx rfl (hb hby at_82) rfl hr) ?_
            show OFin p e below s _ _ Q (T26.setTop (mkF m 83 #[.val (.int lv1), .val (.long bv1), .second, .val (.int lv2), .val (.long bv2), .second, .val (.int md), .val (.int v7), .val (.long v8), .second, .val (.ref b1), .val (.ref b14), .val (.int (1 : Int32)), .unset] [(.long bv1), (.ref b1)]))
            obtain ⟨_, _, ⟨T41, L41, k41, n41⟩, -, X41, ⟨Lc41, hQ41, l41, y41, z41⟩, st41⟩ := Jvm.LawKit.callS X26 hx (y := (⟨"java/lang/Long", "valueOf", "(J)Ljava/lang/Long;"⟩ : MethodName)) hown (mvT hZ (hw _ (List.mem_of_getElem? (i := 20) rfl))) (mvT hZ (hw _ (List.mem_of_getElem? (i := 21) rfl))) (mvT hZ (hw _ (List.mem_of_getElem? (i := 22) rfl))) (mvT hZ (hw _ (List.mem_of_getElem? (i := 23) rfl))) (by decide) (backOf (W := 1) (rm5 l Z a0 hw [] bv1 ac cl (T26.heap) n0 f32 (own_sta S1 f27) (Ar.ext f27.2) (fun u1 u2 => own_hc HC f27 u1 u2)) hZ (hw _ (List.mem_of_getElem? (i := 23) rfl)) (hw _ (List.mem_of_getElem? (i := 22) rfl)) (by decide) (by decide)) (g := (mkF m 83 #[.val (.int lv1), .val (.long bv1), .second, .val (.int lv2), .val (.long bv2), .second, .val (.int md), .val (.int v7), .val (.long v8), .second, .val (.ref b1), .val (.ref b14), .val (.int (1 : Int32)), .unset] [(.long bv1), (.ref b1)])) rfl (by rw [hml]; rfl) (argsL := [(.long bv1)]) (rest := [(.ref b1)]) (lenOf pd0_2 rfl) rfl (by show 2 * 0 + _ ≤ _; exact Nat.le_of_eq rfl) (hb hby at_83) (fun _ _ => ⟨rfl, rfl, (by decide : 2 + 1 ≤ _), (by decide : 4 + 1 ≤ _)⟩)
            dsimp only [Pt.U, Pt.locs, Pt.cells, Pt.slots] at X41 l41 y41 z41 st41 hQ41
            subst l41 y41 z41
            obtain ⟨x41, rfl, N41q, K41, EL41⟩ := hQ41
            have N41 := Fr.app N26 N41q
            refine OFin.back st41 ?_
            have f42 := f27.keep K41 all0
            have f43 := f28.keep K41
            have f44 := f29.keep K41 nin0
            have f45 := f30.keep K41 nin0
            have f46 := EX26.keep K41
            have f47 := FA26.keep K41 nin0
            have f48 := FB26.keep K41 nin0
            have f49 := Nat.le_trans f32 K41.1
            have f50 := f33.trans K41 all0
            show OFin p e below s _ _ Q (T41.setTop (mkF m 86 #[.val (.int lv1), .val (.long bv1), .second, .val (.int lv2), .val (.long bv2), .second, .val (.int md), .val (.int v7), .val (.long v8), .second, .val (.ref b1), .val (.ref b14), .val (.int (1 : Int32)), .unset] [(.ref x41), (.ref b1)]))
            obtain ⟨cq51, kq51, q51a, q51b, q51c⟩ := isOf hZ rfl f43
            obtain ⟨_, _, ⟨T51, L51, k51, n51⟩, -, X51, ⟨Lc51, hQ51, l51, y51, z51⟩, st51⟩ := X41.virtualBack hx (y := (⟨"com/example/mortise/mortise/schema/ContentModel$Drift", "equals", "(Ljava/lang/Object;)Z"⟩ : MethodName)) (z := (⟨"com/example/mortise/mortise/schema/ContentModel$Drift", "equals", "(Ljava/lang/Object;)Z"⟩ : MethodName)) hown (mvT hZ (hw _ (List.mem_of_getElem? (i := 13) rfl))) (mvT hZ (hw _ (List.mem_of_getElem? (i := 14) rfl))) (notFace_of_selects (args := #[]) (mvT hZ (hw _ (List.mem_of_getElem? (i := 16) rfl)))) (mvT hZ (hw _ (List.mem_of_getElem? (i := 16) rfl))) (mvT hZ (hw _ (List.mem_of_getElem? (i := 15) rfl))) (by decide) (backOf (W := 0) (rm2l l Z a0 hw [] b1 x41 (T41.heap) n0 f49 EL41) hZ (hw _ (List.mem_of_getElem? (i := 17) rfl)) (hw _ (List.mem_of_getElem? (i := 2) rfl)) (by decide) (by decide)) q51a q51c (g := (mkF m 86 #[.val (.int lv1), .val (.long bv1), .second, .val (.int lv2), .val (.long bv2), .second, .val (.int md), .val (.int v7), .val (.long v8), .second, .val (.ref b1), .val (.ref b14), .val (.int (1 : Int32)), .unset] [(.ref x41), (.ref b1)])) rfl (by rw [hml]; rfl) (Steps.refl _) (argsL := [(.ref x41)]) (rest := []) (lenOf pd0_1 rfl) rfl (by show 2 * 0 + _ ≤ _; exact Nat.le_of_eq rfl) (hb hby at_86) (fun _ _ => ⟨rfl, rfl, (by decide : 3 + 0 ≤ _), (by decide : 5 + 0 ≤ _)⟩)
            dsimp only [Pt.U, Pt.locs, Pt.cells, Pt.slots] at X51 l51 y51 z51 st51 hQ51
            subst l51 y51 z51
            obtain ⟨rfl, N51q, e51⟩ := hQ51
            have N51 := Fr.app N41 N51q
            refine OFin.via st51 ?_
            show OFin p e below s _ _ Q (T51.setTop (mkF m 89 #[.val (.int lv1), .val (.long bv1), .second, .val (.int lv2), .val (.long bv2), .second, .val (.int md), .val (.int v7), .val (.long v8), .second, .val (.ref b1), .val (.ref b14), .val (.int (1 : Int32)), .unset] [(.int (0 : Int32))]))
            refine OFin.back (fun _ hr => XS.goto X51.here hx rfl (pc0 := 89) (pc' := 98) rfl (hb hby at_89) (by decide) (by decide) hr) ?_
            show OFin p e below s _ _ Q (T51.setTop (mkF m 98 #[.val (.int lv1), .val (.long bv1), .second, .val (.int lv2), .val (.long bv2), .second, .val (.int md), .val (.int v7), .val (.long v8), .second, .val (.ref b1), .val (.ref b14), .val (.int (1 : Int32)), .unset] [(.int (0 : Int32))]))
            refine OFin.back (fun _ hr => XS.istore X51.here hx rfl (hb hby at_98) rfl (l' := #[.val (.int lv1), .val (.long bv1), .second, .val (.int lv2), .val (.long bv2), .second, .val (.int md), .val (.int v7), .val (.long v8), .second, .val (.ref b1), .val (.ref b14), .val (.int (1 : Int32)), .val (.int (0 : Int32))]) rfl hr) ?_
            show OFin p e below s _ _ Q (T51.setTop (mkF m 100 #[.val (.int lv1), .val (.long bv1), .second, .val (.int lv2), .val (.long bv2), .second, .val (.int md), .val (.int v7), .val (.long v8), .second, .val (.ref b1), .val (.ref b14), .val (.int (1 : Int32)), .val (.int (0 : Int32))] []))
            refine OFin.back (fun _ hr => XS.aload X51.here hx rfl (hb hby at_100) rfl rfl hr) ?_
            show OFin p e below s _ _ Q (T51.setTop (mkF m 102 #[.val (.int lv1), .val (.long bv1), .second, .val (.int lv2), .val (.long bv2), .second, .val (.int md), .val (.int v7), .val (.long v8), .second, .val (.ref b1), .val (.ref b14), .val (.int (1 : Int32)), .val (.int (0 : Int32))] [(.ref b1)]))
            refine OFin.back (fun _ hr => XS.aload X51.here hx rfl (hb hby at_102) rfl rfl hr) ?_
            show OFin p e below s _ _ Q (T51.setTop (mkF m 104 #[.val (.int lv1), .val (.long bv1), .second, .val (.int lv2), .val (.long bv2), .second, .val (.int md), .val (.int v7), .val (.long v8), .second, .val (.ref b1), .val (.ref b14), .val (.int (1 : Int32)), .val (.int (0 : Int32))] [(.ref b14), (.ref b1)]))
            obtain ⟨cq52, kq52, q52a, q52b, q52c⟩ := isOf hZ e51 f43
            obtain ⟨_, _, ⟨T52, L52, k52, n52⟩, -, X52, ⟨Lc52, hQ52, l52, y52, z52⟩, st52⟩ := X51.virtualBack hx (y := (⟨"com/example/mortise/mortise/schema/ContentModel$Drift", "equals", "(Ljava/lang/Object;)Z"⟩ : MethodName)) (z := (⟨"com/example/mortise/mortise/schema/ContentModel$Drift", "equals", "(Ljava/lang/Object;)Z"⟩ : MethodName)) hown (mvT hZ (hw _ (List.mem_of_getElem? (i := 13) rfl))) (mvT hZ (hw _ (List.mem_of_getElem? (i := 14) rfl))) (notFace_of_selects (args := #[]) (mvT hZ (hw _ (List.mem_of_getElem? (i := 16) rfl)))) (mvT hZ (hw _ (List.mem_of_getElem? (i := 16) rfl))) (mvT hZ (hw _ (List.mem_of_getElem? (i := 15) rfl))) (by decide) (backOf (W := 0) (rm2d l Z a0 hw [] b1 b14 lv1 bv1 v7 v8 (T41.heap) n0 f49 f44 f45 f47 f48 f46) hZ (hw _ (List.mem_of_getElem? (i := 17) rfl)) (hw _ (List.mem_of_getElem? (i := 2) rfl)) (by decide) (by decide)) q52a q52c (g := (mkF m 104 #[.val (.int lv1), .val (.long bv1), .second, .val (.int lv2), .val (.long bv2), .second, .val (.int md), .val (.int v7), .val (.long v8), .second, .val (.ref b1), .val (.ref b14), .val (.int (1 : Int32)), .val (.int (0 : Int32))] [(.ref b14), (.ref b1)])) rfl (by rw [hml]; rfl) (Steps.refl _) (argsL := [(.ref b14)]) (rest := []) (lenOf pd0_1 rfl) rfl (by show 2 * 0 + _ ≤ _; exact Nat.le_of_eq rfl) (hb hby at_104) (fun _ _ => ⟨rfl, e51, (by decide : 3 + 0 ≤ _), (by decide : 5 + 0 ≤ _)⟩)
            dsimp only [Pt.U, Pt.locs, Pt.cells, Pt.slots] at X52 l52 y52 z52 st52 hQ52
            subst l52 y52 z52
            obtain ⟨rfl, N52q, e52⟩ := hQ52
            have N52 := Fr.app N51 N52q
            refine OFin.via st52 ?_
            rw [show (own_eq lv1 bv1 v7 v8) = (1 : Int32) from own_eqT hc56_34 ((lw_eq _ _).mp hc63_35)]
            show OFin p e below s _ _ Q (T52.setTop (mkF m 107 #[.val (.int lv1), .val (.long bv1), .second, .val (.int lv2), .val (.long bv2), .second, .val (.int md), .val (.int v7), .val (.long v8), .second, .val (.ref b1), .val (.ref b14), .val (.int (1 : Int32)), .val (.int (0 : Int32))] [(.int (1 : Int32))]))
            refine OFin.back (fun _ hr => XS.iload X52.here hx rfl (hb hby at_107) rfl hr) ?_
            show OFin p e below s _ _ Q (T52.setTop (mkF m 109 #[.val (.int lv1), .val (.long bv1), .second, .val (.int lv2), .val (.long bv2), .second, .val (.int md), .val (.int v7), .val (.long v8), .second, .val (.ref b1), .val (.ref b14), .val (.int (1 : Int32)), .val (.int (0 : Int32))] [(.int (1 : Int32)), (.int (1 : Int32))]))
            refine OFin.back (fun _ hr => XS.icmpNo X52.here hx rfl (hb hby at_109) rfl (teq (by decide : (1 : Int32) = (1 : Int32))).2 hr) ?_
            show OFin p e below s _ _ Q (T52.setTop (mkF m 112 #[.val (.int lv1), .val (.long bv1), .second, .val (.int lv2), .val (.long bv2), .second, .val (.int md), .val (.int v7), .val (.long v8), .second, .val (.ref b1), .val (.ref b14), .val (.int (1 : Int32)), .val (.int (0 : Int32))] []))
            refine OFin.back (fun _ hr => XS.aload X52.here hx rfl (hb hby at_112) rfl rfl hr) ?_
            show OFin p e below s _ _ Q (T52.setTop (mkF m 114 #[.val (.int lv1), .val (.long bv1), .second, .val (.int lv2), .val (.long bv2), .second, .val (.int md), .val (.int v7), .val (.long v8), .second, .val (.ref b1), .val (.ref b14), .val (.int (1 : Int32)), .val (.int (0 : Int32))] [(.ref b14)]))
            refine OFin.back (fun _ hr => XS.aload X52.here hx rfl (hb hby at_114) rfl rfl hr) ?_
            show OFin p e below s _ _ Q (T52.setTop (mkF m 116 #[.val (.int lv1), .val (.long bv1), .second, .val (.int lv2), .val (.long bv2), .second, .val (.int md), .val (.int v7), .val (.long v8), .second, .val (.ref b1), .val (.ref b14), .val (.int (1 : Int32)), .val (.int (0 : Int32))] [(.ref b1), (.ref b14)]))
            obtain ⟨cq53, kq53, q53a, q53b, q53c⟩ := isOf hZ e52 f46
            obtain ⟨_, _, ⟨T53, L53, k53, n53⟩, -, X53, ⟨Lc53, hQ53, l53, y53, z53⟩, st53⟩ := X52.virtualBack hx (y := (⟨"com/example/mortise/mortise/schema/ContentModel$Drift", "equals", "(Ljava/lang/Object;)Z"⟩ : MethodName)) (z := (⟨"com/example/mortise/mortise/schema/ContentModel$Drift", "equals", "(Ljava/lang/Object;)Z"⟩ : MethodName)) hown (mvT hZ (hw _ (List.mem_of_getElem? (i := 13) rfl))) (mvT hZ (hw _ (List.mem_of_getElem? (i := 14) rfl))) (notFace_of_selects (args := #[]) (mvT hZ (hw _ (List.mem_of_getElem? (i := 16) rfl)))) (mvT hZ (hw _ (List.mem_of_getElem? (i := 16) rfl))) (mvT hZ (hw _ (List.mem_of_getElem? (i := 15) rfl))) (by decide) (backOf (W := 0) (rm2d l Z a0 hw [] b14 b1 v7 v8 lv1 bv1 (T41.heap) n0 f49 f47 f48 f44 f45 f43) hZ (hw _ (List.mem_of_getElem? (i := 17) rfl)) (hw _ (List.mem_of_getElem? (i := 2) rfl)) (by decide) (by decide)) q53a q53c (g := (mkF m 116 #[.val (.int lv1), .val (.long bv1), .second, .val (.int lv2), .val (.long bv2), .second, .val (.int md), .val (.int v7), .val (.long v8), .second, .val (.ref b1), .val (.ref b14), .val (.int (1 : Int32)), .val (.int (0 : Int32))] [(.ref b1), (.ref b14)])) rfl (by rw [hml]; rfl) (Steps.refl _) (argsL := [(.ref b1)]) (rest := []) (lenOf pd0_1 rfl) rfl (by show 2 * 0 + _ ≤ _; exact Nat.le_of_eq rfl) (hb hby at_116) (fun _ _ => ⟨rfl, e52, (by decide : 3 + 0 ≤ _), (by decide : 5 + 0 ≤ _)⟩)
            dsimp only [Pt.U, Pt.locs, Pt.cells, Pt.slots] at X53 l53 y53 z53 st53 hQ53
            subst l53 y53 z53
            obtain ⟨rfl, N53q, e53⟩ := hQ53
            have N53 := Fr.app N52 N53q
            refine OFin.via st53 ?_
            rw [show (own_eq v7 v8 lv1 bv1) = (1 : Int32) from own_eqT hc56_34.symm ((lw_eq _ _).mp hc63_35).symm]
            show OFin p e below s _ _ Q (T53.setTop (mkF m 119 #[.val (.int lv1), .val (.long bv1), .second, .val (.int lv2), .val (.long bv2), .second, .val (.int md), .val (.int v7), .val (.long v8), .second, .val (.ref b1), .val (.ref b14), .val (.int (1 : Int32)), .val (.int (0 : Int32))] [(.int (1 : Int32))]))
            refine OFin.back (fun _ hr => XS.iload X53.here hx rfl (hb hby at_119) rfl hr) ?_
            show OFin p e below s _ _ Q (T53.setTop (mkF m 121 #[.val (.int lv1), .val (.long bv1), .second, .val (.int lv2), .val (.long bv2), .second, .val (.int md), .val (.int v7), .val (.long v8), .second, .val (.ref b1), .val (.ref b14), .val (.int (1 : Int32)), .val (.int (0 : Int32))] [(.int (1 : Int32)), (.int (1 : Int32))]))
            refine OFin.back (fun _ hr => XS.icmpNo X53.here hx rfl (hb hby at_121) rfl (teq (by decide : (1 : Int32) = (1 : Int32))).2 hr) ?_
            show OFin p e below s _ _ Q (T53.setTop (mkF m 124 #[.val (.int lv1), .val (.long bv1), .second, .val (.int lv2), .val (.long bv2), .second, .val (.int md), .val (.int v7), .val (.long v8), .second, .val (.ref b1), .val (.ref b14), .val (.int (1 : Int32)), .val (.int (0 : Int32))] []))
            refine OFin.back (fun _ hr => XS.aload X53.here hx rfl (hb hby at_124) rfl rfl hr) ?_
            show OFin p e below s _ _ Q (T53.setTop (mkF m 126 #[.val (.int lv1), .val (.long bv1), .second, .val (.int lv2), .val (.long bv2), .second, .val (.int md), .val (.int v7), .val (.long v8), .second, .val (.ref b1), .val (.ref b14), .val (.int (1 : Int32)), .val (.int (0 : Int32))] [(.ref b1)]))
            refine OFin.back (fun _ hr => XS.aload X53.here hx rfl (hb hby at_126) rfl rfl hr) ?_
            show OFin p e below s _ _ Q (T53.setTop (mkF m 128 #[.val (.int lv1), .val (.long bv1), .second, .val (.int lv2), .val (.long bv2), .second, .val (.int md), .val (.int v7), .val (.long v8), .second, .val (.ref b1), .val (.ref b14), .val (.int (1 : Int32)), .val (.int (0 : Int32))] [(.ref b1), (.ref b1)]))
            obtain ⟨cq54, kq54, q54a, q54b, q54c⟩ := isOf hZ e53 f43
            obtain ⟨_, _, ⟨T54, L54, k54, n54⟩, -, X54, ⟨Lc54, hQ54, l54, y54, z54⟩, st54⟩ := X53.virtualBack hx (y := (⟨"com/example/mortise/mortise/schema/ContentModel$Drift", "equals", "(Ljava/lang/Object;)Z"⟩ : MethodName)) (z := (⟨"com/example/mortise/mortise/schema/ContentModel$Drift", "equals", "(Ljava/lang/Object;)Z"⟩ : MethodName)) hown (mvT hZ (hw _ (List.mem_of_getElem? (i := 13) rfl))) (mvT hZ (hw _ (List.mem_of_getElem? (i := 14) rfl))) (notFace_of_selects (args := #[]) (mvT hZ (hw _ (List.mem_of_getElem? (i := 16) rfl)))) (mvT hZ (hw _ (List.mem_of_getElem? (i := 16) rfl))) (mvT hZ (hw _ (List.mem_of_getElem? (i := 15) rfl))) (by decide) (backOf (W := 0) (rm2d l Z a0 hw [] b1 b1 lv1 bv1 lv1 bv1 (T41.heap) n0 f49 f44 f45 f44 f45 f43) hZ (hw _ (List.mem_of_getElem? (i := 17) rfl)) (hw _ (List.mem_of_getElem? (i := 2) rfl)) (by decide) (by decide)) q54a q54c (g := (mkF m 128 #[.val (.int lv1), .val (.long bv1), .second, .val (.int lv2), .val (.long bv2), .second, .val (.int md), .val (.int v7), .val (.long v8), .second, .val (.ref b1), .val (.ref b14), .val (.int (1 : Int32)), .val (.int (0 : Int32))] [(.ref b1), (.ref b1)])) rfl (by rw [hml]; rfl) (Steps.refl _) (argsL := [(.ref b1)]) (rest := []) (lenOf pd0_1 rfl) rfl (by show 2 * 0 + _ ≤ _; exact Nat.le_of_eq rfl) (hb hby at_128) (fun _ _ => ⟨rfl, e53, (by decide : 3 + 0 ≤ _), (by decide : 5 + 0 ≤ _)⟩)
            dsimp only [Pt.U, Pt.locs, Pt.cells, Pt.slots] at X54 l54 y54 z54 st54 hQ54
            subst l54 y54 z54
            obtain ⟨rfl, N54q, e54⟩ := hQ54
            have N54 := Fr.app N53 N54q
            refine OFin.via st54 ?_
            rw [show (own_eq lv1 bv1 lv1 bv1) = (1 : Int32) from own_eqT rfl rfl]
            show OFin p e below s _ _ Q (T54.setTop (mkF m 131 #[.val (.int lv1), .val (.long bv1), .second, .val (.int lv2), .val (.long bv2), .second, .val (.int md), .val (.int v7), .val (.long v8), .second, .val (.ref b1), .val (.ref b14), .val (.int (1 : Int32)), .val (.int (0 : Int32))] [(.int (1 : Int32))]))
            refine OFin.back (fun _ hr => XS.ifNo X54.here hx rfl (hb hby at_131) rfl ((if0 _ _).trans (feq (by decide : ¬ ((1 : Int32) = (0 : Int32)))).1) hr) ?_
            show OFin p e below s _ _ Q (T54.setTop (mkF m 134 #[.val (.int lv1), .val (.long bv1), .second, .val (.int lv2), .val (.long bv2), .second, .val (.int md), .val (.int v7), .val (.long v8), .second, .val (.ref b1), .val (.ref b14), .val (.int (1 : Int32)), .val (.int (0 : Int32))] []))
            refine OFin.back (fun _ hr => XS.iload X54.here hx rfl (hb hby at_134) rfl hr) ?_
            show OFin p e below s _ _ Q (T54.setTop (mkF m 136 #[.val (.int lv1), .val (.long bv1), .second, .val (.int lv2), .val (.long bv2), .second, .val (.int md), .val (.int v7), .val (.long v8), .second, .val (.ref b1), .val (.ref b14), .val (.int (1 : Int32)), .val (.int (0 : Int32))] [(.int (0 : Int32))]))
            refine OFin.back (fun _ hr => XS.ifNo X54.here hx rfl (hb hby at_136) rfl ((if0 _ _).trans (teq (by decide : (0 : Int32) = (0 : Int32))).2) hr) ?_
            show OFin p e below s _ _ Q (T54.setTop (mkF m 139 #[.val (.int lv1), .val (.long bv1), .second, .val (.int lv2), .val (.long bv2), .second, .val (.int md), .val (.int v7), .val (.long v8), .second, .val (.ref b1), .val (.ref b14), .val (.int (1 : Int32)), .val (.int (0 : Int32))] []))
            refine OFin.back (fun _ hr => XS.iconst X54.here hx rfl (hb hby at_139) hr) ?_
            show OFin p e below s _ _ Q (T54.setTop (mkF m 140 #[.val (.int lv1), .val (.long bv1), .second, .val (.int lv2), .val (.long bv2), .second, .val (.int md), .val (.int v7), .val (.long v8), .second, .val (.ref b1), .val (.ref b14), .val (.int (1 : Int32)), .val (.int (0 : Int32))] [(.int (1 : Int32))]))
            refine OFin.back (fun _ hr => XS.goto X54.here hx rfl (pc0 := 140) (pc' := 144) rfl (hb hby at_140) (by decide) (by decide) hr) ?_
            show OFin p e below s _ _ Q (T54.setTop (mkF m 144 #[.val (.int lv1), .val (.long bv1), .second, .val (.int lv2), .val (.long bv2), .second, .val (.int md), .val (.int v7), .val (.long v8), .second, .val (.ref b1), .val (.ref b14), .val (.int (1 : Int32)), .val (.int (0 : Int32))] [(.int (1 : Int32))]))
            exact OFin.outN (t := .boolean) X54 hx Bd.returns (by simp) Bd.notSynchronized (hb hby at_144) (by decide) (by decide) e54 (by rw [hQ]; exact ⟨rfl, N54⟩)
        · -- not (lcmpW bv1 v8) = (0 : Int32)
          refine OFin.back (fun _ hr => XS.ifYes X26.here hx rfl (pc0 := 63) (pc' := 70) rfl (hb hby at_63) rfl ((if0 _ _).trans (feq hc63_35).2) (by decide) (by decide) hr) ?_
          show OFin p e below s _ _ Q (T26.setTop (mkF m 70 #[.val (.int lv1), .val (.long bv1), .second, .val (.int lv2), .val (.long bv2), .second, .val (.int md), .val (.int v7), .val (.long v8), .second, .val (.ref b1), .val (.ref b14), .unset, .unset] []))
          refine OFin.back (fun _ hr => XS.iconst X26.here hx rfl (hb hby at_70) hr) ?_
          show OFin p e below s _ _ Q (T26.setTop (mkF m 71 #[.val (.int lv1), .val (.long bv1), .second, .val (.int lv2), .val (.long bv2), .second, .val (.int md), .val (.int v7), .val (.long v8), .second, .val (.ref b1), .val (.ref b14), .unset, .unset] [(.int (0 : Int32))]))
          refine OFin.back (fun _ hr => XS.istore X26.here hx rfl (hb hby at_71) rfl (l' := #[.val (.int lv1), .val (.long bv1), .second, .val (.int lv2), .val (.long bv2), .second, .val (.int md), .val (.int v7), .val (.long v8), .second, .val (.ref b1), .val (.ref b14), .val (.int (0 : Int32)), .unset]) rfl hr) ?_
          show OFin p e below s _ _ Q (T26.setTop (mkF m 73 #[.val (.int lv1), .val (.long bv1), .second, .val (.int lv2), .val (.long bv2), .second, .val (.int md), .val (.int v7), .val (.long v8), .second, .val (.ref b1), .val (.ref b14), .val (.int (0 : Int32)), .unset] []))
          refine OFin.back (fun _ hr => XS.iload X26.here hx rfl (hb hby at_73) rfl hr) ?_
          show OFin p e below s _ _ Q (T26.setTop (mkF m 75 #[.val (.int lv1), .val (.long bv1), .second, .val (.int lv2), .val (.long bv2), .second, .val (.int md), .val (.int v7), .val (.long v8), .second, .val (.ref b1), .val (.ref b14), .val (.int (0 : Int32)), .unset] [(.int md)]))
          refine OFin.back (fun _ hr => XS.iconst X26.here hx rfl (hb hby at_75) hr) ?_
          show OFin p e below s _ _ Q (T26.setTop (mkF m 76 #[.val (.int lv1), .val (.long bv1), .second, .val (.int lv2), .val (.long bv2), .second, .val (.int md), .val (.int v7), .val (.long v8), .second, .val (.ref b1), .val (.ref b14), .val (.int (0 : Int32)), .unset] [(.int (4 : Int32)), (.int md)]))
          refine OFin.back (fun _ hr => XS.iand X26.here hx rfl (hb hby at_76) rfl hr) ?_
          show OFin p e below s _ _ Q (T26.setTop (mkF m 77 #[.val (.int lv1), .val (.long bv1), .second, .val (.int lv2), .val (.long bv2), .second, .val (.int md), .val (.int v7), .val (.long v8), .second, .val (.ref b1), .val (.ref b14), .val (.int (0 : Int32)), .unset] [(.int (md &&& (4 : Int32)))]))
          by_cases hc77_55 : (md &&& (4 : Int32)) = (0 : Int32)
          · -- (md &&& (4 : Int32)) = (0 : Int32)
            refine OFin.back (fun _ hr => XS.ifYes X26.here hx rfl (pc0 := 77) (pc' := 92) rfl (hb hby at_77) rfl ((if0 _ _).trans (teq hc77_55).1) (by decide) (by decide) hr) ?_
            show OFin p e below s _ _ Q (T26.setTop (mkF m 92 #[.val (.int lv1), .val (.long bv1), .second, .val (.int lv2), .val (.long bv2), .second, .val (.int md), .val (.int v7), .val (.long v8), .second, .val (.ref b1), .val (.ref b14), .val (.int (0 : Int32)), .unset] []))
            refine OFin.back (fun _ hr => XS.aload X26.here hx rfl (hb hby at_92) rfl rfl hr) ?_
            show OFin p e below s _ _ Q (T26.setTop (mkF m 94 #[.val (.int lv1), .val (.long bv1), .second, .val (.int lv2), .val (.long bv2), .second, .val (.int md), .val (.int v7), .val (.long v8), .second, .val (.ref b1), .val (.ref b14), .val (.int (0 : Int32)), .unset] [(.ref b1)]))
            refine OFin.back (fun _ hr => XS.aconstNull X26.here hx rfl (hb hby at_94) hr) ?_
            show OFin p e below s _ _ Q (T26.setTop (mkF m 95 #[.val (.int lv1), .val (.long bv1), .second, .val (.int lv2), .val (.long bv2), .second, .val (.int md), .val (.int v7), .val (.long v8), .second, .val (.ref b1), .val (.ref b14), .val (.int (0 : Int32)), .unset] [.null, (.ref b1)]))
            obtain ⟨cq56, kq56, q56a, q56b, q56c⟩ := isOf hZ rfl f28
            obtain ⟨_, _, ⟨T56, L56, k56, n56⟩, -, X56, ⟨Lc56, hQ56, l56, y56, z56⟩, st56⟩ := X26.virtualBack hx (y := (⟨"com/example/mortise/mortise/schema/ContentModel$Drift", "equals", "(Ljava/lang/Object;)Z"⟩ : MethodName)) (z := (⟨"com/example/mortise/mortise/schema/ContentModel$Drift", "equals", "(Ljava/lang/Object;)Z"⟩ : MethodName)) hown (mvT hZ (hw _ (List.mem_of_getElem? (i := 13) rfl))) (mvT hZ (hw _ (List.mem_of_getElem? (i := 14) rfl))) (notFace_of_selects (args := #[]) (mvT hZ (hw _ (List.mem_of_getElem? (i := 16) rfl)))) (mvT hZ (hw _ (List.mem_of_getElem? (i := 16) rfl))) (mvT hZ (hw _ (List.mem_of_getElem? (i := 15) rfl))) (by decide) (backOf (W := 0) (rm2n l Z a0 hw [] b1 (T26.heap) n0 f32) hZ (hw _ (List.mem_of_getElem? (i := 17) rfl)) (hw _ (List.mem_of_getElem? (i := 2) rfl)) (by decide) (by decide)) q56a q56c (g := (mkF m 95 #[.val (.int lv1), .val (.long bv1), .second, .val (.int lv2), .val (.long bv2), .second, .val (.int md), .val (.int v7), .val (.long v8), .second, .val (.ref b1), .val (.ref b14), .val (.int (0 : Int32)), .unset] [.null, (.ref b1)])) rfl (by rw [hml]; rfl) (Steps.refl _) (argsL := [.null]) (rest := []) (lenOf pd0_1 rfl) rfl (by show 2 * 0 + _ ≤ _; exact Nat.le_of_eq rfl) (hb hby at_95) (fun _ _ => ⟨rfl, rfl, (by decide : 2 + 0 ≤ _), (by decide : 4 + 0 ≤ _)⟩)
            dsimp only [Pt.U, Pt.locs, Pt.cells, Pt.slots] at X56 l56 y56 z56 st56 hQ56
            subst l56 y56 z56
            obtain ⟨rfl, N56q, e56⟩ := hQ56
            have N56 := Fr.app N26 N56q
            refine OFin.via st56 ?_
            show OFin p e below s _ _ Q (T56.setTop (mkF m 98 #[.val (.int lv1), .val (.long bv1), .second, .val (.int lv2), .val (.long bv2), .second, .val (.int md), .val (.int v7), .val (.long v8), .second, .val (.ref b1), .val (.ref b14), .val (.int (0 : Int32)), .unset] [(.int (0 : Int32))]))
            refine OFin.back (fun _ hr => XS.istore X56.here hx rfl (hb hby at_98) rfl (l' := #[.val (.int lv1), .val (.long bv1), .second, .val (.int lv2), .val (.long bv2), .second, .val (.int md), .val (.int v7), .val (.long v8), .second, .val (.ref b1), .val (.ref b14), .val (.int (0 : Int32)), .val (.int (0 : Int32))]) rfl hr) ?_
            show OFin p e below s _ _ Q (T56.setTop (mkF m 100 #[.val (.int lv1), .val (.long bv1), .second, .val (.int lv2), .val (.long bv2), .second, .val (.int md), .val (.int v7), .val (.long v8), .second, .val (.ref b1), .val (.ref b14), .val (.int (0 : Int32)), .val (.int (0 : Int32))] []))
            refine OFin.back (fun _ hr => XS.aload X56.here hx rfl (hb hby at_100) rfl rfl hr) ?_
            show OFin p e below s _ _ Q (T56.setTop (mkF m 102 #[.val (.int lv1), .val (.long bv1), .second, .val (.int lv2), .val (.long bv2), .second, .val (.int md), .val (.int v7), .val (.long v8), .second, .val (.ref b1), .val (.ref b14), .val (.int (0 : Int32)), .val (.int (0 : Int32))] [(.ref b1)]))
            refine OFin.back (fun _ hr => XS.aload X56.here hx rfl (hb hby at_102) rfl rfl hr) ?_
            show OFin p e below s _ _ Q (T56.setTop (mkF m 104 #[.val (.int lv1), .val (.long bv1), .second, .val (.int lv2), .val (.long bv2), .second, .val (.int md), .val (.int v7), .val (.long v8), .second, .val (.ref b1), .val (.ref b14), .val (.int (0 : Int32)), .val (.int (0 : Int32))] [(.ref b14), (.ref b1)]))
            obtain ⟨cq57, kq57, q57a, q57b, q57c⟩ := isOf hZ e56 f28
            obtain ⟨_, _, ⟨T57, L57, k57, n57⟩, -, X57, ⟨Lc57, hQ57, l57, y57, z57⟩, st57⟩ := X56.virtualBack hx (y := (⟨"com/example/mortise/mortise/schema/ContentModel$Drift", "equals", "(Ljava/lang/Object;)Z"⟩ : MethodName)) (z := (⟨"com/example/mortise/mortise/schema/ContentModel$Drift", "equals", "(Ljava/lang/Object;)Z"⟩ : MethodName)) hown (mvT hZ (hw _ (List.mem_of_getElem? (i := 13) rfl))) (mvT hZ (hw _ (List.mem_of_getElem? (i := 14) rfl))) (notFace_of_selects (args := #[]) (mvT hZ (hw _ (List.mem_of_getElem? (i := 16) rfl)))) (mvT hZ (hw _ (List.mem_of_getElem? (i := 16) rfl))) (mvT hZ (hw _ (List.mem_of_getElem? (i := 15) rfl))) (by decide) (backOf (W := 0) (rm2d l Z a0 hw [] b1 b14 lv1 bv1 v7 v8 (T26.heap) n0 f32 f29 f30 FA26 FB26 EX26) hZ (hw _ (List.mem_of_getElem? (i := 17) rfl)) (hw _ (List.mem_of_getElem? (i := 2) rfl)) (by decide) (by decide)) q57a q57c (g := (mkF m 104 #[.val (.int lv1), .val (.long bv1), .second, .val (.int lv2), .val (.long bv2), .second, .val (.int md), .val (.int v7), .val (.long v8), .second, .val (.ref b1), .val (.ref b14), .val (.int (0 : Int32)), .val (.int (0 : Int32))] [(.ref b14), (.ref b1)])) rfl (by rw [hml]; rfl) (Steps.refl _) (argsL := [(.ref b14)]) (rest := []) (lenOf pd0_1 rfl) rfl (by show 2 * 0 + _ ≤ _; exact Nat.le_of_eq rfl) (hb hby at_104) (fun _ _ => ⟨rfl, e56, (by decide : 2 + 0 ≤ _), (by decide : 4 + 0 ≤ _)⟩)
            dsimp only [Pt.U, Pt.locs, Pt.cells, Pt.slots] at X57 l57 y57 z57 st57 hQ57
            subst l57 y57 z57
            obtain ⟨rfl, N57q, e57⟩ := hQ57
            have N57 := Fr.app N56 N57q
            refine OFin.via st57 ?_
            rw [show (own_eq lv1 bv1 v7 v8) = (0 : Int32) from own_eqF (fun q => hc63_35 ((lw_eq _ _).mpr q.2))]
            show OFin p e below s _ _ Q (T57.setTop (mkF m 107 #[.val (.int lv1), .val (.long bv1), .second, .val (.int lv2), .val (.long bv2), .second, .val (.int md), .val (.int v7), .val (.long v8), .second, .val (.ref b1), .val (.ref b14), .val (.int (0 : Int32)), .val (.int (0 : Int32))] [(.int (0 : Int32))]))
            refine OFin.back (fun _ hr => XS.iload X57.here hx rfl (hb hby at_107) rfl hr) ?_
            show OFin p e below s _ _ Q (T57.setTop (mkF m 109 #[.val (.int lv1), .val (.long bv1), .second, .val (.int lv2), .val (.long bv2), .second, .val (.int md), .val (.int v7), .val (.long v8), .second, .val (.ref b1), .val (.ref b14), .val (.int (0 : Int32)), .val (.int (0 : Int32))] [(.int (0 : Int32)), (.int (0 : Int32))]))
            refine OFin.back (fun _ hr => XS.icmpNo X57.here hx rfl (hb hby at_109) rfl (teq (by decide : (0 : Int32) = (0 : Int32))).2 hr) ?_
            show OFin p e below s _ _ Q (T57.setTop (mkF m 112 #[.val (.int lv1), .val (.long bv1), .second, .val (.int lv2), .val (.long bv2), .second, .val (.int md), .val (.int v7), .val (.long v8), .second, .val (.ref b1), .val (.ref b14), .val (.int (0 : Int32)), .val (.int (0 : Int32))] []))
            refine OFin.back (fun _ hr => XS.aload X57.here hx rfl (hb hby at_112) rfl rfl hr) ?_
            show OFin p e below s _ _ Q (T57.setTop (mkF m 114 #[.val (.int lv1), .val (.long bv1), .second, .val (.int lv2), .val (.long bv2), .second, .val (.int md), .val (.int v7), .val (.long v8), .second, .val (.ref b1), .val (.ref b14), .val (.int (0 : Int32)), .val (.int (0 : Int32))] [(.ref b14)]))
            refine OFin.back (fun _ hr => XS.aload X57.here hx rfl (hb hby at_114) rfl rfl hr) ?_
            show OFin p e below s _ _ Q (T57.setTop (mkF m 116 #[.val (.int lv1), .val (.long bv1), .second, .val (.int lv2), .val (.long bv2), .second, .val (.int md), .val (.int v7), .val (.long v8), .second, .val (.ref b1), .val (.ref b14), .val (.int (0 : Int32)), .val (.int (0 : Int32))] [(.ref b1), (.ref b14)]))
            obtain ⟨cq58, kq58, q58a, q58b, q58c⟩ := isOf hZ e57 EX26
            obtain ⟨_, _, ⟨T58, L58, k58, n58⟩, -, X58, ⟨Lc58, hQ58, l58, y58, z58⟩, st58⟩ := X57.virtualBack hx (y := (⟨"com/example/mortise/mortise/schema/ContentModel$Drift", "equals", "(Ljava/lang/Object;)Z"⟩ : MethodName)) (z := (⟨"com/example/mortise/mortise/schema/ContentModel$Drift", "equals", "(Ljava/lang/Object;)Z"⟩ : MethodName)) hown (mvT hZ (hw _ (List.mem_of_getElem? (i := 13) rfl))) (mvT hZ (hw _ (List.mem_of_getElem? (i := 14) rfl))) (notFace_of_selects (args := #[]) (mvT hZ (hw _ (List.mem_of_getElem? (i := 16) rfl)))) (mvT hZ (hw _ (List.mem_of_getElem? (i := 16) rfl))) (mvT hZ (hw _ (List.mem_of_getElem? (i := 15) rfl))) (by decide) (backOf (W := 0) (rm2d l Z a0 hw [] b14 b1 v7 v8 lv1 bv1 (T26.heap) n0 f32 FA26 FB26 f29 f30 f28) hZ (hw _ (List.mem_of_getElem? (i := 17) rfl)) (hw _ (List.mem_of_getElem? (i := 2) rfl)) (by decide) (by decide)) q58a q58c (g := (mkF m 116 #[.val (.int lv1), .val (.long bv1), .second, .val (.int lv2), .val (.long bv2), .second, .val (.int md), .val (.int v7), .val (.long v8), .second, .val (.ref b1), .val (.ref b14), .val (.int (0 : Int32)), .val (.int (0 : Int32))] [(.ref b1), (.ref b14)])) rfl (by rw [hml]; rfl) (Steps.refl _) (argsL := [(.ref b1)]) (rest := []) (lenOf pd0_1 rfl) rfl (by show 2 * 0 + _ ≤ _; exact Nat.le_of_eq rfl) (hb hby at_116) (fun _ _ => ⟨rfl, e57, (by decide : 2 + 0 ≤ _), (by decide : 4 + 0 ≤ _)⟩)
            dsimp only [Pt.U, Pt.locs, Pt.cells, Pt.slots] at X58 l58 y58 z58 st58 hQ58
            subst l58 y58 z58
            obtain ⟨rfl, N58q, e58⟩ := hQ58
            have N58 := Fr.app N57 N58q
            refine OFin.via st58 ?_
            rw [show (own_eq v7 v8 lv1 bv1) = (0 : Int32) from own_eqF (fun q => hc63_35 ((lw_eq _ _).mpr q.2.symm))]
            show OFin p e below s _ _ Q (T58.setTop (mkF m 119 #[.val (.int lv1), .val (.long bv1), .second, .val (.int lv2), .val (.long bv2), .second, .val (.int md), .val (.int v7), .val (.long v8), .second, .val (.ref b1), .val (.ref b14), .val (.int (0 : Int32)), .val (.int (0 : Int32))] [(.int (0 : Int32))]))
            refine OFin.back (fun _ hr => XS.iload X58.here hx rfl (hb hby at_119) rfl hr) ?_
            show OFin p e below s _ _ Q (T58.setTop (mkF m 121 #[.val (.int lv1), .val (.long bv1), .second, .val (.int lv2), .val (.long bv2), .second, .val (.int md), .val (.int v7), .val (.long v8), .second, .val (.ref b1), .val (.ref b14), .val (.int (0 : Int32)), .val (.int (0 : Int32))] [(.int (0 : Int32)), (.int (0 : Int32))]))
            refine OFin.back (fun _ hr => XS.icmpNo X58.here hx rfl (hb hby at_121) rfl (teq (by decide : (0 : Int32) = (0 : Int32))).2 hr) ?_
            show OFin p e below s _ _ Q (T58.setTop (mkF m 124 #[.val (.int lv1), .val (.long bv1), .second, .val (.int lv2), .val (.long bv2), .second, .val (.int md), .val (.int v7), .val (.long v8), .second, .val (.ref b1), .val (.ref b14), .val (.int (0 : Int32)), .val (.int (0 : Int32))] []))
            refine OFin.back (fun _ hr => XS.aload X58.here hx rfl (hb hby at_124) rfl rfl hr) ?_
            show OFin p e below s _ _ Q (T58.setTop (mkF m 126 #[.val (.int lv1), .val (.long bv1), .second, .val (.int lv2), .val (.long bv2), .second, .val (.int md), .val (.int v7), .val (.long v8), .second, .val (.ref b1), .val (.ref b14), .val (.int (0 : Int32)), .val (.int (0 : Int32))] [(.ref b1)]))
            refine OFin.back (fun _ hr => XS.aload X58.here hx rfl (hb hby at_126) rfl rfl hr) ?_
            show OFin p e below s _ _ Q (T58.setTop (mkF m 128 #[.val (.int lv1), .val (.long bv1), .second, .val (.int lv2), .val (.long bv2), .second, .val (.int md), .val (.int v7), .val (.long v8), .second, .val (.ref b1), .val (.ref b14), .val (.int (0 : Int32)), .val (.int (0 : Int32))] [(.ref b1), (.ref b1)]))
            obtain ⟨cq59, kq59, q59a, q59b, q59c⟩ := isOf hZ e58 f28
            obtain ⟨_, _, ⟨T59, L59, k59, n59⟩, -, X59, ⟨Lc59, hQ59, l59, y59, z59⟩, st59⟩ := X58.virtualBack hx (y := (⟨"com/example/mortise/mortise/schema/ContentModel$Drift", "equals", "(Ljava/lang/Object;)Z"⟩ : MethodName)) (z := (⟨"com/example/mortise/mortise/schema/ContentModel$Drift", "equals", "(Ljava/lang/Object;)Z"⟩ : MethodName)) hown (mvT hZ (hw _ (List.mem_of_getElem? (i := 13) rfl))) (mvT hZ (hw _ (List.mem_of_getElem? (i := 14) rfl))) (notFace_of_selects (args := #[]) (mvT hZ (hw _ (List.mem_of_getElem? (i := 16) rfl)))) (mvT hZ (hw _ (List.mem_of_getElem? (i := 16) rfl))) (mvT hZ (hw _ (List.mem_of_getElem? (i := 15) rfl))) (by decide) (backOf (W := 0) (rm2d l Z a0 hw [] b1 b1 lv1 bv1 lv1 bv1 (T26.heap) n0 f32 f29 f30 f29 f30 f28) hZ (hw _ (List.mem_of_getElem? (i := 17) rfl)) (hw _ (List.mem_of_getElem? (i := 2) rfl)) (by decide) (by decide)) q59a q59c (g := (mkF m 128 #[.val (.int lv1), .val (.long bv1), .second, .val (.int lv2), .val (.long bv2), .second, .val (.int md), .val (.int v7), .val (.long v8), .second, .val (.ref b1), .val (.ref b14), .val (.int (0 : Int32)), .val (.int (0 : Int32))] [(.ref b1), (.ref b1)])) rfl (by rw [hml]; rfl) (Steps.refl _) (argsL := [(.ref b1)]) (rest := []) (lenOf pd0_1 rfl) rfl (by show 2 * 0 + _ ≤ _; exact Nat.le_of_eq rfl) (hb hby at_128) (fun _ _ => ⟨rfl, e58, (by decide : 2 + 0 ≤ _), (by decide : 4 + 0 ≤ _)⟩)
            dsimp only [Pt.U, Pt.locs, Pt.cells, Pt.slots] at X59 l59 y59 z59 st59 hQ59
            subst l59 y59 z59
            obtain ⟨rfl, N59q, e59⟩ := hQ59
            have N59 := Fr.app N58 N59q
            refine OFin.via st59 ?_
            rw [show (own_eq lv1 bv1 lv1 bv1) = (1 : Int32) from own_eqT rfl rfl]
            show OFin p e below s _ _ Q (T59.setTop (mkF m 131 #[.val (.int lv1), .val (.long bv1), .second, .val (.int lv2), .val (.long bv2), .second, .val (.int md), .val (.int v7), .val (.long v8), .second, .val (.ref b1), .val (.ref b14), .val (.int (0 : Int32)), .val (.int (0 : Int32))] [(.int (1 : Int32))]))
            refine OFin.back (fun _ hr => XS.ifNo X59.here hx rfl (hb hby at_131) rfl ((if0 _ _).trans (feq (by decide : ¬ ((1 : Int32) = (0 : Int32)))).1) hr) ?_
            show OFin p e below s _ _ Q (T59.setTop (mkF m 134 #[.val (.int lv1), .val (.long bv1), .second, .val (.int lv2), .val (.long bv2), .second, .val (.int md), .val (.int v7), .val (.long v8), .second, .val (.ref b1), .val (.ref b14), .val (.int (0 : Int32)), .val (.int (0 : Int32))] []))
            refine OFin.back (fun _ hr => XS.iload X59.here hx rfl (hb hby at_134) rfl hr) ?_
            show OFin p e below s _ _ Q (T59.setTop (mkF m 136 #[.val (.int lv1), .val (.long bv1), .second, .val (.int lv2), .val (.long bv2), .second, .val (.int md), .val (.int v7), .val (.long v8), .second, .val (.ref b1), .val (.ref b14), .val (.int (0 : Int32)), .val (.int (0 : Int32))] [(.int (0 : Int32))]))
            refine OFin.back (fun _ hr => XS.ifNo X59.here hx rfl (hb hby at_136) rfl ((if0 _ _).trans (teq (by decide : (0 : Int32) = (0 : Int32))).2) hr) ?_
            show OFin p e below s _ _ Q (T59.setTop (mkF m 139 #[.val (.int lv1), .val (.long bv1), .second, .val (.int lv2), .val (.long bv2), .second, .val (.int md), .val (.int v7), .val (.long v8), .second, .val (.ref b1), .val (.ref b14), .val (.int (0 : Int32)), .val (.int (0 : Int32))] []))
            refine OFin.back (fun _ hr => XS.iconst X59.here hx rfl (hb hby at_139) hr) ?_
            show OFin p e below s _ _ Q (T59.setTop (mkF m 140 #[.val (.int lv1), .val (.long bv1), .second, .val (.int lv2), .val (.long bv2), .second, .val (.int md), .val (.int v7), .val (.long v8), .second, .val (.ref b1), .val (.ref b14), .val (.int (0 : Int32)), .val (.int (0 : Int32))] [(.int (1 : Int32))]))
            refine OFin.back (fun _ hr => XS.goto X59.here hx rfl (pc0 := 140) (pc' := 144) rfl (hb hby at_140) (by decide) (by decide) hr) ?_
            show OFin p e below s _ _ Q (T59.setTop (mkF m 144 #[.val (.int lv1), .val (.long bv1), .second, .val (.int lv2), .val (.long bv2), .second, .val (.int md), .val (.int v7), .val (.long v8), .second, .val (.ref b1), .val (.ref b14), .val (.int (0 : Int32)), .val (.int (0 : Int32))] [(.int (1 : Int32))]))
            exact OFin.outN (t := .boolean) X59 hx Bd.returns (by simp) Bd.notSynchronized (hb hby at_144) (by decide) (by decide) e59 (by rw [hQ]; exact ⟨rfl, N59⟩)
          · -- not (md &&& (4 : Int32)) = (0 : Int32)
            refine OFin.back (fun _ hr => XS.ifNo X26.here hx rfl (hb hby at_77) rfl ((if0 _ _).trans (feq hc77_55).1) hr) ?_
            show OFin p e below s _ _ Q (T26.setTop (mkF m 80 #[.val (.int lv1), .val (.long bv1), .second, .val (.int lv2), .val (.long bv2), .second, .val (.int md), .val (.int v7), .val (.long v8), .second, .val (.ref b1), .val (.ref b14), .val (.int (0 : Int32)), .unset] []))
            refine OFin.back (fun _ hr => XS.aload X26.here hx rfl (hb hby at_80) rfl rfl hr) ?_
            show OFin p e below s _ _ Q (T26.setTop (mkF m 82 #[.val (.int lv1), .val (.long bv1), .second, .val (.int lv2), .val (.long bv2), .second, .val (.int md), .val (.int v7), .val (.long v8), .second, .val (.ref b1), .val (.ref b14), .val (.int (0 : Int32)), .unset] [(.ref b1)]))
            refine OFin.back (fun _ hr => XS.lloadN X26.here hx rfl (hb hby at_82) rfl hr) ?_
            show OFin p e below s _ _ Q (T26.setTop (mkF m 83 #[.val (.int lv1), .val (.long bv1), .second, .val (.int lv2), .val (.long bv2), .second, .val (.int md), .val (.int v7), .val (.long v8), .second, .val (.ref b1), .val (.ref b14), .val (.int (0 : Int32)), .unset] [(.long bv1), (.ref b1)]))
            obtain ⟨_, _, ⟨T60, L60, k60, n60⟩, -, X60, ⟨Lc60, hQ60, l60, y60, z60⟩, st60⟩ := Jvm.LawKit.callS X26 hx (y := (⟨"java/lang/Long", "valueOf", "(J)Ljava/lang/Long;"⟩ : MethodName)) hown (mvT hZ (hw _ (List.mem_of_getElem? (i := 20) rfl))) (mvT hZ (hw _ (List.mem_of_getElem? (i := 21) rfl))) (mvT hZ (hw _ (List.mem_of_getElem? (i := 22) rfl))) (mvT hZ (hw _ (List.mem_of_getElem? (i := 23) rfl))) (by decide) (backOf (W := 1) (rm5 l Z a0 hw [] bv1 ac cl (T26.heap) n0 f32 (own_sta S1 f27) (Ar.ext f27.2) (fun u1 u2 => own_hc HC f27 u1 u2)) hZ (hw _ (List.mem_of_getElem? (i := 23) rfl)) (hw _ (List.mem_of_getElem? (i := 22) rfl)) (by decide) (by decide)) (g := (mkF m 83 #[.val (.int lv1), .val (.long bv1), .second, .val (.int lv2), .val (.long bv2), .second, .val (.int md), .val (.int v7), .val (.long v8), .second, .val (.ref b1), .val (.ref b14), .val (.int (0 : Int32)), .unset] [(.long bv1), (.ref b1)])) rfl (by rw [hml]; rfl) (argsL := [(.long bv1)]) (rest := [(.ref b1)]) (lenOf pd0_2 rfl) rfl (by show 2 * 0 + _ ≤ _; exact Nat.le_of_eq rfl) (hb hby at_83) (fun _ _ => ⟨rfl, rfl, (by decide : 2 + 1 ≤ _), (by decide : 4 + 1 ≤ _)⟩)
            dsimp only [Pt.U, Pt.locs, Pt.cells, Pt.slots] at X60 l60 y60 z60 st60 hQ60
            subst l60 y60 z60
            obtain ⟨x60, rfl, N60q, K60, EL60⟩ := hQ60
            have N60 := Fr.app N26 N60q
            refine OFin.back st60 ?_
            have f61 := f27.keep K60 all0
            have f62 := f28.keep K60
            have f63 := f29.keep K60 nin0
            have f64 := f30.keep K60 nin0
            have f65 := EX26.keep K60
            have f66 := FA26.keep K60 nin0
            have f67 := FB26.keep K60 nin0
            have f68 := Nat.le_trans f32 K60.1
            have f69 := f33.trans K60 all0
            show OFin p e below s _ _ Q (T60.setTop (mkF m 86 #[.val (.int lv1), .val (.long bv1), .second, .val (.int lv2), .val (.long bv2), .second, .val (.int md), .val (.int v7), .val (.long v8), .second, .val (.ref b1), .val (.ref b14), .val (.int (0 : Int32)), .unset] [(.ref x60), (.ref b1)]))
            obtain ⟨cq70, kq70, q70a, q70b, q70c⟩ := isOf hZ rfl f62
            obtain ⟨_, _, ⟨T70, L70, k70, n70⟩, -, X70, ⟨Lc70, hQ70, l70, y70, z70⟩, st70⟩ := X60.virtualBack hx (y := (⟨"com/example/mortise/mortise/schema/ContentModel$Drift", "equals", "(Ljava/lang/Object;)Z"⟩ : MethodName)) (z := (⟨"com/example/mortise/mortise/schema/ContentModel$Drift", "equals", "(Ljava/lang/Object;)Z"⟩ : MethodName)) hown (mvT hZ (hw _ (List.mem_of_getElem? (i := 13) rfl))) (mvT hZ (hw _ (List.mem_of_getElem? (i := 14) rfl))) (notFace_of_selects (args := #[]) (mvT hZ (hw _ (List.mem_of_getElem? (i := 16) rfl)))) (mvT hZ (hw _ (List.mem_of_getElem? (i := 16) rfl))) (mvT hZ (hw _ (List.mem_of_getElem? (i := 15) rfl))) (by decide) (backOf (W := 0) (rm2l l Z a0 hw [] b1 x60 (T60.heap) n0 f68 EL60) hZ (hw _ (List.mem_of_getElem? (i := 17) rfl)) (hw _ (List.mem_of_getElem? (i := 2) rfl)) (by decide) (by decide)) q70a q70c (g := (mkF m 86 #[.val (.int lv1), .val (.long bv1), .second, .val (.int lv2), .val (.long bv2), .second, .val (.int md), .val (.int v7), .val (.long v8), .second, .val (.ref b1), .val (.ref b14), .val (.int (0 : Int32)), .unset] [(.ref x60), (.ref b1)])) rfl (by rw [hml]; rfl) (Steps.refl _) (argsL := [(.ref x60)]) (rest := []) (lenOf pd0_1 rfl) rfl (by show 2 * 0 + _ ≤ _; exact Nat.le_of_eq rfl) (hb hby at_86) (fun _ _ => ⟨rfl, rfl, (by decide : 3 + 0 ≤ _), (by decide : 5 + 0 ≤ _)⟩)
            dsimp only [Pt.U, Pt.locs, Pt.cells, Pt.slots] at X70 l70 y70 z70 st70 hQ70
            subst l70 y70 z70
            obtain ⟨rfl, N70q, e70⟩ := hQ70
            have N70 := Fr.app N60 N70q
            refine OFin.via st70 ?_
            show OFin p e below s _ _ Q (T70.setTop (mkF m 89 #[.val (.int lv1), .val (.long bv1), .second, .val (.int lv2), .val (.long bv2), .second, .val (.int md), .val (.int v7), .val (.long v8), .second, .val (.ref b1), .val (.ref b14), .val (.int (0 : Int32)), .unset] [(.int (0 : Int32))]))
            refine OFin.back (fun _ hr => XS.goto X70.here hx rfl (pc0 := 89) (pc' := 98) rfl (hb hby at_89) (by decide) (by decide) hr) ?_
            show OFin p e below s _ _ Q (T70.setTop (mkF m 98 #[.val (.int lv1), .val (.long bv1), .second, .val (.int lv2), .val (.long bv2), .second, .val (.int md), .val (.int v7), .val (.long v8), .second, .val (.ref b1), .val (.ref b14), .val (.int (0 : Int32)), .unset] [(.int (0 : Int32))]))
            refine OFin.back (fun _ hr => XS.istore X70.here hx rfl (hb hby at_98) rfl (l' := #[.val (.int lv1), .val (.long bv1), .second, .val (.int lv2), .val (.long bv2), .second, .val (.int md), .val (.int v7), .val (.long v8), .second, .val (.ref b1), .val (.ref b14), .val (.int (0 : Int32)), .val (.int (0 : Int32))]) rfl hr) ?_
            show OFin p e below s _ _ Q (T70.setTop (mkF m 100 #[.val (.int lv1), .val (.long bv1), .second, .val (.int lv2), .val (.long bv2), .second, .val (.int md), .val (.int v7), .val (.long v8), .second, .val (.ref b1), .val (.ref b14), .val (.int (0 : Int32)), .val (.int (0 : Int32))] []))
            refine OFin.back (fun _ hr => XS.aload X70.here hx rfl (hb hby at_100) rfl rfl hr) ?_
            show OFin p e below s _ _ Q (T70.setTop (mkF m 102 #[.val (.int lv1), .val (.long bv1), .second, .val (.int lv2), .val (.long bv2), .second, .val (.int md), .val (.int v7), .val (.long v8), .second, .val (.ref b1), .val (.ref b14), .val (.int (0 : Int32)), .val (.int (0 : Int32))] [(.ref b1)]))
            refine OFin.back (fun _ hr => XS.aload X70.here hx rfl (hb hby at_102) rfl rfl hr) ?_
            show OFin p e below s _ _ Q (T70.setTop (mkF m 104 #[.val (.int lv1), .val (.long bv1), .second, .val (.int lv2), .val (.long bv2), .second, .val (.int md), .val (.int v7), .val (.long v8), .second, .val (.ref b1), .val (.ref b14), .val (.int (0 : Int32)), .val (.int (0 : Int32))] [(.ref b14), (.ref b1)]))
            obtain ⟨cq71, kq71, q71a, q71b, q71c⟩ := isOf hZ e70 f62
            obtain ⟨_, _, ⟨T71, L71, k71, n71⟩, -, X71, ⟨Lc71, hQ71, l71, y71, z71⟩, st71⟩ := X70.virtualBack hx (y := (⟨"com/example/mortise/mortise/schema/ContentModel$Drift", "equals", "(Ljava/lang/Object;)Z"⟩ : MethodName)) (z := (⟨"com/example/mortise/mortise/schema/ContentModel$Drift", "equals", "(Ljava/lang/Object;)Z"⟩ : MethodName)) hown (mvT hZ (hw _ (List.mem_of_getElem? (i := 13) rfl))) (mvT hZ (hw _ (List.mem_of_getElem? (i := 14) rfl))) (notFace_of_selects (args := #[]) (mvT hZ (hw _ (List.mem_of_getElem? (i := 16) rfl)))) (mvT hZ (hw _ (List.mem_of_getElem? (i := 16) rfl))) (mvT hZ (hw _ (List.mem_of_getElem? (i := 15) rfl))) (by decide) (backOf (W := 0) (rm2d l Z a0 hw [] b1 b14 lv1 bv1 v7 v8 (T60.heap) n0 f68 f63 f64 f66 f67 f65) hZ (hw _ (List.mem_of_getElem? (i := 17) rfl)) (hw _ (List.mem_of_getElem? (i := 2) rfl)) (by decide) (by decide)) q71a q71c (g := (mkF m 104 #[.val (.int lv1), .val (.long bv1), .second, .val (.int lv2), .val (.long bv2), .second, .val (.int md), .val (.int v7), .val (.long v8), .second, .val (.ref b1), .val (.ref b14), .val (.int (0 : Int32)), .val (.int (0 : Int32))] [(.ref b14), (.ref b1)])) rfl (by rw [hml]; rfl) (Steps.refl _) (argsL := [(.ref b14)]) (rest := []) (lenOf pd0_1 rfl) rfl (by show 2 * 0 + _ ≤ _; exact Nat.le_of_eq rfl) (hb hby at_104) (fun _ _ => ⟨rfl, e70, (by decide : 3 + 0 ≤ _), (by decide : 5 + 0 ≤ _)⟩)
            dsimp only [Pt.U, Pt.locs, Pt.cells, Pt.slots] at X71 l71 y71 z71 st71 hQ71
            subst l71 y71 z71
            obtain ⟨rfl, N71q, e71⟩ := hQ71
            have N71 := Fr.app N70 N71q
            refine OFin.via st71 ?_
            rw [show (own_eq lv1 bv1 v7 v8) = (0 : Int32) from own_eqF (fun q => hc63_35 ((lw_eq _ _).mpr q.2))]
            show OFin p e below s _ _ Q (T71.setTop (mkF m 107 #[.val (.int lv1), .val (.long bv1), .second, .val (.int lv2), .val (.long bv2), .second, .val (.int md), .val (.int v7), .val (.long v8), .second, .val (.ref b1), .val (.ref b14), .val (.int (0 : Int32)), .val (.int (0 : Int32))] [(.int (0 : Int32))]))
            refine OFin.back (fun _ hr => XS.iload X71.here hx rfl (hb hby at_107) rfl hr) ?_
            show OFin p e below s _ _ Q (T71.setTop (mkF m 109 #[.val (.int lv1), .val (.long bv1), .second, .val (.int lv2), .val (.long bv2), .second, .val (.int md), .val (.int v7), .val (.long v8), .second, .val (.ref b1), .val (.ref b14), .val (.int (0 : Int32)), .val (.int (0 : Int32))] [(.int (0 : Int32)), (.int (0 : Int32))]))
            refine OFin.back (fun _ hr => XS.icmpNo X71.here hx rfl (hb hby at_109) rfl (teq (by decide : (0 : Int32) = (0 : Int32))).2 hr) ?_
            show OFin p e below s _ _ Q (T71.setTop (mkF m 112 #[.val (.int lv1), .val (.long bv1), .second, .val (.int lv2), .val (.long bv2), .second, .val (.int md), .val (.int v7), .val (.long v8), .second, .val (.ref b1), .val (.ref b14), .val (.int (0 : Int32)), .val (.int (0 : Int32))] []))
            refine OFin.back (fun _ hr => XS.aload X71.here hx rfl (hb hby at_112) rfl rfl hr) ?_
            show OFin p e below s _ _ Q (T71.setTop (mkF m 114 #[.val (.int lv1), .val (.long bv1), .second, .val (.int lv2), .val (.long bv2), .second, .val (.int md), .val (.int v7), .val (.long v8), .second, .val (.ref b1), .val (.ref b14), .val (.int (0 : Int32)), .val (.int (0 : Int32))] [(.ref b14)]))
            refine OFin.back (fun _ hr => XS.aload X71.here hx rfl (hb hby at_114) rfl rfl hr) ?_
            show OFin p e below s _ _ Q (T71.setTop (mkF m 116 #[.val (.int lv1), .val (.long bv1), .second, .val (.int lv2), .val (.long bv2), .second, .val (.int md), .val (.int v7), .val (.long v8), .second, .val (.ref b1), .val (.ref b14), .val (.int (0 : Int32)), .val (.int (0 : Int32))] [(.ref b1), (.ref b14)]))
            obtain ⟨cq72, kq72, q72a, q72b, q72c⟩ := isOf hZ e71 f65
            obtain ⟨_, _, ⟨T72, L72, k72, n72⟩, -, X72, ⟨Lc72, hQ72, l72, y72, z72⟩, st72⟩ := X71.virtualBack hx (y := (⟨"com/example/mortise/mortise/schema/ContentModel$Drift", "equals", "(Ljava/lang/Object;)Z"⟩ : MethodName)) (z := (⟨"com/example/mortise/mortise/schema/ContentModel$Drift", "equals", "(Ljava/lang/Object;)Z"⟩ : MethodName)) hown (mvT hZ (hw _ (List.mem_of_getElem? (i := 13) rfl))) (mvT hZ (hw _ (List.mem_of_getElem? (i := 14) rfl))) (notFace_of_selects (args := #[]) (mvT hZ (hw _ (List.mem_of_getElem? (i := 16) rfl)))) (mvT hZ (hw _ (List.mem_of_getElem? (i := 16) rfl))) (mvT hZ (hw _ (List.mem_of_getElem? (i := 15) rfl))) (by decide) (backOf (W := 0) (rm2d l Z a0 hw [] b14 b1 v7 v8 lv1 bv1 (T60.heap) n0 f68 f66 f67 f63 f64 f62) hZ (hw _ (List.mem_of_getElem? (i := 17) rfl)) (hw _ (List.mem_of_getElem? (i := 2) rfl)) (by decide) (by decide)) q72a q72c (g := (mkF m 116 #[.val (.int lv1), .val (.long bv1), .second, .val (.int lv2), .val (.long bv2), .second, .val (.int md), .val (.int v7), .val (.long v8), .second, .val (.ref b1), .val (.ref b14), .val (.int (0 : Int32)), .val (.int (0 : Int32))] [(.ref b1), (.ref b14)])) rfl (by rw [hml]; rfl) (Steps.refl _) (argsL := [(.ref b1)]) (rest := []) (lenOf pd0_1 rfl) rfl (by show 2 * 0 + _ ≤ _; exact Nat.le_of_eq rfl) (hb hby at_116) (fun _ _ => ⟨rfl, e71, (by decide : 3 + 0 ≤ _), (by decide : 5 + 0 ≤ _)⟩)
            dsimp only [Pt.U, Pt.locs, Pt.cells, Pt.slots] at X72 l72 y72 z72 st72 hQ72
            subst l72 y72 z72
            obtain ⟨rfl, N72q, e72⟩ := hQ72
            have N72 := Fr.app N71 N72q
            refine OFin.via st72 ?_
            rw [show (own_eq v7 v8 lv1 bv1) = (0 : Int32) from own_eqF (fun q => hc63_35 ((lw_eq _ _).mpr q.2.symm))]
            show OFin p e below s _ _ Q (T72.setTop (mkF m 119 #[.val (.int lv1), .val (.long bv1), .second, .val (.int lv2), .val (.long bv2), .second, .val (.int md), .val (.int v7), .val (.long v8), .second, .val (.ref b1), .val (.ref b14), .val (.int (0 : Int32)), .val (.int (0 : Int32))] [(.int (0 : Int32))]))
            refine OFin.back (fun _ hr => XS.iload X72.here hx rfl (hb hby at_119) rfl hr) ?_
            show OFin p e below s _ _ Q (T72.setTop (mkF m 121 #[.val (.int lv1), .val (.long bv1), .second, .val (.int lv2), .val (.long bv2), .second, .val (.int md), .val (.int v7), .val (.long v8), .second, .val (.ref b1), .val (.ref b14), .val (.int (0 : Int32)), .val (.int (0 : Int32))] [(.int (0 : Int32)), (.int (0 : Int32))]))
            refine OFin.back (fun _ hr => XS.icmpNo X72.here hx rfl (hb hby at_121) rfl (teq (by decide : (0 : Int32) = (0 : Int32))).2 hr) ?_
            show OFin p e below s _ _ Q (T72.setTop (mkF m 124 #[.val (.int lv1), .val (.long bv1), .second, .val (.int lv2), .val (.long bv2), .second, .val (.int md), .val (.int v7), .val (.long v8), .second, .val (.ref b1), .val (.ref b14), .val (.int (0 : Int32)), .val (.int (0 : Int32))] []))
            refine OFin.back (fun _ hr => XS.aload X72.here hx rfl (hb hby at_124) rfl rfl hr) ?_
            show OFin p e below s _ _ Q (T72.setTop (mkF m 126 #[.val (.int lv1), .val (.long bv1), .second, .val (.int lv2), .val (.long bv2), .second, .val (.int md), .val (.int v7), .val (.long v8), .second, .val (.ref b1), .val (.ref b14), .val (.int (0 : Int32)), .val (.int (0 : Int32))] [(.ref b1)]))
            refine OFin.back (fun _ hr => XS.aload X72.here hx rfl (hb hby at_126) rfl rfl hr) ?_
            show OFin p e below s _ _ Q (T72.setTop (mkF m 128 #[.val (.int lv1), .val (.long bv1), .second, .val (.int lv2), .val (.long bv2), .second, .val (.int md), .val (.int v7), .val (.long v8), .second, .val (.ref b1), .val (.ref b14), .val (.int (0 : Int32)), .val (.int (0 : Int32))] [(.ref b1), (.ref b1)]))
            obtain ⟨cq73, kq73, q73a, q73b, q73c⟩ := isOf hZ e72 f62
            obtain ⟨_, _, ⟨T73, L73, k73, n73⟩, -, X73, ⟨Lc73, hQ73, l73, y73, z73⟩, st73⟩ := X72.virtualBack hx (y := (⟨"com/example/mortise/mortise/schema/ContentModel$Drift", "equals", "(Ljava/lang/Object;)Z"⟩ : MethodName)) (z := (⟨"com/example/mortise/mortise/schema/ContentModel$Drift", "equals", "(Ljava/lang/Object;)Z"⟩ : MethodName)) hown (mvT hZ (hw _ (List.mem_of_getElem? (i := 13) rfl))) (mvT hZ (hw _ (List.mem_of_getElem? (i := 14) rfl))) (notFace_of_selects (args := #[]) (mvT hZ (hw _ (List.mem_of_getElem? (i := 16) rfl)))) (mvT hZ (hw _ (List.mem_of_getElem? (i := 16) rfl))) (mvT hZ (hw _ (List.mem_of_getElem? (i := 15) rfl))) (by decide) (backOf (W := 0) (rm2d l Z a0 hw [] b1 b1 lv1 bv1 lv1 bv1 (T60.heap) n0 f68 f63 f64 f63 f64 f62) hZ (hw _ (List.mem_of_getElem? (i := 17) rfl)) (hw _ (List.mem_of_getElem? (i := 2) rfl)) (by decide) (by decide)) q73a q73c (g := (mkF m 128 #[.val (.int lv1), .val (.long bv1), .second, .val (.int lv2), .val (.long bv2), .second, .val (.int md), .val (.int v7), .val (.long v8), .second, .val (.ref b1), .val (.ref b14), .val (.int (0 : Int32)), .val (.int (0 : Int32))] [(.ref b1), (.ref b1)])) rfl (by rw [hml]; rfl) (Steps.refl _) (argsL := [(.ref b1)]) (rest := []) (lenOf pd0_1 rfl) rfl (by show 2 * 0 + _ ≤ _; exact Nat.le_of_eq rfl) (hb hby at_128) (fun _ _ => ⟨rfl, e72, (by decide : 3 + 0 ≤ _), (by decide : 5 + 0 ≤ _)⟩)
            dsimp only [Pt.U, Pt.locs, Pt.cells, Pt.slots] at X73 l73 y73 z73 st73 hQ73
            subst l73 y73 z73
            obtain ⟨rfl, N73q, e73⟩ := hQ73
            have N73 := Fr.app N72 N73q
            refine OFin.via st73 ?_
            rw [show (own_eq lv1 bv1 lv1 bv1) = (1 : Int32) from own_eqT rfl rfl]
            show OFin p e below s _ _ Q (T73.setTop (mkF m 131 #[.val (.int lv1), .val (.long bv1), .second, .val (.int lv2), .val (.long bv2), .second, .val (.int md), .val (.int v7), .val (.long v8), .second, .val (.ref b1), .val (.ref b14), .val (.int (0 : Int32)), .val (.int (0 : Int32))] [(.int (1 : Int32))]))
            refine OFin.back (fun _ hr => XS.ifNo X73.here hx rfl (hb hby at_131) rfl ((if0 _ _).trans (feq (by decide : ¬ ((1 : Int32) = (0 : Int32)))).1) hr) ?_
            show OFin p e below s _ _ Q (T73.setTop (mkF m 134 #[.val (.int lv1), .val (.long bv1), .second, .val (.int lv2), .val (.long bv2), .second, .val (.int md), .val (.int v7), .val (.long v8), .second, .val (.ref b1), .val (.ref b14), .val (.int (0 : Int32)), .val (.int (0 : Int32))] []))
            refine OFin.back (fun _ hr => XS.iload X73.here hx rfl (hb hby at_134) rfl hr) ?_
            show OFin p e below s _ _ Q (T73.setTop (mkF m 136 #[.val (.int lv1), .val (.long bv1), .second, .val (.int lv2), .val (.long bv2), .second, .val (.int md), .val (.int v7), .val (.long v8), .second, .val (.ref b1), .val (.ref b14), .val (.int (0 : Int32)), .val (.int (0 : Int32))] [(.int (0 : Int32))]))
            refine OFin.back (fun _ hr => XS.ifNo X73.here hx rfl (hb hby at_136) rfl ((if0 _ _).trans (teq (by decide : (0 : Int32) = (0 : Int32))).2) hr) ?_
            show OFin p e below s _ _ Q (T73.setTop (mkF m 139 #[.val (.int lv1), .val (.long bv1), .second, .val (.int lv2), .val (.long bv2), .second, .val (.int md), .val (.int v7), .val (.long v8), .second, .val (.ref b1), .val (.ref b14), .val (.int (0 : Int32)), .val (.int (0 : Int32))] []))
            refine OFin.back (fun _ hr => XS.iconst X73.here hx rfl (hb hby at_139) hr) ?_
            show OFin p e below s _ _ Q (T73.setTop (mkF m 140 #[.val (.int lv1), .val (.long bv1), .second, .val (.int lv2), .val (.long bv2), .second, .val (.int md), .val (.int v7), .val (.long v8), .second, .val (.ref b1), .val (.ref b14), .val (.int (0 : Int32)), .val (.int (0 : Int32))] [(.int (1 : Int32))]))
            refine OFin.back (fun _ hr => XS.goto X73.here hx rfl (pc0 := 140) (pc' := 144) rfl (hb hby at_140) (by decide) (by decide) hr) ?_
            show OFin p e below s _ _ Q (T73.setTop (mkF m 144 #[.val (.int lv1), .val (.long bv1), .second, .val (.int lv2), .val (.long bv2), .second, .val (.int md), .val (.int v7), .val (.long v8), .second, .val (.ref b1), .val (.ref b14), .val (.int (0 : Int32)), .val (.int (0 : Int32))] [(.int (1 : Int32))]))
            exact OFin.outN (t := .boolean) X73 hx Bd.returns (by simp) Bd.notSynchronized (hb hby at_144) (by decide) (by decide) e73 (by rw [hQ]; exact ⟨rfl, N73⟩)
      · -- not lv1 = v7
        refine OFin.back (fun _ hr => XS.icmpYes X26.here hx rfl (pc0 := 56) (pc' := 70) rfl (hb hby at_56) rfl (feq hc56_34).2 (by decide) (by decide) hr) ?_
        show OFin p e below s _ _ Q (T26.setTop (mkF m 70 #[.val (.int lv1), .val (.long bv1), .second, .val (.int lv2), .val (.long bv2), .second, .val (.int md), .val (.int v7), .val (.long v8), .second, .val (.ref b1), .val (.ref b14), .unset, .unset] []))
        refine OFin.back (fun _ hr => XS.iconst X26.here hx rfl (hb hby at_70) hr) ?_
        show OFin p e below s _ _ Q (T26.setTop (mkF m 71 #[.val (.int lv1), .val (.long bv1), .second, .val (.int lv2), .val (.long bv2), .second, .val (.int md), .val (.int v7), .val (.long v8), .second, .val (.ref b1), .val (.ref b14), .unset, .unset] [(.int (0 : Int32))]))
        refine OFin.back (fun _ hr => XS.istore X26.here hx rfl (hb hby at_71) rfl (l' := #[.val (.int lv1), .val (.long bv1), .second, .val (.int lv2), .val (.long bv2), .second, .val (.int md), .val (.int v7), .val (.long v8), .second, .val (.ref b1), .val (.ref b14), .val (.int (0 : Int32)), .unset]) rfl hr) ?_
        show OFin p e below s _ _ Q (T26.setTop (mkF m 73 #[.val (.int lv1), .val (.long bv1), .second, .val (.int lv2), .val (.long bv2), .second, .val (.int md), .val (.int v7), .val (.long v8), .second, .val (.ref b1), .val (.ref b14), .val (.int (0 : Int32)), .unset] []))
        refine OFin.back (fun _ hr => XS.iload X26.here hx rfl (hb hby at_73) rfl hr) ?_
        show OFin p e below s _ _ Q (T26.setTop (mkF m 75 #[.val (.int lv1), .val (.long bv1), .second, .val (.int lv2), .val (.long bv2), .second, .val (.int md), .val (.int v7), .val (.long v8), .second, .val (.ref b1), .val (.ref b14), .val (.int (0 : Int32)), .unset] [(.int md)]))
        refine OFin.back (fun _ hr => XS.iconst X26.here hx rfl (hb hby at_75) hr) ?_
        show OFin p e below s _ _ Q (T26.setTop (mkF m 76 #[.val (.int lv1), .val (.long bv1), .second, .val (.int lv2), .val (.long bv2), .second, .val (.int md), .val (.int v7), .val (.long v8), .second, .val (.ref b1), .val (.ref b14), .val (.int (0 : Int32)), .unset] [(.int (4 : Int32)), (.int md)]))
        refine OFin.back (fun _ hr => XS.iand X26.here hx rfl (hb hby at_76) rfl hr) ?_
        show OFin p e below s _ _ Q (T26.setTop (mkF m 77 #[.val (.int lv1), .val (.long bv1), .second, .val (.int lv2), .val (.long bv2), .second, .val (.int md), .val (.int v7), .val (.long v8), .second, .val (.ref b1), .val (.ref b14), .val (.int (0 : Int32)), .unset] [(.int (md &&& (4 : Int32)))]))
        by_cases hc77_74 : (md &&& (4 : Int32)) = (0 : Int32)
        · -- (md &&& (4 : Int32)) = (0 : Int32)
          refine OFin.back (fun _ hr => XS.ifYes X26.here hx rfl (pc0 := 77) (pc' := 92) rfl (hb hby at_77) rfl ((if0 _ _).trans (teq hc77_74).1) (by decide) (by decide) hr) ?_
          show OFin p e below s _ _ Q (T26.setTop (mkF m 92 #[.val (.int lv1), .val (.long bv1), .second, .val (.int lv2), .val (.long bv2), .second, .val (.int md), .val (.int v7), .val (.long v8), .second, .val (.ref b1), .val (.ref b14), .val (.int (0 : Int32)), .unset] []))
          refine OFin.back (fun _ hr => XS.aload X26.here hx rfl (hb hby at_92) rfl rfl hr) ?_
          show OFin p e below s _ _ Q (T26.setTop (mkF m 94 #[.val (.int lv1), .val (.long bv1), .second, .val (.int lv2), .val (.long bv2), .second, .val (.int md), .val (.int v7), .val (.long v8), .second, .val (.ref b1), .val (.ref b14), .val (.int (0 : Int32)), .unset] [(.ref b1)]))
          refine OFin.back (fun _ hr => XS.aconstNull X26.here hx rfl (hb hby at_94) hr) ?_
          show OFin p e below s _ _ Q (T26.setTop (mkF m 95 #[.val (.int lv1), .val (.long bv1), .second, .val (.int lv2), .val (.long bv2), .second, .val (.int md), .val (.int v7), .val (.long v8), .second, .val (.ref b1), .val (.ref b14), .val (.int (0 : Int32)), .unset] [.null, (.ref b1)]))
          obtain ⟨cq75, kq75, q75a, q75b, q75c⟩ := isOf hZ rfl f28
          obtain ⟨_, _, ⟨T75, L75, k75, n75⟩, -, X75, ⟨Lc75, hQ75, l75, y75, z75⟩, st75⟩ := X26.virtualBack hx (y := (⟨"com/example/mortise/mortise/schema/ContentModel$Drift", "equals", "(Ljava/lang/Object;)Z"⟩ : MethodName)) (z := (⟨"com/example/mortise/mortise/schema/ContentModel$Drift", "equals", "(Ljava/lang/Object;)Z"⟩ : MethodName)) hown (mvT hZ (hw _ (List.mem_of_getElem? (i := 13) rfl))) (mvT hZ (hw _ (List.mem_of_getElem? (i := 14) rfl))) (notFace_of_selects (args := #[]) (mvT hZ (hw _ (List.mem_of_getElem? (i := 16) rfl)))) (mvT hZ (hw _ (List.mem_of_getElem? (i := 16) rfl))) (mvT hZ (hw _ (List.mem_of_getElem? (i := 15) rfl))) (by decide) (backOf (W := 0) (rm2n l Z a0 hw [] b1 (T26.heap) n0 f32) hZ (hw _ (List.mem_of_getElem? (i := 17) rfl)) (hw _ (List.mem_of_getElem? (i := 2) rfl)) (by decide) (by decide)) q75a q75c (g := (mkF m 95 #[.val (.int lv1), .val (.long bv1), .second, .val (.int lv2), .val (.long bv2), .second, .val (.int md), .val (.int v7), .val (.long v8), .second, .val (.ref b1), .val (.ref b14), .val (.int (0 : Int32)), .unset] [.null, (.ref b1)])) rfl (by rw [hml]; rfl) (Steps.refl _) (argsL := [.null]) (rest := []) (lenOf pd0_1 rfl) rfl (by show 2 * 0 + _ ≤ _; exact Nat.le_of_eq rfl) (hb hby at_95) (fun _ _ => ⟨rfl, rfl, (by decide : 2 + 0 ≤ _), (by decide : 4 + 0 ≤ _)⟩)
          dsimp only [Pt.U, Pt.locs, Pt.cells, Pt.slots] at X75 l75 y75 z75 st75 hQ75
          subst l75 y75 z75
          obtain ⟨rfl, N75q, e75⟩ := hQ75
          have N75 := Fr.app N26 N75q
          refine OFin.via st75 ?_
          show OFin p e below s _ _ Q (T75.setTop (mkF m 98 #[.val (.int lv1), .val (.long bv1), .second, .val (.int lv2), .val (.long bv2), .second, .val (.int md), .val (.int v7), .val (.long v8), .second, .val (.ref b1), .val (.ref b14), .val (.int (0 : Int32)), .unset] [(.int (0 : Int32))]))
          refine OFin.back (fun _ hr => XS.istore X75.here hx rfl (hb hby at_98) rfl (l' := #[.val (.int lv1), .val (.long bv1), .second, .val (.int lv2), .val (.long bv2), .second, .val (.int md), .val (.int v7), .val (.long v8), .second, .val (.ref b1), .val (.ref b14), .val (.int (0 : Int32)), .val (.int (0 : Int32))]) rfl hr) ?_
          show OFin p e below s _ _ Q (T75.setTop (mkF m 100 #[.val (.int lv1), .val (.long bv1), .second, .val (.int lv2), .val (.long bv2), .second, .val (.int md), .val (.int v7), .val (.long v8), .second, .val (.ref b1), .val (.ref b14), .val (.int (0 : Int32)), .val (.int (0 : Int32))] []))
          refine OFin.back (fun _ hr => XS.aload X75.here hx rfl (hb hby at_100) rfl rfl hr) ?_
          show OFin p e below s _ _ Q (T75.setTop (mkF m 102 #[.val (.int lv1), .val (.long bv1), .second, .val (.int lv2), .val (.long bv2), .second, .val (.int md), .val (.int v7), .val (.long v8), .second, .val (.ref b1), .val (.ref b14), .val (.int (0 : Int32)), .val (.int (0 : Int32))] [(.ref b1)]))
          refine OFin.back (fun _ hr => XS.aload X75.here hx rfl (hb hby at_102) rfl rfl hr) ?_
          show OFin p e below s _ _ Q (T75.setTop (mkF m 104 #[.val (.int lv1), .val (.long bv1), .second, .val (.int lv2), .val (.long bv2), .second, .val (.int md), .val (.int v7), .val (.long v8), .second, .val (.ref b1), .val (.ref b14), .val (.int (0 : Int32)), .val (.int (0 : Int32))] [(.ref b14), (.ref b1)]))
          obtain ⟨cq76, kq76, q76a, q76b, q76c⟩ := isOf hZ e75 f28
          obtain ⟨_, _, ⟨T76, L76, k76, n76⟩, -, X76, ⟨Lc76, hQ76, l76, y76, z76⟩, st76⟩ := X75.virtualBack hx (y := (⟨"com/example/mortise/mortise/schema/ContentModel$Drift", "equals", "(Ljava/lang/Object;)Z"⟩ : MethodName)) (z := (⟨"com/example/mortise/mortise/schema/ContentModel$Drift", "equals", "(Ljava/lang/Object;)Z"⟩ : MethodName)) hown (mvT hZ (hw _ (List.mem_of_getElem? (i := 13) rfl))) (mvT hZ (hw _ (List.mem_of_getElem? (i := 14) rfl))) (notFace_of_selects (args := #[]) (mvT hZ (hw _ (List.mem_of_getElem? (i := 16) rfl)))) (mvT hZ (hw _ (List.mem_of_getElem? (i := 16) rfl))) (mvT hZ (hw _ (List.mem_of_getElem? (i := 15) rfl))) (by decide) (backOf (W := 0) (rm2d l Z a0 hw [] b1 b14 lv1 bv1 v7 v8 (T26.heap) n0 f32 f29 f30 FA26 FB26 EX26) hZ (hw _ (List.mem_of_getElem? (i := 17) rfl)) (hw _ (List.mem_of_getElem? (i := 2) rfl)) (by decide) (by decide)) q76a q76c (g := (mkF m 104 #[.val (.int lv1), .val (.long bv1), .second, .val (.int lv2), .val (.long bv2), .second, .val (.int md), .val (.int v7), .val (.long v8), .second, .val (.ref b1), .val (.ref b14), .val (.int (0 : Int32)), .val (.int (0 : Int32))] [(.ref b14), (.ref b1)])) rfl (by rw [hml]; rfl) (Steps.refl _) (argsL := [(.ref b14)]) (rest := []) (lenOf pd0_1 rfl) rfl (by show 2 * 0 + _ ≤ _; exact Nat.le_of_eq rfl) (hb hby at_104) (fun _ _ => ⟨rfl, e75, (by decide : 2 + 0 ≤ _), (by decide : 4 + 0 ≤ _)⟩)
          dsimp only [Pt.U, Pt.locs, Pt.cells, Pt.slots] at X76 l76 y76 z76 st76 hQ76
          subst l76 y76 z76
          obtain ⟨rfl, N76q, e76⟩ := hQ76
          have N76 := Fr.app N75 N76q
          refine OFin.via st76 ?_
          rw [show (own_eq lv1 bv1 v7 v8) = (0 : Int32) from own_eqF (fun q => hc56_34 q.1)]
          show OFin p e below s _ _ Q (T76.setTop (mkF m 107 #[.val (.int lv1), .val (.long bv1), .second, .val (.int lv2), .val (.long bv2), .second, .val (.int md), .val (.int v7), .val (.long v8), .second, .val (.ref b1), .val (.ref b14), .val (.int (0 : Int32)), .val (.int (0 : Int32))] [(.int (0 : Int32))]))
          refine OFin.back (fun _ hr => XS.iload X76.here hx rfl (hb hby at_107) rfl hr) ?_
          show OFin p e below s _ _ Q (T76.setTop (mkF m 109 #[.val (.int lv1), .val (.long bv1), .second, .val (.int lv2), .val (.long bv2), .second, .val (.int md), .val (.int v7), .val (.long v8), .second, .val (.ref b1), .val (.ref b14), .val (.int (0 : Int32)), .val (.int (0 : Int32))] [(.int (0 : Int32)), (.int (0 : Int32))]))
          refine OFin.back (fun _ hr => XS.icmpNo X76.here hx rfl (hb hby at_109) rfl (teq (by decide : (0 : Int32) = (0 : Int32))).2 hr) ?_
          show OFin p e below s _ _ Q (T76.setTop (mkF m 112 #[.val (.int lv1), .val (.long bv1), .second, .val (.int lv2), .val (.long bv2), .second, .val (.int md), .val (.int v7), .val (.long v8), .second, .val (.ref b1), .val (.ref b14), .val (.int (0 : Int32)), .val (.int (0 : Int32))] []))
          refine OFin.back (fun _ hr => XS.aload X76.here hx rfl (hb hby at_112) rfl rfl hr) ?_
          show OFin p e below s _ _ Q (T76.setTop (mkF m 114 #[.val (.int lv1), .val (.long bv1), .second, .val (.int lv2), .val (.long bv2), .second, .val (.int md), .val (.int v7), .val (.long v8), .second, .val (.ref b1), .val (.ref b14), .val (.int (0 : Int32)), .val (.int (0 : Int32))] [(.ref b14)]))
          refine OFin.back (fun _ hr => XS.aload X76.here hx rfl (hb hby at_114) rfl rfl hr) ?_
          show OFin p e below s _ _ Q (T76.setTop (mkF m 116 #[.val (.int lv1), .val (.long bv1), .second, .val (.int lv2), .val (.long bv2), .second, .val (.int md), .val (.int v7), .val (.long v8), .second, .val (.ref b1), .val (.ref b14), .val (.int (0 : Int32)), .val (.int (0 : Int32))] [(.ref b1), (.ref b14)]))
          obtain ⟨cq77, kq77, q77a, q77b, q77c⟩ := isOf hZ e76 EX26
          obtain ⟨_, _, ⟨T77, L77, k77, n77⟩, -, X77, ⟨Lc77, hQ77, l77, y77, z77⟩, st77⟩ := X76.virtualBack hx (y := (⟨"com/example/mortise/mortise/schema/ContentModel$Drift", "equals", "(Ljava/lang/Object;)Z"⟩ : MethodName)) (z := (⟨"com/example/mortise/mortise/schema/ContentModel$Drift", "equals", "(Ljava/lang/Object;)Z"⟩ : MethodName)) hown (mvT hZ (hw _ (List.mem_of_getElem? (i := 13) rfl))) (mvT hZ (hw _ (List.mem_of_getElem? (i := 14) rfl))) (notFace_of_selects (args := #[]) (mvT hZ (hw _ (List.mem_of_getElem? (i := 16) rfl)))) (mvT hZ (hw _ (List.mem_of_getElem? (i := 16) rfl))) (mvT hZ (hw _ (List.mem_of_getElem? (i := 15) rfl))) (by decide) (backOf (W := 0) (rm2d l Z a0 hw [] b14 b1 v7 v8 lv1 bv1 (T26.heap) n0 f32 FA26 FB26 f29 f30 f28) hZ (hw _ (List.mem_of_getElem? (i := 17) rfl)) (hw _ (List.mem_of_getElem? (i := 2) rfl)) (by decide) (by decide)) q77a q77c (g := (mkF m 116 #[.val (.int lv1), .val (.long bv1), .second, .val (.int lv2), .val (.long bv2), .second, .val (.int md), .val (.int v7), .val (.long v8), .second, .val (.ref b1), .val (.ref b14), .val (.int (0 : Int32)), .val (.int (0 : Int32))] [(.ref b1), (.ref b14)])) rfl (by rw [hml]; rfl) (Steps.refl _) (argsL := [(.ref b1)]) (rest := []) (lenOf pd0_1 rfl) rfl (by show 2 * 0 + _ ≤ _; exact Nat.le_of_eq rfl) (hb hby at_116) (fun _ _ => ⟨rfl, e76, (by decide : 2 + 0 ≤ _), (by decide : 4 + 0 ≤ _)⟩)
          dsimp only [Pt.U, Pt.locs, Pt.cells, Pt.slots] at X77 l77 y77 z77 st77 hQ77
          subst l77 y77 z77
          obtain ⟨rfl, N77q, e77⟩ := hQ77
          have N77 := Fr.app N76 N77q
          refine OFin.via st77 ?_
          rw [show (own_eq v7 v8 lv1 bv1) = (0 : Int32) from own_eqF (fun q => hc56_34 q.1.symm)]
          show OFin p e below s _ _ Q (T77.setTop (mkF m 119 #[.val (.int lv1), .val (.long bv1), .second, .val (.int lv2), .val (.long bv2), .second, .val (.int md), .val (.int v7), .val (.long v8), .second, .val (.ref b1), .val (.ref b14), .val (.int (0 : Int32)), .val (.int (0 : Int32))] [(.int (0 : Int32))]))
          refine OFin.back (fun _ hr => XS.iload X77.here hx rfl (hb hby at_119) rfl hr) ?_
          show OFin p e below s _ _ Q (T77.setTop (mkF m 121 #[.val (.int lv1), .val (.long bv1), .second, .val (.int lv2), .val (.long bv2), .second, .val (.int md), .val (.int v7), .val (.long v8), .second, .val (.ref b1), .val (.ref b14), .val (.int (0 : Int32)), .val (.int (0 : Int32))] [(.int (0 : Int32)), (.int (0 : Int32))]))
          refine OFin.back (fun _ hr => XS.icmpNo X77.here hx rfl (hb hby at_121) rfl (teq (by decide : (0 : Int32) = (0 : Int32))).2 hr) ?_
          show OFin p e below s _ _ Q (T77.setTop (mkF m 124 #[.val (.int lv1), .val (.long bv1), .second, .val (.int lv2), .val (.long bv2), .second, .val (.int md), .val (.int v7), .val (.long v8), .second, .val (.ref b1), .val (.ref b14), .val (.int (0 : Int32)), .val (.int (0 : Int32))] []))
          refine OFin.back (fun _ hr => XS.aload X77.here hx rfl (hb hby at_124) rfl rfl hr) ?_
          show OFin p e below s _ _ Q (T77.setTop (mkF m 126 #[.val (.int lv1), .val (.long bv1), .second, .val (.int lv2), .val (.long bv2), .second, .val (.int md), .val (.int v7), .val (.long v8), .second, .val (.ref b1), .val (.ref b14), .val (.int (0 : Int32)), .val (.int (0 : Int32))] [(.ref b1)]))
          refine OFin.back (fun _ hr => XS.aload X77.here hx rfl (hb hby at_126) rfl rfl hr) ?_
          show OFin p e below s _ _ Q (T77.setTop (mkF m 128 #[.val (.int lv1), .val (.long bv1), .second, .val (.int lv2), .val (.long bv2), .second, .val (.int md), .val (.int v7), .val (.long v8), .second, .val (.ref b1), .val (.ref b14), .val (.int (0 : Int32)), .val (.int (0 : Int32))] [(.ref b1), (.ref b1)]))
          obtain ⟨cq78, kq78, q78a, q78b, q78c⟩ := isOf hZ e77 f28
          obtain ⟨_, _, ⟨T78, L78, k78, n78⟩, -, X78, ⟨Lc78, hQ78, l78, y78, z78⟩, st78⟩ := X77.virtualBack hx (y := (⟨"com/example/mortise/mortise/schema/ContentModel$Drift", "equals", "(Ljava/lang/Object;)Z"⟩ : MethodName)) (z := (⟨"com/example/mortise/mortise/schema/ContentModel$Drift", "equals", "(Ljava/lang/Object;)Z"⟩ : MethodName)) hown (mvT hZ (hw _ (List.mem_of_getElem? (i := 13) rfl))) (mvT hZ (hw _ (List.mem_of_getElem? (i := 14) rfl))) (notFace_of_selects (args := #[]) (mvT hZ (hw _ (List.mem_of_getElem? (i := 16) rfl)))) (mvT hZ (hw _ (List.mem_of_getElem? (i := 16) rfl))) (mvT hZ (hw _ (List.mem_of_getElem? (i := 15) rfl))) (by decide) (backOf (W := 0) (rm2d l Z a0 hw [] b1 b1 lv1 bv1 lv1 bv1 (T26.heap) n0 f32 f29 f30 f29 f30 f28) hZ (hw _ (List.mem_of_getElem? (i := 17) rfl)) (hw _ (List.mem_of_getElem? (i := 2) rfl)) (by decide) (by decide)) q78a q78c (g := (mkF m 128 #[.val (.int lv1), .val (.long bv1), .second, .val (.int lv2), .val (.long bv2), .second, .val (.int md), .val (.int v7), .val (.long v8), .second, .val (.ref b1), .val (.ref b14), .val (.int (0 : Int32)), .val (.int (0 : Int32))] [(.ref b1), (.ref b1)])) rfl (by rw [hml]; rfl) (Steps.refl _) (argsL := [(.ref b1)]) (rest := []) (lenOf pd0_1 rfl) rfl (by show 2 * 0 + _ ≤ _; exact Nat.le_of_eq rfl) (hb hby at_128) (fun _ _ => ⟨rfl, e77, (by decide : 2 + 0 ≤ _), (by decide : 4 + 0 ≤ _)⟩)
          dsimp only [Pt.U, Pt.locs, Pt.cells, Pt.slots] at X78 l78 y78 z78 st78 hQ78
          subst l78 y78 z78
          obtain ⟨rfl, N78q, e78⟩ := hQ78
          have N78 := Fr.app N77 N78q
          refine OFin.via st78 ?_
          rw [show (own_eq lv1 bv1 lv1 bv1) = (1 : Int32) from own_eqT rfl rfl]
          show OFin p e below s _ _ Q (T78.setTop (mkF m 131 #[.val (.int lv1), .val (.long bv1), .second, .val (.int lv2), .val (.long bv2), .second, .val (.int md), .val (.int v7), .val (.long v8), .second, .val (.ref b1), .val (.ref b14), .val (.int (0 : Int32)), .val (.int (0 : Int32))] [(.int (1 : Int32))]))
          refine OFin.back (fun _ hr => XS.ifNo X78.here hx rfl (hb hby at_131) rfl ((if0 _ _).trans (feq (by decide : ¬ ((1 : Int32) = (0 : Int32)))).1) hr) ?_
          show OFin p e below s _ _ Q (T78.setTop (mkF m 134 #[.val (.int lv1), .val (.long bv1), .second, .val (.int lv2), .val (.long bv2), .second, .val (.int md), .val (.int v7), .val (.long v8), .second, .val (.ref b1), .val (.ref b14), .val (.int (0 : Int32)), .val (.int (0 : Int32))] []))
          refine OFin.back (fun _ hr => XS.iload X78.here hx rfl (hb hby at_134) rfl hr) ?_
          show OFin p e below s _ _ Q (T78.setTop (mkF m 136 #[.val (.int lv1), .val (.long bv1), .second, .val (.int lv2), .val (.long bv2), .second, .val (.int md), .val (.int v7), .val (.long v8), .second, .val (.ref b1), .val (.ref b14), .val (.int (0 : Int32)), .val (.int (0 : Int32))] [(.int (0 : Int32))]))
          refine OFin.back (fun _ hr => XS.ifNo X78.here hx rfl (hb hby at_136) rfl ((if0 _ _).trans (teq (by decide : (0 : Int32) = (0 : Int32))).2) hr) ?_
          show OFin p e below s _ _ Q (T78.setTop (mkF m 139 #[.val (.int lv1), .val (.long bv1), .second, .val (.int lv2), .val (.long bv2), .second, .val (.int md), .val (.int v7), .val (.long v8), .second, .val (.ref b1), .val (.ref b14), .val (.int (0 : Int32)), .val (.int (0 : Int32))] []))
          refine OFin.back (fun _ hr => XS.iconst X78.here hx rfl (hb hby at_139) hr) ?_
          show OFin p e below s _ _ Q (T78.setTop (mkF m 140 #[.val (.int lv1), .val (.long bv1), .second, .val (.int lv2), .val (.long bv2), .second, .val (.int md), .val (.int v7), .val (.long v8), .second, .val (.ref b1), .val (.ref b14), .val (.int (0 : Int32)), .val (.int (0 : Int32))] [(.int (1 : Int32))]))
          refine OFin.back (fun _ hr => XS.goto X78.here hx rfl (pc0 := 140) (pc' := 144) rfl (hb hby at_140) (by decide) (by decide) hr) ?_
          show OFin p e below s _ _ Q (T78.setTop (mkF m 144 #[.val (.int lv1), .val (.long bv1), .second, .val (.int lv2), .val (.long bv2), .second, .val (.int md), .val (.int v7), .val (.long v8), .second, .val (.ref b1), .val (.ref b14), .val (.int (0 : Int32)), .val (.int (0 : Int32))] [(.int (1 : Int32))]))
          exact OFin.outN (t := .boolean) X78 hx Bd.returns (by simp) Bd.notSynchronized (hb hby at_144) (by decide) (by decide) e78 (by rw [hQ]; exact ⟨rfl, N78⟩)
        · -- not (md &&& (4 : Int32)) = (0 : Int32)
          refine OFin.back (fun _ hr => XS.ifNo X26.here hx rfl (hb hby at_77) rfl ((if0 _ _).trans (feq hc77_74).1) hr) ?_
          show OFin p e below s _ _ Q (T26.setTop (mkF m 80 #[.val (.int lv1), .val (.long bv1), .second, .val (.int lv2), .val (.long bv2), .second, .val (.int md), .val (.int v7), .val (.long v8), .second, .val (.ref b1), .val (.ref b14), .val (.int (0 : Int32)), .unset] []))
          refine OFin.back (fun _ hr => XS.aload X26.here hx rfl (hb hby at_80) rfl rfl hr) ?_
          show OFin p e below s _ _ Q (T26.setTop (mkF m 82 #[.val (.int lv1), .val (.long bv1), .second, .val (.int lv2), .val (.long bv2), .second, .val (.int md), .val (.int v7), .val (.long v8), .second, .val (.ref b1), .val (.ref b14), .val (.int (0 : Int32)), .unset] [(.ref b1)]))
          refine OFin.back (fun _ hr => XS.lloadN X26.here hx rfl (hb hby at_82) rfl hr) ?_
          show OFin p e below s _ _ Q (T26.setTop (mkF m 83 #[.val (.int lv1), .val (.long bv1), .second, .val (.int lv2), .val (.long bv2), .second, .val (.int md), .val (.int v7), .val (.long v8), .second, .val (.ref b1), .val (.ref b14), .val (.int (0 : Int32)), .unset] [(.long bv1), (.ref b1)]))
          obtain ⟨_, _, ⟨T79, L79, k79, n79⟩, -, X79, ⟨Lc79, hQ79, l79, y79, z79⟩, st79⟩ := Jvm.LawKit.callS X26 hx (y := (⟨"java/lang/Long", "valueOf", "(J)Ljava/lang/Long;"⟩ : MethodName)) hown (mvT hZ (hw _ (List.mem_of_getElem? (i := 20) rfl))) (mvT hZ (hw _ (List.mem_of_getElem? (i := 21) rfl))) (mvT hZ (hw _ (List.mem_of_getElem? (i := 22) rfl))) (mvT hZ (hw _ (List.mem_of_getElem? (i := 23) rfl))) (by decide) (backOf (W := 1) (rm5 l Z a0 hw [] bv1 ac cl (T26.heap) n0 f32 (own_sta S1 f27) (Ar.ext f27.2) (fun u1 u2 => own_hc HC f27 u1 u2)) hZ (hw _ (List.mem_of_getElem? (i := 23) rfl)) (hw _ (List.mem_of_getElem? (i := 22) rfl)) (by decide) (by decide)) (g := (mkF m 83 #[.val (.int lv1), .val (.long bv1), .second, .val (.int lv2), .val (.long bv2), .second, .val (.int md), .val (.int v7), .val (.long v8), .second, .val (.ref b1), .val (.ref b14), .val (.int (0 : Int32)), .unset] [(.long bv1), (.ref b1)])) rfl (by rw [hml]; rfl) (argsL := [(.long bv1)]) (rest := [(.ref b1)]) (lenOf pd0_2 rfl) rfl (by show 2 * 0 + _ ≤ _; exact Nat.le_of_eq rfl) (hb hby at_83) (fun _ _ => ⟨rfl, rfl, (by decide : 2 + 1 ≤ _), (by decide : 4 + 1 ≤ _)⟩)
          dsimp only [Pt.U, Pt.locs, Pt.cells, Pt.slots] at X79 l79 y79 z79 st79 hQ79
          subst l79 y79 z79
          obtain ⟨x79, rfl, N79q, K79, EL79⟩ := hQ79
          have N79 := Fr.app N26 N79q
          refine OFin.back st79 ?_
          have f80 := f27.keep K79 all0
          have f81 := f28.keep K79
          have f82 := f29.keep K79 nin0
          have f83 := f30.keep K79 nin0
          have f84 := EX26.keep K79
          have f85 := FA26.keep K79 nin0
          have f86 := FB26.keep K79 nin0
          have f87 := Nat.le_trans f32 K79.1
          have f88 := f33.trans K79 all0
          show OFin p e below s _ _ Q (T79.setTop (mkF m 86 #[.val (.int lv1), .val (.long bv1), .second, .val (.int lv2), .val (.long bv2), .second, .val (.int md), .val (.int v7), .val (.long v8), .second, .val (.ref b1), .val (.ref b14), .val (.int (0 : Int32)), .unset] [(.ref x79), (.ref b1)]))
          obtain ⟨cq89, kq89, q89a, q89b, q89c⟩ := isOf hZ rfl f81
          obtain ⟨_, _, ⟨T89, L89, k89, n89⟩, -, X89, ⟨Lc89, hQ89, l89, y89, z89⟩, st89⟩ := X79.virtualBack hx (y := (⟨"com/example/mortise/mortise/schema/ContentModel$Drift", "equals", "(Ljava/lang/Object;)Z"⟩ : MethodName)) (z := (⟨"com/example/mortise/mortise/schema/ContentModel$Drift", "equals", "(Ljava/lang/Object;)Z"⟩ : MethodName)) hown (mvT hZ (hw _ (List.mem_of_getElem? (i := 13) rfl))) (mvT hZ (hw _ (List.mem_of_getElem? (i := 14) rfl))) (notFace_of_selects (args := #[]) (mvT hZ (hw _ (List.mem_of_getElem? (i := 16) rfl)))) (mvT hZ (hw _ (List.mem_of_getElem? (i := 16) rfl))) (mvT hZ (hw _ (List.mem_of_getElem? (i := 15) rfl))) (by decide) (backOf (W := 0) (rm2l l Z a0 hw [] b1 x79 (T79.heap) n0 f87 EL79) hZ (hw _ (List.mem_of_getElem? (i := 17) rfl)) (hw _ (List.mem_of_getElem? (i := 2) rfl)) (by decide) (by decide)) q89a q89c (g := (mkF m 86 #[.val (.int lv1), .val (.long bv1), .second, .val (.int lv2), .val (.long bv2), .second, .val (.int md), .val (.int v7), .val (.long v8), .second, .val (.ref b1), .val (.ref b14), .val (.int (0 : Int32)), .unset] [(.ref x79), (.ref b1)])) rfl (by rw [hml]; rfl) (Steps.refl _) (argsL := [(.ref x79)]) (rest := []) (lenOf pd0_1 rfl) rfl (by show 2 * 0 + _ ≤ _; exact Nat.le_of_eq rfl) (hb hby at_86) (fun _ _ => ⟨rfl, rfl, (by decide : 3 + 0 ≤ _), (by decide : 5 + 0 ≤ _)⟩)
          dsimp only [Pt.U, Pt.locs, Pt.cells, Pt.slots] at X89 l89 y89 z89 st89 hQ89
          subst l89 y89 z89
          obtain ⟨rfl, N89q, e89⟩ := hQ89
          have N89 := Fr.app N79 N89q
          refine OFin.via st89 ?_
          show OFin p e below s _ _ Q (T89.setTop (mkF m 89 #[.val (.int lv1), .val (.long bv1), .second, .val (.int lv2), .val (.long bv2), .second, .val (.int md), .val (.int v7), .val (.long v8), .second, .val (.ref b1), .val (.ref b14), .val (.int (0 : Int32)), .unset] [(.int (0 : Int32))]))
          refine OFin.back (fun _ hr => XS.goto X89.here hx rfl (pc0 := 89) (pc' := 98) rfl (hb hby at_89) (by decide) (by decide) hr) ?_
          show OFin p e below s _ _ Q (T89.setTop (mkF m 98 #[.val (.int lv1), .val (.long bv1), .second, .val (.int lv2), .val (.long bv2), .second, .val (.int md), .val (.int v7), .val (.long v8), .second, .val (.ref b1), .val (.ref b14), .val (.int (0 : Int32)), .unset] [(.int (0 : Int32))]))
          refine OFin.back (fun _ hr => XS.istore X89.here hx rfl (hb hby at_98) rfl (l' := #[.val (.int lv1), .val (.long bv1), .second, .val (.int lv2), .val (.long bv2), .second, .val (.int md), .val (.int v7), .val (.long v8), .second, .val (.ref b1), .val (.ref b14), .val (.int (0 : Int32)), .val (.int (0 : Int32))]) rfl hr) ?_
          show OFin p e below s _ _ Q (T89.setTop (mkF m 100 #[.val (.int lv1), .val (.long bv1), .second, .val (.int lv2), .val (.long bv2), .second, .val (.int md), .val (.int v7), .val (.long v8), .second, .val (.ref b1), .val (.ref b14), .val (.int (0 : Int32)), .val (.int (0 : Int32))] []))
          refine OFin.back (fun _ hr => XS.aload X89.here hx rfl (hb hby at_100) rfl rfl hr) ?_
          show OFin p e below s _ _ Q (T89.setTop (mkF m 102 #[.val (.int lv1), .val (.long bv1), .second, .val (.int lv2), .val (.long bv2), .second, .val (.int md), .val (.int v7), .val (.long v8), .second, .val (.ref b1), .val (.ref b14), .val (.int (0 : Int32)), .val (.int (0 : Int32))] [(.ref b1)]))
          refine OFin.back (fun _ hr => XS.aload X89.here hx rfl (hb hby at_102) rfl rfl hr) ?_
          show OFin p e below s _ _ Q (T89.setTop (mkF m 104 #[.val (.int lv1), .val (.long bv1), .second, .val (.int lv2), .val (.long bv2), .second, .val (.int md), .val (.int v7), .val (.long v8), .second, .val (.ref b1), .val (.ref b14), .val (.int (0 : Int32)), .val (.int (0 : Int32))] [(.ref b14), (.ref b1)]))
          obtain ⟨cq90, kq90, q90a, q90b, q90c⟩ := isOf hZ e89 f81
          obtain ⟨_, _, ⟨T90, L90, k90, n90⟩, -, X90, ⟨Lc90, hQ90, l90, y90, z90⟩, st90⟩ := X89.virtualBack hx (y := (⟨"com/example/mortise/mortise/schema/ContentModel$Drift", "equals", "(Ljava/lang/Object;)Z"⟩ : MethodName)) (z := (⟨"com/example/mortise/mortise/schema/ContentModel$Drift", "equals", "(Ljava/lang/Object;)Z"⟩ : MethodName)) hown (mvT hZ (hw _ (List.mem_of_getElem? (i := 13) rfl))) (mvT hZ (hw _ (List.mem_of_getElem? (i := 14) rfl))) (notFace_of_selects (args := #[]) (mvT hZ (hw _ (List.mem_of_getElem? (i := 16) rfl)))) (mvT hZ (hw _ (List.mem_of_getElem? (i := 16) rfl))) (mvT hZ (hw _ (List.mem_of_getElem? (i := 15) rfl))) (by decide) (backOf (W := 0) (rm2d l Z a0 hw [] b1 b14 lv1 bv1 v7 v8 (T79.heap) n0 f87 f82 f83 f85 f86 f84) hZ (hw _ (List.mem_of_getElem? (i := 17) rfl)) (hw _ (List.mem_of_getElem? (i := 2) rfl)) (by decide) (by decide)) q90a q90c (g := (mkF m 104 #[.val (.int lv1), .val (.long bv1), .second, .val (.int lv2), .val (.long bv2), .second, .val (.int md), .val (.int v7), .val (.long v8), .second, .val (.ref b1), .val (.ref b14), .val (.int (0 : Int32)), .val (.int (0 : Int32))] [(.ref b14), (.ref b1)])) rfl (by rw [hml]; rfl) (Steps.refl _) (argsL := [(.ref b14)]) (rest := []) (lenOf pd0_1 rfl) rfl (by show 2 * 0 + _ ≤ _; exact Nat.le_of_eq rfl) (hb hby at_104) (fun _ _ => ⟨rfl, e89, (by decide : 3 + 0 ≤ _), (by decide : 5 + 0 ≤ _)⟩)
          dsimp only [Pt.U, Pt.locs, Pt.cells, Pt.slots] at X90 l90 y90 z90 st90 hQ90
          subst l90 y90 z90
          obtain ⟨rfl, N90q, e90⟩ := hQ90
          have N90 := Fr.app N89 N90q
          refine OFin.via st90 ?_
          rw [show (own_eq lv1 bv1 v7 v8) = (0 : Int32) from own_eqF (fun q => hc56_34 q.1)]
          show OFin p e below s _ _ Q (T90.setTop (mkF m 107 #[.val (.int lv1), .val (.long bv1), .second, .val (.int lv2), .val (.long bv2), .second, .val (.int md), .val (.int v7), .val (.long v8), .second, .val (.ref b1), .val (.ref b14), .val (.int (0 : Int32)), .val (.int (0 : Int32))] [(.int (0 : Int32))]))
          refine OFin.back (fun _ hr => XS.iload X90.here hx rfl (hb hby at_107) rfl hr) ?_
          show OFin p e below s _ _ Q (T90.setTop (mkF m 109 #[.val (.int lv1), .val (.long bv1), .second, .val (.int lv2), .val (.long bv2), .second, .val (.int md), .val (.int v7), .val (.long v8), .second, .val (.ref b1), .val (.ref b14), .val (.int (0 : Int32)), .val (.int (0 : Int32))] [(.int (0 : Int32)), (.int (0 : Int32))]))
          refine OFin.back (fun _ hr => XS.icmpNo X90.here hx rfl (hb hby at_109) rfl (teq (by decide : (0 : Int32) = (0 : Int32))).2 hr) ?_
          show OFin p e below s _ _ Q (T90.setTop (mkF m 112 #[.val (.int lv1), .val (.long bv1), .second, .val (.int lv2), .val (.long bv2), .second, .val (.int md), .val (.int v7), .val (.long v8), .second, .val (.ref b1), .val (.ref b14), .val (.int (0 : Int32)), .val (.int (0 : Int32))] []))
          refine OFin.back (fun _ hr => XS.aload X90.here hx rfl (hb hby at_112) rfl rfl hr) ?_
          show OFin p e below s _ _ Q (T90.setTop (mkF m 114 #[.val (.int lv1), .val (.long bv1), .second, .val (.int lv2), .val (.long bv2), .second, .val (.int md), .val (.int v7), .val (.long v8), .second, .val (.ref b1), .val (.ref b14), .val (.int (0 : Int32)), .val (.int (0 : Int32))] [(.ref b14)]))
          refine OFin.back (fun _ hr => XS.aload X90.here hx rfl (hb hby at_114) rfl rfl hr) ?_
          show OFin p e below s _ _ Q (T90.setTop (mkF m 116 #[.val (.int lv1), .val (.long bv1), .second, .val (.int lv2), .val (.long bv2), .second, .val (.int md), .val (.int v7), .val (.long v8), .second, .val (.ref b1), .val (.ref b14), .val (.int (0 : Int32)), .val (.int (0 : Int32))] [(.ref b1), (.ref b14)]))
          obtain ⟨cq91, kq91, q91a, q91b, q91c⟩ := isOf hZ e90 f84
          obtain ⟨_, _, ⟨T91, L91, k91, n91⟩, -, X91, ⟨Lc91, hQ91, l91, y91, z91⟩, st91⟩ := X90.virtualBack hx (y := (⟨"com/example/mortise/mortise/schema/ContentModel$Drift", "equals", "(Ljava/lang/Object;)Z"⟩ : MethodName)) (z := (⟨"com/example/mortise/mortise/schema/ContentModel$Drift", "equals", "(Ljava/lang/Object;)Z"⟩ : MethodName)) hown (mvT hZ (hw _ (List.mem_of_getElem? (i := 13) rfl))) (mvT hZ (hw _ (List.mem_of_getElem? (i := 14) rfl))) (notFace_of_selects (args := #[]) (mvT hZ (hw _ (List.mem_of_getElem? (i := 16) rfl)))) (mvT hZ (hw _ (List.mem_of_getElem? (i := 16) rfl))) (mvT hZ (hw _ (List.mem_of_getElem? (i := 15) rfl))) (by decide) (backOf (W := 0) (rm2d l Z a0 hw [] b14 b1 v7 v8 lv1 bv1 (T79.heap) n0 f87 f85 f86 f82 f83 f81) hZ (hw _ (List.mem_of_getElem? (i := 17) rfl)) (hw _ (List.mem_of_getElem? (i := 2) rfl)) (by decide) (by decide)) q91a q91c (g := (mkF m 116 #[.val (.int lv1), .val (.long bv1), .second, .val (.int lv2), .val (.long bv2), .second, .val (.int md), .val (.int v7), .val (.long v8), .second, .val (.ref b1), .val (.ref b14), .val (.int (0 : Int32)), .val (.int (0 : Int32))] [(.ref b1), (.ref b14)])) rfl (by rw [hml]; rfl) (Steps.refl _) (argsL := [(.ref b1)]) (rest := []) (lenOf pd0_1 rfl) rfl (by show 2 * 0 + _ ≤ _; exact Nat.le_of_eq rfl) (hb hby at_116) (fun _ _ => ⟨rfl, e90, (by decide : 3 + 0 ≤ _), (by decide : 5 + 0 ≤ _)⟩)
          dsimp only [Pt.U, Pt.locs, Pt.cells, Pt.slots] at X91 l91 y91 z91 st91 hQ91
          subst l91 y91 z91
          obtain ⟨rfl, N91q, e91⟩ := hQ91
          have N91 := Fr.app N90 N91q
          refine OFin.via st91 ?_
          rw [show (own_eq v7 v8 lv1 bv1) = (0 : Int32) from own_eqF (fun q => hc56_34 q.1.symm)]
          show OFin p e below s _ _ Q (T91.setTop (mkF m 119 #[.val (.int lv1), .val (.long bv1), .second, .val (.int lv2), .val (.long bv2), .second, .val (.int md), .val (.int v7), .val (.long v8), .second, .val (.ref b1), .val (.ref b14), .val (.int (0 : Int32)), .val (.int (0 : Int32))] [(.int (0 : Int32))]))
          refine OFin.back (fun _ hr => XS.iload X91.here hx rfl (hb hby at_119) rfl hr) ?_
          show OFin p e below s _ _ Q (T91.setTop (mkF m 121 #[.val (.int lv1), .val (.long bv1), .second, .val (.int lv2), .val (.long bv2), .second, .val (.int md), .val (.int v7), .val (.long v8), .second, .val (.ref b1), .val (.ref b14), .val (.int (0 : Int32)), .val (.int (0 : Int32))] [(.int (0 : Int32)), (.int (0 : Int32))]))
          refine OFin.back (fun _ hr => XS.icmpNo X91.here hx rfl (hb hby at_121) rfl (teq (by decide : (0 : Int32) = (0 : Int32))).2 hr) ?_
          show OFin p e below s _ _ Q (T91.setTop (mkF m 124 #[.val (.int lv1), .val (.long bv1), .second, .val (.int lv2), .val (.long bv2), .second, .val (.int md), .val (.int v7), .val (.long v8), .second, .val (.ref b1), .val (.ref b14), .val (.int (0 : Int32)), .val (.int (0 : Int32))] []))
          refine OFin.back (fun _ hr => XS.aload X91.here hx rfl (hb hby at_124) rfl rfl hr) ?_
          show OFin p e below s _ _ Q (T91.setTop (mkF m 126 #[.val (.int lv1), .val (.long bv1), .second, .val (.int lv2), .val (.long bv2), .second, .val (.int md), .val (.int v7), .val (.long v8), .second, .val (.ref b1), .val (.ref b14), .val (.int (0 : Int32)), .val (.int (0 : Int32))] [(.ref b1)]))
          refine OFin.back (fun _ hr => XS.aload X91.here hx rfl (hb hby at_126) rfl rfl hr) ?_
          show OFin p e below s _ _ Q (T91.setTop (mkF m 128 #[.val (.int lv1), .val (.long bv1), .second, .val (.int lv2), .val (.long bv2), .second, .val (.int md), .val (.int v7), .val (.long v8), .second, .val (.ref b1), .val (.ref b14), .val (.int (0 : Int32)), .val (.int (0 : Int32))] [(.ref b1), (.ref b1)]))
          obtain ⟨cq92, kq92, q92a, q92b, q92c⟩ := isOf hZ e91 f81
          obtain ⟨_, _, ⟨T92, L92, k92, n92⟩, -, X92, ⟨Lc92, hQ92, l92, y92, z92⟩, st92⟩ := X91.virtualBack hx (y := (⟨"com/example/mortise/mortise/schema/ContentModel$Drift", "equals", "(Ljava/lang/Object;)Z"⟩ : MethodName)) (z := (⟨"com/example/mortise/mortise/schema/ContentModel$Drift", "equals", "(Ljava/lang/Object;)Z"⟩ : MethodName)) hown (mvT hZ (hw _ (List.mem_of_getElem? (i := 13) rfl))) (mvT hZ (hw _ (List.mem_of_getElem? (i := 14) rfl))) (notFace_of_selects (args := #[]) (mvT hZ (hw _ (List.mem_of_getElem? (i := 16) rfl)))) (mvT hZ (hw _ (List.mem_of_getElem? (i := 16) rfl))) (mvT hZ (hw _ (List.mem_of_getElem? (i := 15) rfl))) (by decide) (backOf (W := 0) (rm2d l Z a0 hw [] b1 b1 lv1 bv1 lv1 bv1 (T79.heap) n0 f87 f82 f83 f82 f83 f81) hZ (hw _ (List.mem_of_getElem? (i := 17) rfl)) (hw _ (List.mem_of_getElem? (i := 2) rfl)) (by decide) (by decide)) q92a q92c (g := (mkF m 128 #[.val (.int lv1), .val (.long bv1), .second, .val (.int lv2), .val (.long bv2), .second, .val (.int md), .val (.int v7), .val (.long v8), .second, .val (.ref b1), .val (.ref b14), .val (.int (0 : Int32)), .val (.int (0 : Int32))] [(.ref b1), (.ref b1)])) rfl (by rw [hml]; rfl) (Steps.refl _) (argsL := [(.ref b1)]) (rest := []) (lenOf pd0_1 rfl) rfl (by show 2 * 0 + _ ≤ _; exact Nat.le_of_eq rfl) (hb hby at_128) (fun _ _ => ⟨rfl, e91, (by decide : 3 + 0 ≤ _), (by decide : 5 + 0 ≤ _)⟩)
          dsimp only [Pt.U, Pt.locs, Pt.cells, Pt.slots] at X92 l92 y92 z92 st92 hQ92
          subst l92 y92 z92
          obtain ⟨rfl, N92q, e92⟩ := hQ92
          have N92 := Fr.app N91 N92q
          refine OFin.via st92 ?_
          rw [show (own_eq lv1 bv1 lv1 bv1) = (1 : Int32) from own_eqT rfl rfl]
          show OFin p e below s _ _ Q (T92.setTop (mkF m 131 #[.val (.int lv1), .val (.long bv1), .second, .val (.int lv2), .val (.long bv2), .second, .val (.int md), .val (.int v7), .val (.long v8), .second, .val (.ref b1), .val (.ref b14), .val (.int (0 : Int32)), .val (.int (0 : Int32))] [(.int (1 : Int32))]))
          refine OFin.back (fun _ hr => XS.ifNo X92.here hx rfl (hb hby at_131) rfl ((if0 _ _).trans (feq (by decide : ¬ ((1 : Int32) = (0 : Int32)))).1) hr) ?_
          show OFin p e below s _ _ Q (T92.setTop (mkF m 134 #[.val (.int lv1), .val (.long bv1), .second, .val (.int lv2), .val (.long bv2), .second, .val (.int md), .val (.int v7), .val (.long v8), .second, .val (.ref b1), .val (.ref b14), .val (.int (0 : Int32)), .val (.int (0 : Int32))] []))
          refine OFin.back (fun _ hr => XS.iload X92.here hx rfl (hb hby at_134) rfl hr) ?_
          show OFin p e below s _ _ Q (T92.setTop (mkF m 136 #[.val (.int lv1), .val (.long bv1), .second, .val (.int lv2), .val (.long bv2), .second, .val (.int md), .val (.int v7), .val (.long v8), .second, .val (.ref b1), .val (.ref b14), .val (.int (0 : Int32)), .val (.int (0 : Int32))] [(.int (0 : Int32))]))
          refine OFin.back (fun _ hr => XS.ifNo X92.here hx rfl (hb hby at_136) rfl ((if0 _ _).trans (teq (by decide : (0 : Int32) = (0 : Int32))).2) hr) ?_
          show OFin p e below s _ _ Q (T92.setTop (mkF m 139 #[.val (.int lv1), .val (.long bv1), .second, .val (.int lv2), .val (.long bv2), .second, .val (.int md), .val (.int v7), .val (.long v8), .second, .val (.ref b1), .val (.ref b14), .val (.int (0 : Int32)), .val (.int (0 : Int32))] []))
          refine OFin.back (fun _ hr => XS.iconst X92.here hx rfl (hb hby at_139) hr) ?_
          show OFin p e below s _ _ Q (T92.setTop (mkF m 140 #[.val (.int lv1), .val (.long bv1), .second, .val (.int lv2), .val (.long bv2), .second, .val (.int md), .val (.int v7), .val (.long v8), .second, .val (.ref b1), .val (.ref b14), .val (.int (0 : Int32)), .val (.int (0 : Int32))] [(.int (1 : Int32))]))
          refine OFin.back (fun _ hr => XS.goto X92.here hx rfl (pc0 := 140) (pc' := 144) rfl (hb hby at_140) (by decide) (by decide) hr) ?_
          show OFin p e below s _ _ Q (T92.setTop (mkF m 144 #[.val (.int lv1), .val (.long bv1), .second, .val (.int lv2), .val (.long bv2), .second, .val (.int md), .val (.int v7), .val (.long v8), .second, .val (.ref b1), .val (.ref b14), .val (.int (0 : Int32)), .val (.int (0 : Int32))] [(.int (1 : Int32))]))
          exact OFin.outN (t := .boolean) X92 hx Bd.returns (by simp) Bd.notSynchronized (hb hby at_144) (by decide) (by decide) e92 (by rw [hQ]; exact ⟨rfl, N92⟩)
    refine OFin.back (fun _ hr => XS.iload X0.here hx rfl (hb hby at_14) rfl hr) ?_
    show OFin p e below s _ _ Q (s₁.setTop (mkF m 16 #[.val (.int lv1), .val (.long bv1), .second, .val (.int lv2), .val (.long bv2), .second, .val (.int md), .val (.int v7), .unset, .unset, .unset, .unset, .unset, .unset] [(.int md)]))
    refine OFin.back (fun _ hr => XS.iconst X0.here hx rfl (hb hby at_16) hr) ?_
    show OFin p e below s _ _ Q (s₁.setTop (mkF m 17 #[.val (.int lv1), .val (.long bv1), .second, .val (.int lv2), .val (.long bv2), .second, .val (.int md), .val (.int v7), .unset, .unset, .unset, .unset, .unset, .unset] [(.int (2 : Int32)), (.int md)]))
    refine OFin.back (fun _ hr => XS.iand X0.here hx rfl (hb hby at_17) rfl hr) ?_
    show OFin p e below s _ _ Q (s₁.setTop (mkF m 18 #[.val (.int lv1), .val (.long bv1), .second, .val (.int lv2), .val (.long bv2), .second, .val (.int md), .val (.int v7), .unset, .unset, .unset, .unset, .unset, .unset] [(.int (md &&& (2 : Int32)))]))
    by_cases hc18_93 : (md &&& (2 : Int32)) = (0 : Int32)
    · -- (md &&& (2 : Int32)) = (0 : Int32)
      refine OFin.back (fun _ hr => XS.ifYes X0.here hx rfl (pc0 := 18) (pc' := 25) rfl (hb hby at_18) rfl ((if0 _ _).trans (teq hc18_93).1) (by decide) (by decide) hr) ?_
      show OFin p e below s _ _ Q (s₁.setTop (mkF m 25 #[.val (.int lv1), .val (.long bv1), .second, .val (.int lv2), .val (.long bv2), .second, .val (.int md), .val (.int v7), .unset, .unset, .unset, .unset, .unset, .unset] []))
      refine OFin.back (fun _ hr => XS.lload X0.here hx rfl (hb hby at_25) rfl hr) ?_
      show OFin p e below s _ _ Q (s₁.setTop (mkF m 27 #[.val (.int lv1), .val (.long bv1), .second, .val (.int lv2), .val (.long bv2), .second, .val (.int md), .val (.int v7), .unset, .unset, .unset, .unset, .unset, .unset] [(.long bv2)]))
      refine OFin.back (fun _ hr => XS.lstore X0.here hx rfl (hb hby at_27) rfl (l' := #[.val (.int lv1), .val (.long bv1), .second, .val (.int lv2), .val (.long bv2), .second, .val (.int md), .val (.int v7), .val (.long bv2), .second, .unset, .unset, .unset, .unset]) rfl hr) ?_
      show OFin p e below s _ _ Q (s₁.setTop (mkF m 29 #[.val (.int lv1), .val (.long bv1), .second, .val (.int lv2), .val (.long bv2), .second, .val (.int md), .val (.int v7), .val (.long bv2), .second, .unset, .unset, .unset, .unset] []))
      exact J29 _
    · -- not (md &&& (2 : Int32)) = (0 : Int32)
      refine OFin.back (fun _ hr => XS.ifNo X0.here hx rfl (hb hby at_18) rfl ((if0 _ _).trans (feq hc18_93).1) hr) ?_
      show OFin p e below s _ _ Q (s₁.setTop (mkF m 21 #[.val (.int lv1), .val (.long bv1), .second, .val (.int lv2), .val (.long bv2), .second, .val (.int md), .val (.int v7), .unset, .unset, .unset, .unset, .unset, .unset] []))
      refine OFin.back (fun _ hr => XS.lloadN X0.here hx rfl (hb hby at_21) rfl hr) ?_
      show OFin p e below s _ _ Q (s₁.setTop (mkF m 22 #[.val (.int lv1), .val (.long bv1), .second, .val (.int lv2), .val (.long bv2), .second, .val (.int md), .val (.int v7), .unset, .unset, .unset, .unset, .unset, .unset] [(.long bv1)]))
      refine OFin.back (fun _ hr => XS.goto X0.here hx rfl (pc0 := 22) (pc' := 27) rfl (hb hby at_22) (by decide) (by decide) hr) ?_
      show OFin p e below s _ _ Q (s₁.setTop (mkF m 27 #[.val (.int lv1), .val (.long bv1), .second, .val (.int lv2), .val (.long bv2), .second, .val (.int md), .val (.int v7), .unset, .unset, .unset, .unset, .unset, .unset] [(.long bv1)]))
      refine OFin.back (fun _ hr => XS.lstore X0.here hx rfl (hb hby at_27) rfl (l' := #[.val (.int lv1), .val (.long bv1), .second, .val (.int lv2), .val (.long bv2), .second, .val (.int md), .val (.int v7), .val (.long bv1), .second, .unset, .unset, .unset, .unset]) rfl hr) ?_
      show OFin p e below s _ _ Q (s₁.setTop (mkF m 29 #[.val (.int lv1), .val (.long bv1), .second, .val (.int lv2), .val (.long bv2), .second, .val (.int md), .val (.int v7), .val (.long bv1), .second, .unset, .unset, .unset, .unset] []))
      exact J29 _
  refine OFin.back (fun _ hr => XS.iload X0.here hx rfl (hb hby at_0) rfl hr) ?_
  show OFin p e below s _ _ Q (s₁.setTop (mkF m 2 #[.val (.int lv1), .val (.long bv1), .second, .val (.int lv2), .val (.long bv2), .second, .val (.int md), .unset, .unset, .unset, .unset, .unset, .unset, .unset] [(.int md)]))
  refine OFin.back (fun _ hr => XS.iconst X0.here hx rfl (hb hby at_2) hr) ?_
  show OFin p e below s _ _ Q (s₁.setTop (mkF m 3 #[.val (.int lv1), .val (.long bv1), .second, .val (.int lv2), .val (.long bv2), .second, .val (.int md), .unset, .unset, .unset, .unset, .unset, .unset, .unset] [(.int (1 : Int32)), (.int md)]))
  refine OFin.back (fun _ hr => XS.iand X0.here hx rfl (hb hby at_3) rfl hr) ?_
  show OFin p e below s _ _ Q (s₁.setTop (mkF m 4 #[.val (.int lv1), .val (.long bv1), .second, .val (.int lv2), .val (.long bv2), .second, .val (.int md), .unset, .unset, .unset, .unset, .unset, .unset, .unset] [(.int (md &&& (1 : Int32)))]))
  by_cases hc4_94 : (md &&& (1 : Int32)) = (0 : Int32)
  · -- (md &&& (1 : Int32)) = (0 : Int32)
    refine OFin.back (fun _ hr => XS.ifYes X0.here hx rfl (pc0 := 4) (pc' := 11) rfl (hb hby at_4) rfl ((if0 _ _).trans (teq hc4_94).1) (by decide) (by decide) hr) ?_
    show OFin p e below s _ _ Q (s₁.setTop (mkF m 11 #[.val (.int lv1), .val (.long bv1), .second, .val (.int lv2), .val (.long bv2), .second, .val (.int md), .unset, .unset, .unset, .unset, .unset, .unset, .unset] []))
    refine OFin.back (fun _ hr => XS.iloadN X0.here hx rfl (hb hby at_11) rfl hr) ?_
    show OFin p e below s _ _ Q (s₁.setTop (mkF m 12 #[.val (.int lv1), .val (.long bv1), .second, .val (.int lv2), .val (.long bv2), .second, .val (.int md), .unset, .unset, .unset, .unset, .unset, .unset, .unset] [(.int lv2)]))
    refine OFin.back (fun _ hr => XS.istore X0.here hx rfl (hb hby at_12) rfl (l' := #[.val (.int lv1), .val (.long bv1), .second, .val (.int lv2), .val (.long bv2), .second, .val (.int md), .val (.int lv2), .unset, .unset, .unset, .unset, .unset, .unset]) rfl hr) ?_
    show OFin p e below s _ _ Q (s₁.setTop (mkF m 14 #[.val (.int lv1), .val (.long bv1), .second, .val (.int lv2), .val (.long bv2), .second, .val (.int md), .val (.int lv2), .unset, .unset, .unset, .unset, .unset, .unset] []))
    exact J14 _
  · -- not (md &&& (1 : Int32)) = (0 : Int32)
    refine OFin.back (fun _ hr => XS.ifNo X0.here hx rfl (hb hby at_4) rfl ((if0 _ _).trans (feq hc4_94).1) hr) ?_
    show OFin p e below s _ _ Q (s₁.setTop (mkF m 7 #[.val (.int lv1), .val (.long bv1), .second, .val (.int lv2), .val (.long bv2), .second, .val (.int md), .unset, .unset, .unset, .unset, .unset, .unset, .unset] []))
    refine OFin.back (fun _ hr => XS.iloadN X0.here hx rfl (hb hby at_7) rfl hr) ?_
    show OFin p e below s _ _ Q (s₁.setTop (mkF m 8 #[.val (.int lv1), .val (.long bv1), .second, .val (.int lv2), .val (.long bv2), .second, .val (.int md), .unset, .unset, .unset, .unset, .unset, .unset, .unset] [(.int lv1)]))
    refine OFin.back (fun _ hr => XS.goto X0.here hx rfl (pc0 := 8) (pc' := 12) rfl (hb hby at_8) (by decide) (by decide) hr) ?_
    show OFin p e below s _ _ Q (s₁.setTop (mkF m 12 #[.val (.int lv1), .val (.long bv1), .second, .val (.int lv2), .val (.long bv2), .second, .val (.int md), .unset, .unset, .unset, .unset, .unset, .unset, .unset] [(.int lv1)]))
    refine OFin.back (fun _ hr => XS.istore X0.here hx rfl (hb hby at_12) rfl (l' := #[.val (.int lv1), .val (.long bv1), .second, .val (.int lv2), .val (.long bv2), .second, .val (.int md), .val (.int lv1), .unset, .unset, .unset, .unset, .unset, .unset]) rfl hr) ?_
    show OFin p e below s _ _ Q (s₁.setTop (mkF m 14 #[.val (.int lv1), .val (.long bv1), .second, .val (.int lv2), .val (.long bv2), .second, .val (.int md), .val (.int lv1), .unset, .unset, .unset, .unset, .unset, .unset] []))
    exact J14 _
set_option maxRecDepth 65536 in
set_option maxHeartbeats 40000000 in
theorem comes_1 {Post : Tables → Env → Array Value → State → Outcome → State → Prop} (hpost : ∀ tb e args s v u, (limb_1_1.after args s (.returned v) u = true ∧ limb_1_2.after args s (.returned v) u = true ∧ True) → FrameEnd s (.returned v) u (Jvm.fieldLocs frame_1_writes args s ++ Jvm.arrayLocs frame_1_arrays args s ++ Jvm.staticLocs frame_1_statics s) 16 128 → Post tb e args s (.returned v) u) :
    ArmFor flags0 classFile x code maxLocals ret World_1 tables_1 room_1 Calls_1 rest_1 Pre_1 Post := by
  intro l hfl _ _ p e ha hc hk s m args below hf hA hF happ hP
  obtain ⟨hcalls, hrest, hpre⟩ := hP
  obtain ⟨-, -, -, hnamed, -, -, -, hat⟩ := (Spec.applies_iff hf).mp happ
  obtain ⟨hg, hn⟩ := and_e (Cond.before_iff.mp (show (Jvm.Cond.and given_1 narrow_1).before args s = true from hpre))
  obtain ⟨hga, hgb⟩ := and_e hg
  obtain ⟨hgba, hgbb⟩ := and_e hgb
  obtain ⟨hgbba, hgbbb⟩ := and_e hgbb
  obtain ⟨hgbbba, hgbbbb⟩ := and_e hgbbb
  obtain ⟨hgbbbba, hgbbbbb⟩ := and_e hgbbbb
  obtain ⟨w0, w1, w2, w3, w4, rfl⟩ : ∃ w0 w1 w2 w3 w4 : Value, args = #[w0, w1, w2, w3, w4] := by
    have hs : args.size = 5 := by simpa [Cond.value, given_1] using hga
    obtain ⟨L⟩ := args
    match L, hs with
    | [w0, w1, w2, w3, w4], _ => exact ⟨w0, w1, w2, w3, w4, rfl⟩
  have hw := fun d (hd : d ∈ tables_1) => atoms_spec (ws := Jvm.Cond.code x code maxLocals ret :: tables_1) hat d (List.mem_cons_of_mem _ hd)
  have hfit : Fit s := fun {y c} hc i hi => by
    obtain ⟨ha, rfl⟩ := Array.getElem?_eq_some_iff.mp hc
    have q := List.all_eq_true.mp ((Array.all_eq_true_iff_forall_mem.mp hF) _ (Array.getElem_mem ha)) i (List.mem_range.mpr hi)
    simpa [Array.getElem?_eq_getElem hi] using q
  obtain ⟨hsets, hown0⟩ := atoms_of _ (rest_1_c_eq ▸ (show rest_1_c.before _ s = true from hrest))
  have hr0 := Cond.before_iff.mp hown0
  obtain ⟨i0, ei0⟩ := is_v hgba
  obtain rfl : w0 = (.int i0) := Option.some.inj ei0
  obtain ⟨i1, ei1⟩ := isL_v hgbba
  obtain rfl : w1 = (.long i1) := Option.some.inj ei1
  obtain ⟨i2, ei2⟩ := is_v hgbbba
  obtain rfl : w2 = (.int i2) := Option.some.inj ei2
  obtain ⟨i3, ei3⟩ := isL_v hgbbbba
  obtain rfl : w3 = (.long i3) := Option.some.inj ei3
  obtain ⟨i4, ei4⟩ := is_v hgbbbbb
  obtain rfl : w4 = (.int i4) := Option.some.inj ei4
  obtain ⟨ac, ev⟩ := exa_v (Cond.before_iff.mp (hsets _ (List.mem_of_getElem? (i := 3) rfl)))
  have S1 := Sta.start ev (Or.inl (hsets _ (List.mem_of_getElem? (i := 1) rfl)))
  obtain ⟨cl, Ar⟩ := Arr.start ev (Cond.before_iff.mp (hsets _ (List.mem_of_getElem? (i := 2) rfl)))
  have HC := own_cache ev Ar (hsets _ (List.mem_of_getElem? (i := 4) rfl)) (hsets _ (List.mem_of_getElem? (i := 5) rfl))
  obtain ⟨n, o, h1, h2, h3, _, L, rfl, ⟨rfl, N⟩, hq⟩ := rm0 l s _ hw tables_1 i0 i1 i2 i3 i4 ac cl s.heap s.heap.size (Nat.le_refl _) (Old.start s) S1 Ar HC p e ha hc hk s m _ below hf ((Spec.applies_iff_loose hf).mp happ).1 ⟨rfl, State.Warmed39.refl s, rfl⟩ trivial
  refine ⟨n, _, h1, h2, h3, hpost _ _ _ _ _ _ ⟨Cond.after_iff.mpr rfl, Cond.after_iff.mpr (eq_i res_at (Term.int_eval (1)) rfl), trivial⟩ ⟨hq.1, hq.2.1, (hq.2.2.sift fun y hy => Or.inr (N y hy)).mono (by decide) (by decide)⟩⟩
theorem main_1_1 : Claimed_1_1 := comes_1 fun _ _ _ _ _ _ h hF => ⟨h.1, hF⟩
theorem main_1_2 : Claimed_1_2 := comes_1 fun _ _ _ _ _ _ h hF => ⟨h.2.1, hF⟩
end Jvm.Pilot.@@N@@
namespace Jvm.Pilot.@@N@@
open Jvm Jvm.ClassFile Sem Op Lib Jvm.Free Jvm.Stand Jvm.Pilot.@@N@@.Jvm.D
/-! MADE BY PROGRAM (witnessworld.py) out of the Statement's table words and the real class files: 16 classes; the members and pool entries that the words name. The judged class is class 1, her method 1. -/
namespace start1
open Jvm.ClassFile
def u (s : String) : CpInfo := .utf8 (stringToUtf16 s)
/-- a pool by its gaps: so many unusable entries, then the entry; so many at the end -/
def gap : Nat → List CpInfo → List CpInfo
  | 0, r => r
  | n + 1, r => .unusable :: gap n r
def poolList (es : List (Nat × CpInfo)) (last : Nat) : List CpInfo := es.foldr (fun e r => gap e.1 (e.2 :: r)) (gap last [])
def pool (es : List (Nat × CpInfo)) (last : Nat) : Array CpInfo := ⟨poolList es last⟩
def fileOf (pool : Array CpInfo) (this : Nat) (attrs : Array Attribute := #[]) (ms : Array MethodInfo := #[]) (fl : Nat := 33) (sup : Nat := 0) (ifs : Array Nat := #[]) (fds : Array FieldInfo := #[]) : ClassFile where
  minorVersion := 0
  majorVersion := 65
  constantPool := pool
  accessFlags := fl
  thisClass := this
  superClass := sup
  interfaces := ifs
  fields := fds
  methods := ms
  attributes := attrs
def plain (name : String) (sup : Option ClassId) : Class where
  name := name
  kind := .ordinary
  loader := none
  accessFlags := 33
  super := sup
  interfaces := #[]
  cf := none
  fields := #[]
  methods := #[]
  instanceTypes := #[]
  staticTypes := #[]
  resolved := #[]
  callSites := []
  init := .initialized
  statics := none
  mirror := none

def pool0 : Array CpInfo := pool [(5, u "<init>"), (0, u "()V"), (1, .class_ 10), (1, u "java/lang/Object")] 113

def k0c0 : Code := { maxStack := 0, maxLocals := 1, code := object_method_1_code, exceptionTable := #[], attributes := #[] }
def k0m0 : Method := { name := "<init>", desc := "()V", sig := { parameters := [], returnType := none }, accessFlags := 1, code := some k0c0 }
/-- java/lang/Object -/
def k0 : Class := { plain "java/lang/Object" none with
  accessFlags := 33
  interfaces := #[]
  cf := some (fileOf pool0 8 #[] #[{ accessFlags := 1, nameIndex := 5, descriptorIndex := 6, attributes := #[] }] 33 0 #[] #[])
  fields := #[]
  methods := #[k0m0]
  instanceTypes := #[]
  staticTypes := #[]
  resolved := Array.replicate 124 none
  statics := none }

def pool1 : Array CpInfo := pool [(2, .class_ 4), (1, u "java/lang/Object"), (0, u "<init>"), (0, u "()V"), (0, .class_ 8), (0, u "com/example/mortise/mortise/schema/ContentModel$Drift"), (0, .methodref 7 10), (0, .nameAndType 5 11), (0, u "(IJ)V"), (0, .methodref 13 14), (0, .class_ 15), (0, .nameAndType 16 17), (0, u "java/lang/Long"), (0, u "valueOf"), (0, u "(J)Ljava/lang/Long;"), (0, .methodref 7 19), (0, .nameAndType 20 21), (0, u "equals"), (0, u "(Ljava/lang/Object;)Z"), (0, .class_ 23), (0, u "com/example/mortise/mortise/schema/DriftEqualsPinLaw"), (2, u "law"), (0, u "(IJIJI)Z")] 7

def k1m0 : Method := { name := "<init>", desc := "()V", sig := { parameters := [], returnType := none }, accessFlags := 1, code := none }
def k1c1 : Code := { maxStack := 5, maxLocals := 14, code := code, exceptionTable := #[], attributes := #[] }
def k1m1 : Method := { name := "law", desc := "(IJIJI)Z", sig := { parameters := [.int, .long, .int, .long, .int], returnType := some .boolean }, accessFlags := 9, code := some k1c1 }
/-- com/example/mortise/mortise/schema/DriftEqualsPinLaw -/
def k1 : Class := { plain "com/example/mortise/mortise/schema/DriftEqualsPinLaw" (some 0) with
  accessFlags := 49
  interfaces := #[]
  cf := some (fileOf pool1 22 #[] #[{ accessFlags := 1, nameIndex := 5, descriptorIndex := 6, attributes := #[] }, { accessFlags := 9, nameIndex := 26, descriptorIndex := 27, attributes := #[] }] 49 2 #[] #[])
  fields := #[]
  methods := #[k1m0, k1m1]
  instanceTypes := #[]
  staticTypes := #[]
  resolved := Array.replicate 35 none
  statics := none }

def pool2 : Array CpInfo := pool [(1, .methodref 2 3), (0, .class_ 4), (0, .nameAndType 5 6), (0, u "java/lang/Object"), (0, u "<init>"), (0, u "()V"), (0, .fieldref 8 9), (0, .class_ 10), (0, .nameAndType 11 12), (0, u "com/example/mortise/mortise/schema/ContentModel$Drift"), (0, u "level"), (0, u "I"), (0, .fieldref 8 14), (0, .nameAndType 15 16), (0, u "by"), (0, u "J"), (6, u "(IJ)V"), (3, u "equals"), (0, u "(Ljava/lang/Object;)Z"), (5, .class_ 35), (0, u "com/example/mortise/mortise/schema/ContentModel")] 2

def k2c0 : Code := { maxStack := 3, maxLocals := 4, code := prog_90_method_1_code, exceptionTable := #[], attributes := #[] }
def k2m0 : Method := { name := "<init>", desc := "(IJ)V", sig := { parameters := [.int, .long], returnType := none }, accessFlags := 0, code := some k2c0 }
def k2c1 : Code := { maxStack := 4, maxLocals := 3, code := prog_90_method_3_code, exceptionTable := #[], attributes := #[] }
def k2m1 : Method := { name := "equals", desc := "(Ljava/lang/Object;)Z", sig := { parameters := [(.object "java/lang/Object")], returnType := some .boolean }, accessFlags := 1, code := some k2c1 }
/-- com/example/mortise/mortise/schema/ContentModel$Drift -/
def k2 : Class := { plain "com/example/mortise/mortise/schema/ContentModel$Drift" (some 0) with
  accessFlags := 49
  interfaces := #[]
  cf := some (fileOf pool2 8 #[.nestHost 34] #[{ accessFlags := 0, nameIndex := 5, descriptorIndex := 23, attributes := #[] }, { accessFlags := 1, nameIndex := 27, descriptorIndex := 28, attributes := #[] }] 49 2 #[] #[{ accessFlags := 18, nameIndex := 11, descriptorIndex := 12, attributes := #[] }, { accessFlags := 18, nameIndex := 15, descriptorIndex := 16, attributes := #[] }])
  fields := #[{ name := "level", type := .int, accessFlags := 18, slot := 0, constantValue := 0 }, { name := "by", type := .long, accessFlags := 18, slot := 1, constantValue := 0 }]
  methods := #[k2m0, k2m1]
  instanceTypes := #[.int, .long]
  staticTypes := #[]
  resolved := Array.replicate 38 none
  statics := none }

def pool3 : Array CpInfo := pool [(1, .class_ 2), (0, u "java/io/Serializable"), (0, .class_ 4), (0, u "java/lang/Object")] 2

/-- java/io/Serializable -/
def k3 : Class := { plain "java/io/Serializable" (some 0) with
  accessFlags := 1537
  interfaces := #[]
  cf := some (fileOf pool3 1 #[] #[] 1537 3 #[] #[])
  fields := #[]
  methods := #[]
  instanceTypes := #[]
  staticTypes := #[]
  resolved := Array.replicate 7 none
  statics := none }

def pool4 : Array CpInfo := pool [(1, .methodref 2 3), (0, .class_ 4), (0, .nameAndType 5 6), (0, u "java/lang/Object"), (0, u "<init>"), (0, u "()V"), (1, .class_ 10), (1, u "java/lang/Number"), (2, .class_ 14), (0, u "java/io/Serializable"), (0, u "serialVersionUID"), (0, u "J")] 20

def k4c0 : Code := { maxStack := 1, maxLocals := 1, code := jdk_18_method_1_code, exceptionTable := #[], attributes := #[] }
def k4m0 : Method := { name := "<init>", desc := "()V", sig := { parameters := [], returnType := none }, accessFlags := 1, code := some k4c0 }
/-- java/lang/Number -/
def k4 : Class := { plain "java/lang/Number" (some 0) with
  accessFlags := 1057
  interfaces := #[3]
  cf := some (fileOf pool4 8 #[] #[{ accessFlags := 1, nameIndex := 5, descriptorIndex := 6, attributes := #[] }] 1057 2 #[13] #[{ accessFlags := 26, nameIndex := 15, descriptorIndex := 16, attributes := #[] }])
  fields := #[{ name := "serialVersionUID", type := .long, accessFlags := 26, slot := 0, constantValue := 0 }]
  methods := #[k4m0]
  instanceTypes := #[]
  staticTypes := #[.long]
  resolved := Array.replicate 37 none
  statics := none }

def pool5 : Array CpInfo := pool [(1, .class_ 2), (0, u "java/lang/Comparable"), (0, .class_ 4), (0, u "java/lang/Object")] 7

/-- java/lang/Comparable -/
def k5 : Class := { plain "java/lang/Comparable" (some 0) with
  accessFlags := 1537
  interfaces := #[]
  cf := some (fileOf pool5 1 #[] #[] 1537 3 #[] #[])
  fields := #[]
  methods := #[]
  instanceTypes := #[]
  staticTypes := #[]
  resolved := Array.replicate 12 none
  statics := none }

def pool6 : Array CpInfo := pool [(1, .class_ 2), (0, u "java/lang/constant/Constable"), (0, .class_ 4), (0, u "java/lang/Object")] 6

/-- java/lang/constant/Constable -/
def k6 : Class := { plain "java/lang/constant/Constable" (some 0) with
  accessFlags := 1537
  interfaces := #[]
  cf := some (fileOf pool6 1 #[] #[] 1537 3 #[] #[])
  fields := #[]
  methods := #[]
  instanceTypes := #[]
  staticTypes := #[]
  resolved := Array.replicate 11 none
  statics := none }

def pool7 : Array CpInfo := pool [(1, .class_ 2), (0, u "java/lang/constant/ConstantDesc"), (0, .class_ 4), (0, u "java/lang/Object")] 32

/-- java/lang/constant/ConstantDesc -/
def k7 : Class := { plain "java/lang/constant/ConstantDesc" (some 0) with
  accessFlags := 1537
  interfaces := #[]
  cf := some (fileOf pool7 1 #[] #[] 1537 3 #[] #[])
  fields := #[]
  methods := #[]
  instanceTypes := #[]
  staticTypes := #[]
  resolved := Array.replicate 37 none
  statics := none }

def pool8 : Array CpInfo := pool [(1, .class_ 2), (0, u "java/lang/Long"), (55, .nameAndType 59 60), (0, u "<init>"), (0, u "()V"), (24, u "valueOf"), (143, u "(J)Ljava/lang/Long;"), (0, .long 18446744073709551488), (1, .long 127), (1, .fieldref 235 236), (0, .class_ 237), (0, .nameAndType 238 239), (0, u "java/lang/Long$LongCache"), (0, u "cache"), (0, u "[Ljava/lang/Long;"), (0, .methodref 1 241), (0, .nameAndType 59 242), (0, u "(J)V"), (27, .methodref 271 58), (0, .class_ 272), (0, u "java/lang/Number"), (0, .fieldref 1 274), (0, .nameAndType 275 276), (0, u "value"), (0, u "J"), (84, u "TYPE"), (0, u "Ljava/lang/Class;"), (0, .class_ 364), (0, u "java/lang/Comparable"), (0, .class_ 366), (0, u "java/lang/constant/Constable"), (0, .class_ 368), (0, u "java/lang/constant/ConstantDesc"), (0, u "MIN_VALUE"), (1, u "MAX_VALUE"), (4, u "SIZE"), (0, u "I"), (1, u "BYTES"), (1, u "serialVersionUID")] 142

def k8c0 : Code := { maxStack := 4, maxLocals := 3, code := jdk_35_method_24_code, exceptionTable := #[], attributes := #[] }
def k8m0 : Method := { name := "valueOf", desc := "(J)Ljava/lang/Long;", sig := { parameters := [.long], returnType := some (.object "java/lang/Long") }, accessFlags := 9, code := some k8c0 }
def k8c1 : Code := { maxStack := 3, maxLocals := 3, code := jdk_35_method_26_code, exceptionTable := #[], attributes := #[] }
def k8m1 : Method := { name := "<init>", desc := "(J)V", sig := { parameters := [.long], returnType := none }, accessFlags := 1, code := some k8c1 }
/-- java/lang/Long -/
def k8 : Class := { plain "java/lang/Long" (some 4) with
  accessFlags := 49
  interfaces := #[5, 6, 7]
  cf := some (fileOf pool8 1 #[.nestMembers #[235]] #[{ accessFlags := 9, nameIndex := 85, descriptorIndex := 229, attributes := #[] }, { accessFlags := 1, nameIndex := 59, descriptorIndex := 242, attributes := #[] }] 49 271 #[363, 365, 367] #[{ accessFlags := 25, nameIndex := 369, descriptorIndex := 276, attributes := #[] }, { accessFlags := 25, nameIndex := 371, descriptorIndex := 276, attributes := #[] }, { accessFlags := 25, nameIndex := 361, descriptorIndex := 362, attributes := #[] }, { accessFlags := 18, nameIndex := 275, descriptorIndex := 276, attributes := #[] }, { accessFlags := 25, nameIndex := 376, descriptorIndex := 377, attributes := #[] }, { accessFlags := 25, nameIndex := 379, descriptorIndex := 377, attributes := #[] }, { accessFlags := 26, nameIndex := 381, descriptorIndex := 276, attributes := #[] }])
  fields := #[{ name := "MIN_VALUE", type := .long, accessFlags := 25, slot := 0, constantValue := 0 }, { name := "MAX_VALUE", type := .long, accessFlags := 25, slot := 1, constantValue := 0 }, { name := "TYPE", type := (.object "java/lang/Class"), accessFlags := 25, slot := 2, constantValue := 0 }, { name := "value", type := .long, accessFlags := 18, slot := 0, constantValue := 0 }, { name := "SIZE", type := .int, accessFlags := 25, slot := 3, constantValue := 0 }, { name := "BYTES", type := .int, accessFlags := 25, slot := 4, constantValue := 0 }, { name := "serialVersionUID", type := .long, accessFlags := 26, slot := 5, constantValue := 0 }]
  methods := #[k8m0, k8m1]
  instanceTypes := #[.long]
  staticTypes := #[.long, .long, (.object "java/lang/Class"), .int, .int, .long]
  resolved := Array.replicate 524 none
  statics := none }

def pool9 : Array CpInfo := pool [(2, .class_ 4), (1, u "java/lang/Object"), (0, u "<init>"), (0, u "()V"), (0, .class_ 8), (0, u "java/lang/Long"), (7, .class_ 18), (1, u "java/lang/Long$LongCache"), (0, u "$assertionsDisabled"), (0, u "Z"), (8, u "archivedCache"), (0, u "[Ljava/lang/Long;"), (7, u "cache")] 24

def k9m0 : Method := { name := "<init>", desc := "()V", sig := { parameters := [], returnType := none }, accessFlags := 2, code := none }
/-- java/lang/Long$LongCache -/
def k9 : Class := { plain "java/lang/Long$LongCache" (some 0) with
  accessFlags := 48
  interfaces := #[]
  cf := some (fileOf pool9 16 #[.nestHost 7] #[{ accessFlags := 2, nameIndex := 5, descriptorIndex := 6, attributes := #[] }] 48 2 #[] #[{ accessFlags := 24, nameIndex := 38, descriptorIndex := 30, attributes := #[] }, { accessFlags := 8, nameIndex := 29, descriptorIndex := 30, attributes := #[] }, { accessFlags := 4120, nameIndex := 19, descriptorIndex := 20, attributes := #[] }])
  fields := #[{ name := "cache", type := (.array (.object "java/lang/Long")), accessFlags := 24, slot := 0, constantValue := 0 }, { name := "archivedCache", type := (.array (.object "java/lang/Long")), accessFlags := 8, slot := 1, constantValue := 0 }, { name := "$assertionsDisabled", type := .boolean, accessFlags := 4120, slot := 2, constantValue := 0 }]
  methods := #[k9m0]
  instanceTypes := #[]
  staticTypes := #[(.array (.object "java/lang/Long")), (.array (.object "java/lang/Long")), .boolean]
  resolved := Array.replicate 63 none
  statics := some 0 }

def pool10 : Array CpInfo := pool [(1, u "java/lang/Cloneable"), (0, .class_ 1), (0, u "java/lang/Object"), (0, .class_ 3)] 3

/-- java/lang/Cloneable -/
def k10 : Class := { plain "java/lang/Cloneable" (some 0) with
  accessFlags := 1537
  interfaces := #[]
  cf := some (fileOf pool10 2 #[] #[] 1537 4 #[] #[])
  fields := #[]
  methods := #[]
  instanceTypes := #[]
  staticTypes := #[]
  resolved := Array.replicate 8 none
  statics := none }

/-- the primitive byte -/
def k11 : Class := { plain "byte" none with kind := .primitive 'B', accessFlags := 0x411 }
/-- [B -/
def k12 : Class := { plain "[B" (some 0) with kind := .array 11 .byte, interfaces := #[10, 3], accessFlags := 1041 }

/-- the primitive int -/
def k13 : Class := { plain "int" none with kind := .primitive 'I', accessFlags := 0x411 }
/-- [I -/
def k14 : Class := { plain "[I" (some 0) with kind := .array 13 .int, interfaces := #[10, 3], accessFlags := 1041 }

/-- [Ljava/lang/Long; -/
def k15 : Class := { plain "[Ljava/lang/Long;" (some 0) with kind := .array 8 (.object "java/lang/Long"), interfaces := #[10, 3], accessFlags := 1041 }

def heap : Heap := #[{ cls := 9, slots := #[.ref 1, .null, .int 0], vm := .statics 9 },
  { cls := 15, slots := #[.ref 2, .ref 3, .ref 4, .ref 5, .ref 6, .ref 7, .ref 8, .ref 9, .ref 10, .ref 11, .ref 12, .ref 13, .ref 14, .ref 15, .ref 16, .ref 17, .ref 18, .ref 19, .ref 20, .ref 21, .ref 22, .ref 23, .ref 24, .ref 25, .ref 26, .ref 27, .ref 28, .ref 29, .ref 30, .ref 31, .ref 32, .ref 33, .ref 34, .ref 35, .ref 36, .ref 37, .ref 38, .ref 39, .ref 40, .ref 41, .ref 42, .ref 43, .ref 44, .ref 45, .ref 46, .ref 47, .ref 48, .ref 49, .ref 50, .ref 51, .ref 52, .ref 53, .ref 54, .ref 55, .ref 56, .ref 57, .ref 58, .ref 59, .ref 60, .ref 61, .ref 62, .ref 63, .ref 64, .ref 65, .ref 66, .ref 67, .ref 68, .ref 69, .ref 70, .ref 71, .ref 72, .ref 73, .ref 74, .ref 75, .ref 76, .ref 77, .ref 78, .ref 79, .ref 80, .ref 81, .ref 82, .ref 83, .ref 84, .ref 85, .ref 86, .ref 87, .ref 88, .ref 89, .ref 90, .ref 91, .ref 92, .ref 93, .ref 94, .ref 95, .ref 96, .ref 97, .ref 98, .ref 99, .ref 100, .ref 101, .ref 102, .ref 103, .ref 104, .ref 105, .ref 106, .ref 107, .ref 108, .ref 109, .ref 110, .ref 111, .ref 112, .ref 113, .ref 114, .ref 115, .ref 116, .ref 117, .ref 118, .ref 119, .ref 120, .ref 121, .ref 122, .ref 123, .ref 124, .ref 125, .ref 126, .ref 127, .ref 128, .ref 129, .ref 130, .ref 131, .ref 132, .ref 133, .ref 134, .ref 135, .ref 136, .ref 137, .ref 138, .ref 139, .ref 140, .ref 141, .ref 142, .ref 143, .ref 144, .ref 145, .ref 146, .ref 147, .ref 148, .ref 149, .ref 150, .ref 151, .ref 152, .ref 153, .ref 154, .ref 155, .ref 156, .ref 157, .ref 158, .ref 159, .ref 160, .ref 161, .ref 162, .ref 163, .ref 164, .ref 165, .ref 166, .ref 167, .ref 168, .ref 169, .ref 170, .ref 171, .ref 172, .ref 173, .ref 174, .ref 175, .ref 176, .ref 177, .ref 178, .ref 179, .ref 180, .ref 181, .ref 182, .ref 183, .ref 184, .ref 185, .ref 186, .ref 187, .ref 188, .ref 189, .ref 190, .ref 191, .ref 192, .ref 193, .ref 194, .ref 195, .ref 196, .ref 197, .ref 198, .ref 199, .ref 200, .ref 201, .ref 202, .ref 203, .ref 204, .ref 205, .ref 206, .ref 207, .ref 208, .ref 209, .ref 210, .ref 211, .ref 212, .ref 213, .ref 214, .ref 215, .ref 216, .ref 217, .ref 218, .ref 219, .ref 220, .ref 221, .ref 222, .ref 223, .ref 224, .ref 225, .ref 226, .ref 227, .ref 228, .ref 229, .ref 230, .ref 231, .ref 232, .ref 233, .ref 234, .ref 235, .ref 236, .ref 237, .ref 238, .ref 239, .ref 240, .ref 241, .ref 242, .ref 243, .ref 244, .ref 245, .ref 246, .ref 247, .ref 248, .ref 249, .ref 250, .ref 251, .ref 252, .ref 253, .ref 254, .ref 255, .ref 256, .ref 257], vm := .none },
  { cls := 8, slots := #[.long (-128)], vm := .none },
  { cls := 8, slots := #[.long (-127)], vm := .none },
  { cls := 8, slots := #[.long (-126)], vm := .none },
  { cls := 8, slots := #[.long (-125)], vm := .none },
  { cls := 8, slots := #[.long (-124)], vm := .none },
  { cls := 8, slots := #[.long (-123)], vm := .none },
  { cls := 8, slots := #[.long (-122)], vm := .none },
  { cls := 8, slots := #[.long (-121)], vm := .none },
  { cls := 8, slots := #[.long (-120)], vm := .none },
  { cls := 8, slots := #[.long (-119)], vm := .none },
  { cls := 8, slots := #[.long (-118)], vm := .none },
  { cls := 8, slots := #[.long (-117)], vm := .none },
  { cls := 8, slots := #[.long (-116)], vm := .none },
  { cls := 8, slots := #[.long (-115)], vm := .none },
  { cls := 8, slots := #[.long (-114)], vm := .none },
  { cls := 8, slots := #[.long (-113)], vm := .none },
  { cls := 8, slots := #[.long (-112)], vm := .none },
  { cls := 8, slots := #[.long (-111)], vm := .none },
  { cls := 8, slots := #[.long (-110)], vm := .none },
  { cls := 8, slots := #[.long (-109)], vm := .none },
  { cls := 8, slots := #[.long (-108)], vm := .none },
  { cls := 8, slots := #[.long (-107)], vm := .none },
  { cls := 8, slots := #[.long (-106)], vm := .none },
  { cls := 8, slots := #[.long (-105)], vm := .none },
  { cls := 8, slots := #[.long (-104)], vm := .none },
  { cls := 8, slots := #[.long (-103)], vm := .none },
  { cls := 8, slots := #[.long (-102)], vm := .none },
  { cls := 8, slots := #[.long (-101)], vm := .none },
  { cls := 8, slots := #[.long (-100)], vm := .none },
  { cls := 8, slots := #[.long (-99)], vm := .none },
  { cls := 8, slots := #[.long (-98)], vm := .none },
  { cls := 8, slots := #[.long (-97)], vm := .none },
  { cls := 8, slots := #[.long (-96)], vm := .none },
  { cls := 8, slots := #[.long (-95)], vm := .none },
  { cls := 8, slots := #[.long (-94)], vm := .none },
  { cls := 8, slots := #[.long (-93)], vm := .none },
  { cls := 8, slots := #[.long (-92)], vm := .none },
  { cls := 8, slots := #[.long (-91)], vm := .none },
  { cls := 8, slots := #[.long (-90)], vm := .none },
  { cls := 8, slots := #[.long (-89)], vm := .none },
  { cls := 8, slots := #[.long (-88)], vm := .none },
  { cls := 8, slots := #[.long (-87)], vm := .none },
  { cls := 8, slots := #[.long (-86)], vm := .none },
  { cls := 8, slots := #[.long (-85)], vm := .none },
  { cls := 8, slots := #[.long (-84)], vm := .none },
  { cls := 8, slots := #[.long (-83)], vm := .none },
  { cls := 8, slots := #[.long (-82)], vm := .none },
  { cls := 8, slots := #[.long (-81)], vm := .none },
  { cls := 8, slots := #[.long (-80)], vm := .none },
  { cls := 8, slots := #[.long (-79)], vm := .none },
  { cls := 8, slots := #[.long (-78)], vm := .none },
  { cls := 8, slots := #[.long (-77)], vm := .none },
  { cls := 8, slots := #[.long (-76)], vm := .none },
  { cls := 8, slots := #[.long (-75)], vm := .none },
  { cls := 8, slots := #[.long (-74)], vm := .none },
  { cls := 8, slots := #[.long (-73)], vm := .none },
  { cls := 8, slots := #[.long (-72)], vm := .none },
  { cls := 8, slots := #[.long (-71)], vm := .none },
  { cls := 8, slots := #[.long (-70)], vm := .none },
  { cls := 8, slots := #[.long (-69)], vm := .none },
  { cls := 8, slots := #[.long (-68)], vm := .none },
  { cls := 8, slots := #[.long (-67)], vm := .none },
  { cls := 8, slots := #[.long (-66)], vm := .none },
  { cls := 8, slots := #[.long (-65)], vm := .none },
  { cls := 8, slots := #[.long (-64)], vm := .none },
  { cls := 8, slots := #[.long (-63)], vm := .none },
  { cls := 8, slots := #[.long (-62)], vm := .none },
  { cls := 8, slots := #[.long (-61)], vm := .none },
  { cls := 8, slots := #[.long (-60)], vm := .none },
  { cls := 8, slots := #[.long (-59)], vm := .none },
  { cls := 8, slots := #[.long (-58)], vm := .none },
  { cls := 8, slots := #[.long (-57)], vm := .none },
  { cls := 8, slots := #[.long (-56)], vm := .none },
  { cls := 8, slots := #[.long (-55)], vm := .none },
  { cls := 8, slots := #[.long (-54)], vm := .none },
  { cls := 8, slots := #[.long (-53)], vm := .none },
  { cls := 8, slots := #[.long (-52)], vm := .none },
  { cls := 8, slots := #[.long (-51)], vm := .none },
  { cls := 8, slots := #[.long (-50)], vm := .none },
  { cls := 8, slots := #[.long (-49)], vm := .none },
  { cls := 8, slots := #[.long (-48)], vm := .none },
  { cls := 8, slots := #[.long (-47)], vm := .none },
  { cls := 8, slots := #[.long (-46)], vm := .none },
  { cls := 8, slots := #[.long (-45)], vm := .none },
  { cls := 8, slots := #[.long (-44)], vm := .none },
  { cls := 8, slots := #[.long (-43)], vm := .none },
  { cls := 8, slots := #[.long (-42)], vm := .none },
  { cls := 8, slots := #[.long (-41)], vm := .none },
  { cls := 8, slots := #[.long (-40)], vm := .none },
  { cls := 8, slots := #[.long (-39)], vm := .none },
  { cls := 8, slots := #[.long (-38)], vm := .none },
  { cls := 8, slots := #[.long (-37)], vm := .none },
  { cls := 8, slots := #[.long (-36)], vm := .none },
  { cls := 8, slots := #[.long (-35)], vm := .none },
  { cls := 8, slots := #[.long (-34)], vm := .none },
  { cls := 8, slots := #[.long (-33)], vm := .none },
  { cls := 8, slots := #[.long (-32)], vm := .none },
  { cls := 8, slots := #[.long (-31)], vm := .none },
  { cls := 8, slots := #[.long (-30)], vm := .none },
  { cls := 8, slots := #[.long (-29)], vm := .none },
  { cls := 8, slots := #[.long (-28)], vm := .none },
  { cls := 8, slots := #[.long (-27)], vm := .none },
  { cls := 8, slots := #[.long (-26)], vm := .none },
  { cls := 8, slots := #[.long (-25)], vm := .none },
  { cls := 8, slots := #[.long (-24)], vm := .none },
  { cls := 8, slots := #[.long (-23)], vm := .none },
  { cls := 8, slots := #[.long (-22)], vm := .none },
  { cls := 8, slots := #[.long (-21)], vm := .none },
  { cls := 8, slots := #[.long (-20)], vm := .none },
  { cls := 8, slots := #[.long (-19)], vm := .none },
  { cls := 8, slots := #[.long (-18)], vm := .none },
  { cls := 8, slots := #[.long (-17)], vm := .none },
  { cls := 8, slots := #[.long (-16)], vm := .none },
  { cls := 8, slots := #[.long (-15)], vm := .none },
  { cls := 8, slots := #[.long (-14)], vm := .none },
  { cls := 8, slots := #[.long (-13)], vm := .none },
  { cls := 8, slots := #[.long (-12)], vm := .none },
  { cls := 8, slots := #[.long (-11)], vm := .none },
  { cls := 8, slots := #[.long (-10)], vm := .none },
  { cls := 8, slots := #[.long (-9)], vm := .none },
  { cls := 8, slots := #[.long (-8)], vm := .none },
  { cls := 8, slots := #[.long (-7)], vm := .none },
  { cls := 8, slots := #[.long (-6)], vm := .none },
  { cls := 8, slots := #[.long (-5)], vm := .none },
  { cls := 8, slots := #[.long (-4)], vm := .none },
  { cls := 8, slots := #[.long (-3)], vm := .none },
  { cls := 8, slots := #[.long (-2)], vm := .none },
  { cls := 8, slots := #[.long (-1)], vm := .none },
  { cls := 8, slots := #[.long (0)], vm := .none },
  { cls := 8, slots := #[.long (1)], vm := .none },
  { cls := 8, slots := #[.long (2)], vm := .none },
  { cls := 8, slots := #[.long (3)], vm := .none },
  { cls := 8, slots := #[.long (4)], vm := .none },
  { cls := 8, slots := #[.long (5)], vm := .none },
  { cls := 8, slots := #[.long (6)], vm := .none },
  { cls := 8, slots := #[.long (7)], vm := .none },
  { cls := 8, slots := #[.long (8)], vm := .none },
  { cls := 8, slots := #[.long (9)], vm := .none },
  { cls := 8, slots := #[.long (10)], vm := .none },
  { cls := 8, slots := #[.long (11)], vm := .none },
  { cls := 8, slots := #[.long (12)], vm := .none },
  { cls := 8, slots := #[.long (13)], vm := .none },
  { cls := 8, slots := #[.long (14)], vm := .none },
  { cls := 8, slots := #[.long (15)], vm := .none },
  { cls := 8, slots := #[.long (16)], vm := .none },
  { cls := 8, slots := #[.long (17)], vm := .none },
  { cls := 8, slots := #[.long (18)], vm := .none },
  { cls := 8, slots := #[.long (19)], vm := .none },
  { cls := 8, slots := #[.long (20)], vm := .none },
  { cls := 8, slots := #[.long (21)], vm := .none },
  { cls := 8, slots := #[.long (22)], vm := .none },
  { cls := 8, slots := #[.long (23)], vm := .none },
  { cls := 8, slots := #[.long (24)], vm := .none },
  { cls := 8, slots := #[.long (25)], vm := .none },
  { cls := 8, slots := #[.long (26)], vm := .none },
  { cls := 8, slots := #[.long (27)], vm := .none },
  { cls := 8, slots := #[.long (28)], vm := .none },
  { cls := 8, slots := #[.long (29)], vm := .none },
  { cls := 8, slots := #[.long (30)], vm := .none },
  { cls := 8, slots := #[.long (31)], vm := .none },
  { cls := 8, slots := #[.long (32)], vm := .none },
  { cls := 8, slots := #[.long (33)], vm := .none },
  { cls := 8, slots := #[.long (34)], vm := .none },
  { cls := 8, slots := #[.long (35)], vm := .none },
  { cls := 8, slots := #[.long (36)], vm := .none },
  { cls := 8, slots := #[.long (37)], vm := .none },
  { cls := 8, slots := #[.long (38)], vm := .none },
  { cls := 8, slots := #[.long (39)], vm := .none },
  { cls := 8, slots := #[.long (40)], vm := .none },
  { cls := 8, slots := #[.long (41)], vm := .none },
  { cls := 8, slots := #[.long (42)], vm := .none },
  { cls := 8, slots := #[.long (43)], vm := .none },
  { cls := 8, slots := #[.long (44)], vm := .none },
  { cls := 8, slots := #[.long (45)], vm := .none },
  { cls := 8, slots := #[.long (46)], vm := .none },
  { cls := 8, slots := #[.long (47)], vm := .none },
  { cls := 8, slots := #[.long (48)], vm := .none },
  { cls := 8, slots := #[.long (49)], vm := .none },
  { cls := 8, slots := #[.long (50)], vm := .none },
  { cls := 8, slots := #[.long (51)], vm := .none },
  { cls := 8, slots := #[.long (52)], vm := .none },
  { cls := 8, slots := #[.long (53)], vm := .none },
  { cls := 8, slots := #[.long (54)], vm := .none },
  { cls := 8, slots := #[.long (55)], vm := .none },
  { cls := 8, slots := #[.long (56)], vm := .none },
  { cls := 8, slots := #[.long (57)], vm := .none },
  { cls := 8, slots := #[.long (58)], vm := .none },
  { cls := 8, slots := #[.long (59)], vm := .none },
  { cls := 8, slots := #[.long (60)], vm := .none },
  { cls := 8, slots := #[.long (61)], vm := .none },
  { cls := 8, slots := #[.long (62)], vm := .none },
  { cls := 8, slots := #[.long (63)], vm := .none },
  { cls := 8, slots := #[.long (64)], vm := .none },
  { cls := 8, slots := #[.long (65)], vm := .none },
  { cls := 8, slots := #[.long (66)], vm := .none },
  { cls := 8, slots := #[.long (67)], vm := .none },
  { cls := 8, slots := #[.long (68)], vm := .none },
  { cls := 8, slots := #[.long (69)], vm := .none },
  { cls := 8, slots := #[.long (70)], vm := .none },
  { cls := 8, slots := #[.long (71)], vm := .none },
  { cls := 8, slots := #[.long (72)], vm := .none },
  { cls := 8, slots := #[.long (73)], vm := .none },
  { cls := 8, slots := #[.long (74)], vm := .none },
  { cls := 8, slots := #[.long (75)], vm := .none },
  { cls := 8, slots := #[.long (76)], vm := .none },
  { cls := 8, slots := #[.long (77)], vm := .none },
  { cls := 8, slots := #[.long (78)], vm := .none },
  { cls := 8, slots := #[.long (79)], vm := .none },
  { cls := 8, slots := #[.long (80)], vm := .none },
  { cls := 8, slots := #[.long (81)], vm := .none },
  { cls := 8, slots := #[.long (82)], vm := .none },
  { cls := 8, slots := #[.long (83)], vm := .none },
  { cls := 8, slots := #[.long (84)], vm := .none },
  { cls := 8, slots := #[.long (85)], vm := .none },
  { cls := 8, slots := #[.long (86)], vm := .none },
  { cls := 8, slots := #[.long (87)], vm := .none },
  { cls := 8, slots := #[.long (88)], vm := .none },
  { cls := 8, slots := #[.long (89)], vm := .none },
  { cls := 8, slots := #[.long (90)], vm := .none },
  { cls := 8, slots := #[.long (91)], vm := .none },
  { cls := 8, slots := #[.long (92)], vm := .none },
  { cls := 8, slots := #[.long (93)], vm := .none },
  { cls := 8, slots := #[.long (94)], vm := .none },
  { cls := 8, slots := #[.long (95)], vm := .none },
  { cls := 8, slots := #[.long (96)], vm := .none },
  { cls := 8, slots := #[.long (97)], vm := .none },
  { cls := 8, slots := #[.long (98)], vm := .none },
  { cls := 8, slots := #[.long (99)], vm := .none },
  { cls := 8, slots := #[.long (100)], vm := .none },
  { cls := 8, slots := #[.long (101)], vm := .none },
  { cls := 8, slots := #[.long (102)], vm := .none },
  { cls := 8, slots := #[.long (103)], vm := .none },
  { cls := 8, slots := #[.long (104)], vm := .none },
  { cls := 8, slots := #[.long (105)], vm := .none },
  { cls := 8, slots := #[.long (106)], vm := .none },
  { cls := 8, slots := #[.long (107)], vm := .none },
  { cls := 8, slots := #[.long (108)], vm := .none },
  { cls := 8, slots := #[.long (109)], vm := .none },
  { cls := 8, slots := #[.long (110)], vm := .none },
  { cls := 8, slots := #[.long (111)], vm := .none },
  { cls := 8, slots := #[.long (112)], vm := .none },
  { cls := 8, slots := #[.long (113)], vm := .none },
  { cls := 8, slots := #[.long (114)], vm := .none },
  { cls := 8, slots := #[.long (115)], vm := .none },
  { cls := 8, slots := #[.long (116)], vm := .none },
  { cls := 8, slots := #[.long (117)], vm := .none },
  { cls := 8, slots := #[.long (118)], vm := .none },
  { cls := 8, slots := #[.long (119)], vm := .none },
  { cls := 8, slots := #[.long (120)], vm := .none },
  { cls := 8, slots := #[.long (121)], vm := .none },
  { cls := 8, slots := #[.long (122)], vm := .none },
  { cls := 8, slots := #[.long (123)], vm := .none },
  { cls := 8, slots := #[.long (124)], vm := .none },
  { cls := 8, slots := #[.long (125)], vm := .none },
  { cls := 8, slots := #[.long (126)], vm := .none },
  { cls := 8, slots := #[.long (127)], vm := .none }]
def classes : Array Class := #[k0, k1, k2, k3, k4, k5, k6, k7, k8, k9, k10, k11, k12, k13, k14, k15]
def interned : List (Array UInt16 × Addr) := []
def slotsUsed : Nat := 515
def theMethod : MethodId := ⟨1, 1⟩
def args0 : Array Value := #[.int 5, .long 300, .int 6, .long 301, .int 4]
def aboutOver (below : List Frame) : State where
  vm := { classes := classes, interned := interned.toArray }
  heap := heap
  slotsUsed := slotsUsed
  threads := #[{ frames := .invoking theMethod args0 :: below }]
def below0 : List Frame := [.native { method := ⟨0, 0⟩, args := #[] }]
def about1 : State := aboutOver below0
def p0 : Program := .bare "" "" ""
def e0 : Env := launch0.env 0 0 0
theorem w_frames : about1.frames = Frame.invoking theMethod args0 :: below0 := rfl
set_option maxRecDepth 65536 in
theorem w_args : argsFit about1.vm theMethod args0 = true := by decide +kernel
set_option maxRecDepth 65536 in
theorem w_heap : heapFits about1 = true := by decide +kernel
set_option maxRecDepth 65536 in
theorem w_runnable : about1.curStatus? = some .runnable := by decide +kernel
set_option maxRecDepth 65536 in
theorem w_alone : about1.alone = true := by decide +kernel
set_option maxRecDepth 65536 in
theorem w_named : about1.methodNamed? x = some theMethod := by decide +kernel
set_option maxRecDepth 65536 in
theorem w_hears : about1.hears theMethod below0 = true := by decide +kernel
set_option maxRecDepth 65536 in
theorem w_ripe : about1.ripe theMethod args0 below0 = true := by decide +kernel
theorem w_running : about1.status = .running := rfl
set_option maxRecDepth 65536 in
theorem w_room : about1.hasRoom e0.platform room_1 = true :=
  launch0.hasRoom_least _ room_1 (by decide +kernel) (by decide +kernel) (by decide +kernel) (by decide +kernel) (by decide +kernel) (by decide +kernel)
theorem allAtoms_all (ts : List Jvm.Cond) (a : Array Jvm.Value) (st : Jvm.State) : (allAtoms ts).before a st = ts.all (fun c => c.before a st) := by
  induction ts with
  | nil => rfl
  | cons c t ih =>
    show (Jvm.Cond.and c (allAtoms t)).before a st = _
    rw [Jvm.Cond.before_and, ih, List.all_cons]
def words1 : List Jvm.Cond := Jvm.Cond.code x code maxLocals ret :: tables_1
/-- a 'code' word, met by the world's own term for the bytes: nothing is compared byte by byte -/
theorem code_word {y : MethodName} {bytes : ByteArray} {mx : Nat} {rt : Option FieldType} {a : Array Value} {s : State} {m : MethodId} {meth : Method} {c : Code} (h1 : s.methodNamed? y = some m) (h2 : s.vm.method? m = some meth) (h3 : meth.code = some c) (h4 : c.code = bytes)
    (h5 : (c.maxLocals == mx && c.exceptionTable.isEmpty && decide (c.maxStack ≤ mostOperands) && decide (meth.sig.returnType = rt) && !meth.locks && decide (parseMethodDescriptor y.desc = some meth.sig)) = true) : (Jvm.Cond.code y bytes mx rt).before a s = true := by
  simp only [Bool.and_eq_true, beq_iff_eq, Bool.not_eq_true', decide_eq_true_eq] at h5
  obtain ⟨⟨⟨⟨⟨g1, g2⟩, g3⟩, g4⟩, g5⟩, g6⟩ := h5
  simp [Cond.before, Cond.holds, Cond.value, h1, h2, h3, h4, g1, g2, g3, g4, g5, g6]
def isCode : Jvm.Cond → Bool
  | .code _ _ _ _ => true
  | _ => false
theorem all_split {L : List Jvm.Cond} {P : Jvm.Cond → Bool} (h1 : L.all (fun c => isCode c || P c) = true) (h2 : ∀ c ∈ L.filter isCode, P c = true) : L.all P = true := by
  refine List.all_eq_true.mpr fun c hc => ?_
  have h := List.all_eq_true.mp h1 c hc
  rcases Bool.eq_false_or_eq_true (isCode c) with hi | hi
  · exact h2 c (List.mem_filter.mpr ⟨hc, hi⟩)
  · simpa [hi] using h
set_option maxRecDepth 65536 in
theorem w_c0 : (Jvm.Cond.code x code maxLocals ret).before args0 about1 = true := code_word (m := ⟨1, 1⟩) (meth := k1m1) (c := k1c1) (by decide +kernel) rfl rfl rfl (by decide +kernel)
set_option maxRecDepth 65536 in
theorem w_c1 : (Jvm.Cond.code ({ cls := "com/example/mortise/mortise/schema/ContentModel$Drift", name := "<init>", desc := "(IJ)V" } : Jvm.MethodName) prog_90_method_1_code (4 : Nat) (Option.none : Option Jvm.ClassFile.FieldType)).before args0 about1 = true := code_word (m := ⟨2, 0⟩) (meth := k2m0) (c := k2c0) (by decide +kernel) rfl rfl rfl (by decide +kernel)
set_option maxRecDepth 65536 in
theorem w_c2 : (Jvm.Cond.code ({ cls := "java/lang/Object", name := "<init>", desc := "()V" } : Jvm.MethodName) object_method_1_code (1 : Nat) (Option.none : Option Jvm.ClassFile.FieldType)).before args0 about1 = true := code_word (m := ⟨0, 0⟩) (meth := k0m0) (c := k0c0) (by decide +kernel) rfl rfl rfl (by decide +kernel)
set_option maxRecDepth 65536 in
theorem w_c3 : (Jvm.Cond.code ({ cls := "com/example/mortise/mortise/schema/ContentModel$Drift", name := "equals", desc := "(Ljava/lang/Object;)Z" } : Jvm.MethodName) prog_90_method_3_code (3 : Nat) (Option.some Jvm.ClassFile.FieldType.boolean)).before args0 about1 = true := code_word (m := ⟨2, 1⟩) (meth := k2m1) (c := k2c1) (by decide +kernel) rfl rfl rfl (by decide +kernel)
set_option maxRecDepth 65536 in
theorem w_c4 : (Jvm.Cond.code ({ cls := "java/lang/Long", name := "valueOf", desc := "(J)Ljava/lang/Long;" } : Jvm.MethodName) jdk_35_method_24_code (3 : Nat) (Option.some (Jvm.ClassFile.FieldType.object "java/lang/Long"))).before args0 about1 = true := code_word (m := ⟨8, 0⟩) (meth := k8m0) (c := k8c0) (by decide +kernel) rfl rfl rfl (by decide +kernel)
set_option maxRecDepth 65536 in
theorem w_c5 : (Jvm.Cond.code ({ cls := "java/lang/Long", name := "<init>", desc := "(J)V" } : Jvm.MethodName) jdk_35_method_26_code (3 : Nat) (Option.none : Option Jvm.ClassFile.FieldType)).before args0 about1 = true := code_word (m := ⟨8, 1⟩) (meth := k8m1) (c := k8c1) (by decide +kernel) rfl rfl rfl (by decide +kernel)
set_option maxRecDepth 65536 in
theorem w_c6 : (Jvm.Cond.code ({ cls := "java/lang/Number", name := "<init>", desc := "()V" } : Jvm.MethodName) jdk_18_method_1_code (1 : Nat) (Option.none : Option Jvm.ClassFile.FieldType)).before args0 about1 = true := code_word (m := ⟨4, 0⟩) (meth := k4m0) (c := k4c0) (by decide +kernel) rfl rfl rfl (by decide +kernel)
def codes1 : List Jvm.Cond := [Jvm.Cond.code x code maxLocals ret, Jvm.Cond.code ({ cls := "com/example/mortise/mortise/schema/ContentModel$Drift", name := "<init>", desc := "(IJ)V" } : Jvm.MethodName) prog_90_method_1_code (4 : Nat) (Option.none : Option Jvm.ClassFile.FieldType), Jvm.Cond.code ({ cls := "java/lang/Object", name := "<init>", desc := "()V" } : Jvm.MethodName) object_method_1_code (1 : Nat) (Option.none : Option Jvm.ClassFile.FieldType), Jvm.Cond.code ({ cls := "com/example/mortise/mortise/schema/ContentModel$Drift", name := "equals", desc := "(Ljava/lang/Object;)Z" } : Jvm.MethodName) prog_90_method_3_code (3 : Nat) (Option.some Jvm.ClassFile.FieldType.boolean), Jvm.Cond.code ({ cls := "java/lang/Long", name := "valueOf", desc := "(J)Ljava/lang/Long;" } : Jvm.MethodName) jdk_35_method_24_code (3 : Nat) (Option.some (Jvm.ClassFile.FieldType.object "java/lang/Long")), Jvm.Cond.code ({ cls := "java/lang/Long", name := "<init>", desc := "(J)V" } : Jvm.MethodName) jdk_35_method_26_code (3 : Nat) (Option.none : Option Jvm.ClassFile.FieldType), Jvm.Cond.code ({ cls := "java/lang/Number", name := "<init>", desc := "()V" } : Jvm.MethodName) jdk_18_method_1_code (1 : Nat) (Option.none : Option Jvm.ClassFile.FieldType)]
set_option maxRecDepth 65536 in
theorem codes_eq : words1.filter isCode = codes1 := rfl
theorem w_codes : ∀ c ∈ words1.filter isCode, c.before args0 about1 = true := by
  rw [codes_eq]
  intro c hc
  simp only [codes1, List.mem_cons, List.not_mem_nil, or_false] at hc
  rcases hc with rfl | rfl | rfl | rfl | rfl | rfl | rfl
  · exact w_c0
  · exact w_c1
  · exact w_c2
  · exact w_c3
  · exact w_c4
  · exact w_c5
  · exact w_c6
set_option maxRecDepth 65536 in
theorem w_t1 : (words1.take 24).all (fun c => isCode c || c.before args0 about1) = true := by decide +kernel
set_option maxRecDepth 65536 in
theorem w_t2 : (words1.drop 24).all (fun c => isCode c || c.before args0 about1) = true := by decide +kernel
theorem w_tables : (allAtoms (Jvm.Cond.code x code maxLocals ret :: tables_1)).before args0 about1 = true := by
  rw [allAtoms_all]
  show words1.all (fun c => c.before args0 about1) = true
  refine all_split ?_ w_codes
  rw [← List.take_append_drop 24 words1, List.all_append, w_t1, w_t2]
  rfl
set_option maxRecDepth 65536 in
theorem w_rest : rest_1_c.before args0 about1 = true := by decide +kernel
set_option maxRecDepth 65536 in
theorem w_case : (Jvm.Cond.and given_1 narrow_1).before args0 about1 = true := by decide +kernel
theorem w_applies : (headSpec (Jvm.Cond.code x code maxLocals ret :: tables_1) room_1).applies x e0.platform about1 = true :=
  (Spec.applies_iff w_frames).mpr ⟨w_running, w_runnable, w_alone, w_named, w_hears, w_ripe, w_room, w_tables⟩
theorem atStart : AtStart classFile x code maxLocals ret World_1 tables_1 room_1 Calls_1 rest_1 Pre_1 launch0 p0 e0 about1 theMethod args0 below0 :=
  ⟨lists_1, trivial, launch0.admits_env _ _ _, launch0.least_env, fairChoices_fair.cas, fairChoices_fair.clock, w_frames, w_args, w_heap, w_applies, trivial, w_rest, w_case⟩
end start1
theorem witness_1 : WitnessClaimed_1 := ⟨start1.p0, start1.e0, start1.about1, start1.theMethod, start1.args0, start1.below0, start1.atStart⟩
end Jvm.Pilot.@@N@@
