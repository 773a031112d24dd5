import JvmDerived
import JvmDerived.Pilot.@@N@@Statement
import JvmDerived.Pilot.@@N@@Code
set_option linter.unusedVariables false
set_option linter.unusedSimpArgs false
namespace Jvm.RoadKit
open Sem ClassFile Op Lib Jvm.Stand Jvm.Free Jvm.LawKit
section New
variable {p : Program} {l : Launch} {e : Env} {R : Room} {s : State} {m : MethodId} {args : Array Value} {below : List Frame} {meth : Method} {c : Code} {T : State} {locs : List Loc} {cells slots : Nat}
theorem retI (X : Stand p l e R s m args below meth c T locs cells slots) (hx : p.tables.exec = Jvm.exec) {pc : Nat} {Ls : Array Slot} {z : Int32} {rest : List Value} (hret : meth.sig.returnType = some .int) (hd : decode c.code pc = .ok (.ireturn, 1)) {fs : List Frame}
    (hl : ∀ (f : JFrame) (acts : List Action), f.method = m → f.locked = none → f.entered = [] → (doReturn e (T.setTop f) acts (some (.int z))).1 = T.setFrames fs) : Steps p.tables e below (T.setTop (mkF m pc Ls (.int z :: rest))) (T.setFrames fs) := by
  have hm' : T.vm.method? m = some meth := X.method'
  have hn : narrow .int (.int z) = .int z := rfl
  show Steps p.tables e below (T.setTop { method := m, pc := pc, locals := Ls, stack := _ :: rest, locked := none }) _
  jvm_step X.here [X.here.top, hx, hd, hm', hret, hn]
  first | (intro acts; rw [hl _ acts rfl rfl rfl]) | rw [hl _ _ rfl rfl rfl]
  exact Steps.refl _
/-- from S the invocation comes to its end, and Q says what it returned, the heap, the places written -/
def OFin (p : Program) (e : Env) (below : List Frame) (s : State) (k n : Nat) (Q : Option Value → Heap → List Loc → Prop) (S : State) : Prop :=
  ∃ t o, Steps p.tables e below S t ∧ t.status = .running ∧ Ended t below o ∧ ∃ v L, o = .returned v ∧ Q v t.heap L ∧ FrameEnd s o t L k n
variable {k n : Nat} {Q : Option Value → Heap → List Loc → Prop} {S S' : State}
theorem OFin.back (h : ∀ t, Steps p.tables e below S' t → Steps p.tables e below S t) (g : OFin p e below s k n Q S') : OFin p e below s k n Q S := by
  obtain ⟨t, o, h1, h2⟩ := g
  exact ⟨t, o, h t h1, h2⟩
theorem OFin.via (h : Steps p.tables e below S S') (g : OFin p e below s k n Q S') : OFin p e below s k n Q S := by
  obtain ⟨t, o, h1, h2⟩ := g
  exact ⟨t, o, h.trans h1, h2⟩
variable {h : Heap} {pc : Nat} {Ls : Array Slot} {z : Int32} {rest : List Value}
theorem OFin.outI (X : Stand p l e R s m args below meth c T locs cells slots) (hx : p.tables.exec = Jvm.exec) (hret : meth.sig.returnType = some .int) (hk : meth.locks = false) (hd : decode c.code pc = .ok (.ireturn, 1)) (hc : cells ≤ k) (hs : slots ≤ n) (eT : T.heap = h) (hq : Q (some (.int z)) h locs) :
    OFin p e below s k n Q (T.setTop (mkF m pc Ls (.int z :: rest))) := by
  obtain ⟨fs, hr, hrun, hended, hW, hsame⟩ := X.leave (v := some (.int z)) (fun h => by rw [hret] at h; cases h) hk
  exact ⟨_, _, retI X hx hret hd hr, hrun, hended, _, _, rfl, by show Q _ T.heap _; rw [eT]; exact hq, ⟨_, rfl⟩, hW, hsame.mono hc hs⟩
theorem OFin.outN {t : FieldType} (X : Stand p l e R s m args below meth c T locs cells slots) (hx : p.tables.exec = Jvm.exec) (hret : meth.sig.returnType = some t) (ht : t = .boolean ∨ t = .byte ∨ t = .char ∨ t = .short) (hk : meth.locks = false) (hd : decode c.code pc = .ok (.ireturn, 1)) (hc : cells ≤ k) (hs : slots ≤ n) (eT : T.heap = h) (hq : Q (some (.int (nar t z))) h locs) :
    OFin p e below s k n Q (T.setTop (mkF m pc Ls (.int z :: rest))) := by
  obtain ⟨fs, hr, hrun, hended, hW, hsame⟩ := X.leave (v := some (.int (nar t z))) (fun h => by rw [hret] at h; cases h) hk
  exact ⟨_, _, retN X hx hret ht hd hr, hrun, hended, _, _, rfl, by show Q _ T.heap _; rw [eT]; exact hq, ⟨_, rfl⟩, hW, hsame.mono hc hs⟩
theorem OFin.outA {t : FieldType} {w : Value} (X : Stand p l e R s m args below meth c T locs cells slots) (hx : p.tables.exec = Jvm.exec) (hret : meth.sig.returnType = some t) (ht : t.isReference = true) (hn : narrow t w = w) (hw : w.isRef = true) (hk : meth.locks = false) (hd : decode c.code pc = .ok (.areturn, 1)) (hc : cells ≤ k) (hs : slots ≤ n) (eT : T.heap = h) (hq : Q (some w) h locs) :
    OFin p e below s k n Q (T.setTop (mkF m pc Ls (w :: rest))) := by
  obtain ⟨fs, hr, hrun, hended, hW, hsame⟩ := X.leave (v := some w) (fun h => by rw [hret] at h; cases h) hk
  exact ⟨_, _, retOut X hx hret hn (Or.inr (Or.inr (Or.inr (Or.inr ⟨rfl, ht, hw⟩)))) hd hr, hrun, hended, _, _, rfl, by show Q _ T.heap _; rw [eT]; exact hq, ⟨_, rfl⟩, hW, hsame.mono hc hs⟩
theorem OFin.outJ {w : Int64} (X : Stand p l e R s m args below meth c T locs cells slots) (hx : p.tables.exec = Jvm.exec) (hret : meth.sig.returnType = some .long) (hk : meth.locks = false) (hd : decode c.code pc = .ok (.lreturn, 1)) (hc : cells ≤ k) (hs : slots ≤ n) (eT : T.heap = h) (hq : Q (some (.long w)) h locs) :
    OFin p e below s k n Q (T.setTop (mkF m pc Ls (.long w :: rest))) := by
  obtain ⟨fs, hr, hrun, hended, hW, hsame⟩ := X.leave (v := some (.long w)) (fun h => by rw [hret] at h; cases h) hk
  exact ⟨_, _, retOut X hx hret rfl (Or.inr (Or.inl ⟨rfl, rfl, _, rfl⟩)) hd hr, hrun, hended, _, _, rfl, by show Q _ T.heap _; rw [eT]; exact hq, ⟨_, rfl⟩, hW, hsame.mono hc hs⟩
theorem OFin.outV (X : Stand p l e R s m args below meth c T locs cells slots) (hx : p.tables.exec = Jvm.exec) (hret : meth.sig.returnType = none) (hk : meth.locks = false) (hd : decode c.code pc = .ok (.return_, 1)) (hc : cells ≤ k) (hs : slots ≤ n) (eT : T.heap = h) (hq : Q none h locs) :
    OFin p e below s k n Q (T.setTop (mkF m pc Ls [])) := by
  obtain ⟨fs, hr, hrun, hended, hW, hsame⟩ := X.leave (v := none) (fun _ => rfl) hk
  exact ⟨_, _, X.returnOut hx hret hd hr, hrun, hended, _, _, rfl, by show Q _ T.heap _; rw [eT]; exact hq, ⟨_, rfl⟩, hW, hsame.mono hc hs⟩
end New
end Jvm.RoadKit
namespace Jvm.Pilot.@@N@@
open Jvm Jvm.ClassFile Sem Op Lib Jvm.Free Jvm.Stand Jvm.LawKit Jvm.RoadKit Bundle Jvm.Pilot.@@N@@.Jvm.D

theorem own_fldI {Z : State} {args : Array Value} {t : Term} {a : Addr} {C n d : String} {k : Int32} (ht : t.eval args Z none [] Z = some (.ref a)) (h : (Jvm.Cond.eq (Jvm.Term.field t C n d) (Jvm.Term.int k)).value args Z none Z [] = some true) : Fld Z Z.heap a C n d (.int k) := by
  exact Fld.start ((fld_at ht).symm.trans (eqv_i (F := Jvm.Term.int k) rfl h))
def own_srv (s p o : Int32) (aS aP aO : Addr) : Addr := if s = -1 then (if p = -1 then aO else aP) else (if p = -1 then (if o = -1 then aS else aO) else aS)
theorem d2_0 : decode prog_136_method_5_code 0 = .ok (.aload_n 0, 1) := by decide +kernel
theorem d2_1 : decode prog_136_method_5_code 1 = .ok (.getfield 32, 3) := by decide +kernel
theorem d2_4 : decode prog_136_method_5_code 4 = .ok (.ireturn, 1) := by decide +kernel
theorem pn2 : plainName "com/example/triplewright/triplewright/store/TripleOrder" = true := by first | (simp [plainName, overriddenIn]; done) | decide +kernel
theorem ef2 (m : MethodId) (a : Addr) : entryFrame m #[(.ref a)] 1 = mkF m 0 #[.val (.ref a)] [] := by first | (simp [entryFrame, mkF, argsToLocals, Value.category]; done) | rfl
def Q2 (Z : State) (a : Addr) (u : Int32) (h0 : Heap) (n0 : Nat) (v : Option Value) (h : Heap) (L : List Loc) : Prop := v = some (.int u) ∧ Fr n0 L ∧ h = h0
set_option maxRecDepth 65536 in
set_option maxHeartbeats 40000000 in
theorem rm2 (l : Launch) (Z : State) (a0 : Array Value) (hw : ∀ d ∈ tables_1, d.before a0 Z = true) (ws : List Jvm.Cond) (a : Addr) (u : Int32) (h0 : Heap) (n0 : Nat) (Z0 : n0 ≤ h0.size) (F1 : Fld Z h0 a "com/example/triplewright/triplewright/store/TripleOrder" "subjectColumn" "I" (.int u)) :
    MetFree l (⟨"com/example/triplewright/triplewright/store/TripleOrder", "subjectColumn", "()I"⟩ : MethodName) (head1 (Jvm.Cond.code (⟨"com/example/triplewright/triplewright/store/TripleOrder", "subjectColumn", "()I"⟩ : MethodName) prog_136_method_5_code 1 (some .int) :: ws) ({ frames := 0, cells := 0, slots := 0, locals := 0 } : Room)) (fun ar_ U => ar_ = #[(.ref a)] ∧ Z.Warmed39 U.vm ∧ U.heap = h0) (fun _ _ _ _ _ => True) (fun _ U o U' => ∃ v L, o = .returned v ∧ Q2 Z a u h0 n0 v U'.heap L ∧ FrameEnd U o U' L ({ frames := 0, cells := 0, slots := 0, locals := 0 } : Room).cells ({ frames := 0, cells := 0, slots := 0, locals := 0 } : Room).slots) := by
  refine MetFree.of_bodySF (plainFor_of_name pn2) hisR ?_
  intro p e s m args below meth c s₁ Bd hml0 hP hK
  obtain ⟨rfl, hZ, hh⟩ := hP
  have hx := Bd.exec
  have hby := Bd.bytes
  have hml : c.maxLocals = 1 := hml0
  have hown : s.vm.findClass "com/example/triplewright/triplewright/store/TripleOrder" = some m.cls := findClass_of_methodNamed Bd.named
  have hnm := (name_of_methodNamed Bd.named Bd.method).1
  have X0 : Stand p l e ({ frames := 0, cells := 0, slots := 0, locals := 0 } : Room) s m #[(.ref a)] below meth c s₁ [] 0 0 := Stand.of_body Bd
  have e0 : s₁.heap = h0 := by rw [← hh, Bd.state]; rfl
  have N0 := Fr.nil n0
  show OFin p e below s _ _ (Q2 Z a u h0 n0) (s₁.setTop (entryFrame m #[(.ref a)] 1))
  rw [ef2]
  obtain ⟨Q, hQ⟩ : ∃ Q, Q = Q2 Z a u h0 n0 := ⟨_, rfl⟩
  rw [← hQ]
  show OFin p e below s _ _ Q (s₁.setTop (mkF m 0 #[.val (.ref a)] []))
  refine OFin.back (fun _ hr => XS.aloadN X0.here hx rfl (hb hby d2_0) rfl rfl hr) ?_
  show OFin p e below s _ _ Q (s₁.setTop (mkF m 1 #[.val (.ref a)] [(.ref a)]))
  obtain ⟨T1, X1, e1, st1⟩ := getF X0 hx hZ hown (host := "") (Or.inl (hw _ (List.mem_of_getElem? (i := 11) rfl))) Via.refl e0 F1 (g := (mkF m 1 #[.val (.ref a)] [(.ref a)])) rfl rfl (hb hby d2_1)
  refine OFin.back st1 ?_
  show OFin p e below s _ _ Q (T1.setTop (mkF m 4 #[.val (.ref a)] [(.int u)]))
  exact OFin.outI X1 hx Bd.returns Bd.notSynchronized (hb hby d2_4) (by decide) (by decide) e1 (by rw [hQ]; exact ⟨rfl, N0, rfl⟩)
theorem d3_0 : decode prog_136_method_6_code 0 = .ok (.aload_n 0, 1) := by decide +kernel
theorem d3_1 : decode prog_136_method_6_code 1 = .ok (.getfield 36, 3) := by decide +kernel
theorem d3_4 : decode prog_136_method_6_code 4 = .ok (.ireturn, 1) := by decide +kernel
theorem pn3 : plainName "com/example/triplewright/triplewright/store/TripleOrder" = true := by first | (simp [plainName, overriddenIn]; done) | decide +kernel
theorem ef3 (m : MethodId) (a : Addr) : entryFrame m #[(.ref a)] 1 = mkF m 0 #[.val (.ref a)] [] := by first | (simp [entryFrame, mkF, argsToLocals, Value.category]; done) | rfl
def Q3 (Z : State) (a : Addr) (u : Int32) (h0 : Heap) (n0 : Nat) (v : Option Value) (h : Heap) (L : List Loc) : Prop := v = some (.int u) ∧ Fr n0 L ∧ h = h0
set_option maxRecDepth 65536 in
set_option maxHeartbeats 40000000 in
theorem rm3 (l : Launch) (Z : State) (a0 : Array Value) (hw : ∀ d ∈ tables_1, d.before a0 Z = true) (ws : List Jvm.Cond) (a : Addr) (u : Int32) (h0 : Heap) (n0 : Nat) (Z0 : n0 ≤ h0.size) (F1 : Fld Z h0 a "com/example/triplewright/triplewright/store/TripleOrder" "predicateColumn" "I" (.int u)) :
    MetFree l (⟨"com/example/triplewright/triplewright/store/TripleOrder", "predicateColumn", "()I"⟩ : MethodName) (head1 (Jvm.Cond.code (⟨"com/example/triplewright/triplewright/store/TripleOrder", "predicateColumn", "()I"⟩ : MethodName) prog_136_method_6_code 1 (some .int) :: ws) ({ frames := 0, cells := 0, slots := 0, locals := 0 } : Room)) (fun ar_ U => ar_ = #[(.ref a)] ∧ Z.Warmed39 U.vm ∧ U.heap = h0) (fun _ _ _ _ _ => True) (fun _ U o U' => ∃ v L, o = .returned v ∧ Q3 Z a u h0 n0 v U'.heap L ∧ FrameEnd U o U' L ({ frames := 0, cells := 0, slots := 0, locals := 0 } : Room).cells ({ frames := 0, cells := 0, slots := 0, locals := 0 } : Room).slots) := by
  refine MetFree.of_bodySF (plainFor_of_name pn3) hisR ?_
  intro p e s m args below meth c s₁ Bd hml0 hP hK
  obtain ⟨rfl, hZ, hh⟩ := hP
  have hx := Bd.exec
  have hby := Bd.bytes
  have hml : c.maxLocals = 1 := hml0
  have hown : s.vm.findClass "com/example/triplewright/triplewright/store/TripleOrder" = some m.cls := findClass_of_methodNamed Bd.named
  have hnm := (name_of_methodNamed Bd.named Bd.method).1
  have X0 : Stand p l e ({ frames := 0, cells := 0, slots := 0, locals := 0 } : Room) s m #[(.ref a)] below meth c s₁ [] 0 0 := Stand.of_body Bd
  have e0 : s₁.heap = h0 := by rw [← hh, Bd.state]; rfl
  have N0 := Fr.nil n0
  show OFin p e below s _ _ (Q3 Z a u h0 n0) (s₁.setTop (entryFrame m #[(.ref a)] 1))
  rw [ef3]
  obtain ⟨Q, hQ⟩ : ∃ Q, Q = Q3 Z a u h0 n0 := ⟨_, rfl⟩
  rw [← hQ]
  show OFin p e below s _ _ Q (s₁.setTop (mkF m 0 #[.val (.ref a)] []))
  refine OFin.back (fun _ hr => XS.aloadN X0.here hx rfl (hb hby d3_0) rfl rfl hr) ?_
  show OFin p e below s _ _ Q (s₁.setTop (mkF m 1 #[.val (.ref a)] [(.ref a)]))
  obtain ⟨T1, X1, e1, st1⟩ := getF X0 hx hZ hown (host := "") (Or.inl (hw _ (List.mem_of_getElem? (i := 18) rfl))) Via.refl e0 F1 (g := (mkF m 1 #[.val (.ref a)] [(.ref a)])) rfl rfl (hb hby d3_1)
  refine OFin.back st1 ?_
  show OFin p e below s _ _ Q (T1.setTop (mkF m 4 #[.val (.ref a)] [(.int u)]))
  exact OFin.outI X1 hx Bd.returns Bd.notSynchronized (hb hby d3_4) (by decide) (by decide) e1 (by rw [hQ]; exact ⟨rfl, N0, rfl⟩)
theorem d4_0 : decode prog_136_method_7_code 0 = .ok (.aload_n 0, 1) := by decide +kernel
theorem d4_1 : decode prog_136_method_7_code 1 = .ok (.getfield 39, 3) := by decide +kernel
theorem d4_4 : decode prog_136_method_7_code 4 = .ok (.ireturn, 1) := by decide +kernel
theorem pn4 : plainName "com/example/triplewright/triplewright/store/TripleOrder" = true := by first | (simp [plainName, overriddenIn]; done) | decide +kernel
theorem ef4 (m : MethodId) (a : Addr) : entryFrame m #[(.ref a)] 1 = mkF m 0 #[.val (.ref a)] [] := by first | (simp [entryFrame, mkF, argsToLocals, Value.category]; done) | rfl
def Q4 (Z : State) (a : Addr) (u : Int32) (h0 : Heap) (n0 : Nat) (v : Option Value) (h : Heap) (L : List Loc) : Prop := v = some (.int u) ∧ Fr n0 L ∧ h = h0
set_option maxRecDepth 65536 in
set_option maxHeartbeats 40000000 in
theorem rm4 (l : Launch) (Z : State) (a0 : Array Value) (hw : ∀ d ∈ tables_1, d.before a0 Z = true) (ws : List Jvm.Cond) (a : Addr) (u : Int32) (h0 : Heap) (n0 : Nat) (Z0 : n0 ≤ h0.size) (F1 : Fld Z h0 a "com/example/triplewright/triplewright/store/TripleOrder" "objectColumn" "I" (.int u)) :
    MetFree l (⟨"com/example/triplewright/triplewright/store/TripleOrder", "objectColumn", "()I"⟩ : MethodName) (head1 (Jvm.Cond.code (⟨"com/example/triplewright/triplewright/store/TripleOrder", "objectColumn", "()I"⟩ : MethodName) prog_136_method_7_code 1 (some .int) :: ws) ({ frames := 0, cells := 0, slots := 0, locals := 0 } : Room)) (fun ar_ U => ar_ = #[(.ref a)] ∧ Z.Warmed39 U.vm ∧ U.heap = h0) (fun _ _ _ _ _ => True) (fun _ U o U' => ∃ v L, o = .returned v ∧ Q4 Z a u h0 n0 v U'.heap L ∧ FrameEnd U o U' L ({ frames := 0, cells := 0, slots := 0, locals := 0 } : Room).cells ({ frames := 0, cells := 0, slots := 0, locals := 0 } : Room).slots) := by
  refine MetFree.of_bodySF (plainFor_of_name pn4) hisR ?_
  intro p e s m args below meth c s₁ Bd hml0 hP hK
  obtain ⟨rfl, hZ, hh⟩ := hP
  have hx := Bd.exec
  have hby := Bd.bytes
  have hml : c.maxLocals = 1 := hml0
  have hown : s.vm.findClass "com/example/triplewright/triplewright/store/TripleOrder" = some m.cls := findClass_of_methodNamed Bd.named
  have hnm := (name_of_methodNamed Bd.named Bd.method).1
  have X0 : Stand p l e ({ frames := 0, cells := 0, slots := 0, locals := 0 } : Room) s m #[(.ref a)] below meth c s₁ [] 0 0 := Stand.of_body Bd
  have e0 : s₁.heap = h0 := by rw [← hh, Bd.state]; rfl
  have N0 := Fr.nil n0
  show OFin p e below s _ _ (Q4 Z a u h0 n0) (s₁.setTop (entryFrame m #[(.ref a)] 1))
  rw [ef4]
  obtain ⟨Q, hQ⟩ : ∃ Q, Q = Q4 Z a u h0 n0 := ⟨_, rfl⟩
  rw [← hQ]
  show OFin p e below s _ _ Q (s₁.setTop (mkF m 0 #[.val (.ref a)] []))
  refine OFin.back (fun _ hr => XS.aloadN X0.here hx rfl (hb hby d4_0) rfl rfl hr) ?_
  show OFin p e below s _ _ Q (s₁.setTop (mkF m 1 #[.val (.ref a)] [(.ref a)]))
  obtain ⟨T1, X1, e1, st1⟩ := getF X0 hx hZ hown (host := "") (Or.inl (hw _ (List.mem_of_getElem? (i := 25) rfl))) Via.refl e0 F1 (g := (mkF m 1 #[.val (.ref a)] [(.ref a)])) rfl rfl (hb hby d4_1)
  refine OFin.back st1 ?_
  show OFin p e below s _ _ Q (T1.setTop (mkF m 4 #[.val (.ref a)] [(.int u)]))
  exact OFin.outI X1 hx Bd.returns Bd.notSynchronized (hb hby d4_4) (by decide) (by decide) e1 (by rw [hQ]; exact ⟨rfl, N0, rfl⟩)
theorem d1_0 : decode prog_136_method_4_code 0 = .ok (.iload_n 0, 1) := by decide +kernel
theorem d1_1 : decode prog_136_method_4_code 1 = .ok (.iconst (-1), 1) := by decide +kernel
theorem d1_2 : decode prog_136_method_4_code 2 = .ok (.if_icmp .eq 20, 3) := by decide +kernel
theorem d1_5 : decode prog_136_method_4_code 5 = .ok (.iload_n 1, 1) := by decide +kernel
theorem d1_6 : decode prog_136_method_4_code 6 = .ok (.iconst (-1), 1) := by decide +kernel
theorem d1_7 : decode prog_136_method_4_code 7 = .ok (.if_icmp .ne 8, 3) := by decide +kernel
theorem d1_10 : decode prog_136_method_4_code 10 = .ok (.iload_n 2, 1) := by decide +kernel
theorem d1_11 : decode prog_136_method_4_code 11 = .ok (.iconst (-1), 1) := by decide +kernel
theorem d1_12 : decode prog_136_method_4_code 12 = .ok (.if_icmp .ne 10, 3) := by decide +kernel
theorem d1_15 : decode prog_136_method_4_code 15 = .ok (.getstatic 3, 3) := by decide +kernel
theorem d1_18 : decode prog_136_method_4_code 18 = .ok (.astore_n 3, 1) := by decide +kernel
theorem d1_19 : decode prog_136_method_4_code 19 = .ok (.goto 31, 3) := by decide +kernel
theorem d1_22 : decode prog_136_method_4_code 22 = .ok (.iload_n 0, 1) := by decide +kernel
theorem d1_23 : decode prog_136_method_4_code 23 = .ok (.iconst (-1), 1) := by decide +kernel
theorem d1_24 : decode prog_136_method_4_code 24 = .ok (.if_icmp .eq 10, 3) := by decide +kernel
theorem d1_27 : decode prog_136_method_4_code 27 = .ok (.getstatic 10, 3) := by decide +kernel
theorem d1_30 : decode prog_136_method_4_code 30 = .ok (.astore_n 3, 1) := by decide +kernel
theorem d1_31 : decode prog_136_method_4_code 31 = .ok (.goto 19, 3) := by decide +kernel
theorem d1_34 : decode prog_136_method_4_code 34 = .ok (.iload_n 1, 1) := by decide +kernel
theorem d1_35 : decode prog_136_method_4_code 35 = .ok (.iconst (-1), 1) := by decide +kernel
theorem d1_36 : decode prog_136_method_4_code 36 = .ok (.if_icmp .eq 10, 3) := by decide +kernel
theorem d1_39 : decode prog_136_method_4_code 39 = .ok (.getstatic 7, 3) := by decide +kernel
theorem d1_42 : decode prog_136_method_4_code 42 = .ok (.astore_n 3, 1) := by decide +kernel
theorem d1_43 : decode prog_136_method_4_code 43 = .ok (.goto 7, 3) := by decide +kernel
theorem d1_46 : decode prog_136_method_4_code 46 = .ok (.getstatic 10, 3) := by decide +kernel
theorem d1_49 : decode prog_136_method_4_code 49 = .ok (.astore_n 3, 1) := by decide +kernel
theorem d1_50 : decode prog_136_method_4_code 50 = .ok (.aload_n 3, 1) := by decide +kernel
theorem d1_51 : decode prog_136_method_4_code 51 = .ok (.areturn, 1) := by decide +kernel
theorem pn1 : plainName "com/example/triplewright/triplewright/store/TripleOrder" = true := by first | (simp [plainName, overriddenIn]; done) | decide +kernel
theorem ef1 (m : MethodId) (s0 : Int32) (p0 : Int32) (o0 : Int32) : entryFrame m #[(.int s0), (.int p0), (.int o0)] 4 = mkF m 0 #[.val (.int s0), .val (.int p0), .val (.int o0), .unset] [] := by first | (simp [entryFrame, mkF, argsToLocals, Value.category]; done) | rfl
def Q1 (Z : State) (s0 : Int32) (p0 : Int32) (o0 : Int32) (a_SPO : Addr) (a_POS : Addr) (a_OSP : Addr) (h0 : Heap) (n0 : Nat) (v : Option Value) (h : Heap) (L : List Loc) : Prop := v = some (.ref (own_srv s0 p0 o0 a_SPO a_POS a_OSP)) ∧ Fr n0 L ∧ h = h0
set_option maxRecDepth 65536 in
set_option maxHeartbeats 40000000 in
theorem rm1 (l : Launch) (Z : State) (a0 : Array Value) (hw : ∀ d ∈ tables_1, d.before a0 Z = true) (ws : List Jvm.Cond) (s0 : Int32) (p0 : Int32) (o0 : Int32) (a_SPO : Addr) (a_POS : Addr) (a_OSP : Addr) (h0 : Heap) (n0 : Nat) (Z0 : n0 ≤ h0.size) (S_SPO : Sta Z h0 "com/example/triplewright/triplewright/store/TripleOrder" "SPO" "Lcom/example/triplewright/triplewright/store/TripleOrder;" (.ref a_SPO)) (S_POS : Sta Z h0 "com/example/triplewright/triplewright/store/TripleOrder" "POS" "Lcom/example/triplewright/triplewright/store/TripleOrder;" (.ref a_POS)) (S_OSP : Sta Z h0 "com/example/triplewright/triplewright/store/TripleOrder" "OSP" "Lcom/example/triplewright/triplewright/store/TripleOrder;" (.ref a_OSP)) :
    MetFree l (⟨"com/example/triplewright/triplewright/store/TripleOrder", "serving", "(III)Lcom/example/triplewright/triplewright/store/TripleOrder;"⟩ : MethodName) (head1 (Jvm.Cond.code (⟨"com/example/triplewright/triplewright/store/TripleOrder", "serving", "(III)Lcom/example/triplewright/triplewright/store/TripleOrder;"⟩ : MethodName) prog_136_method_4_code 4 (some (.object "com/example/triplewright/triplewright/store/TripleOrder")) :: ws) ({ frames := 0, cells := 0, slots := 0, locals := 0 } : Room)) (fun ar_ U => ar_ = #[(.int s0), (.int p0), (.int o0)] ∧ Z.Warmed39 U.vm ∧ U.heap = h0) (fun _ _ _ _ _ => True) (fun _ U o U' => ∃ v L, o = .returned v ∧ Q1 Z s0 p0 o0 a_SPO a_POS a_OSP h0 n0 v U'.heap L ∧ FrameEnd U o U' L ({ frames := 0, cells := 0, slots := 0, locals := 0 } : Room).cells ({ frames := 0, cells := 0, slots := 0, locals := 0 } : Room).slots) := by
  refine MetFree.of_bodySF (plainFor_of_name pn1) hisR ?_
  intro p e s m args below meth c s₁ Bd hml0 hP hK
  obtain ⟨rfl, hZ, hh⟩ := hP
  have hx := Bd.exec
  have hby := Bd.bytes
  have hml : c.maxLocals = 4 := hml0
  have hown : s.vm.findClass "com/example/triplewright/triplewright/store/TripleOrder" = some m.cls := findClass_of_methodNamed Bd.named
  have hnm := (name_of_methodNamed Bd.named Bd.method).1
  have X0 : Stand p l e ({ frames := 0, cells := 0, slots := 0, locals := 0 } : Room) s m #[(.int s0), (.int p0), (.int o0)] below meth c s₁ [] 0 0 := Stand.of_body Bd
  have e0 : s₁.heap = h0 := by rw [← hh, Bd.state]; rfl
  have N0 := Fr.nil n0
  show OFin p e below s _ _ (Q1 Z s0 p0 o0 a_SPO a_POS a_OSP h0 n0) (s₁.setTop (entryFrame m #[(.int s0), (.int p0), (.int o0)] 4))
  rw [ef1]
  obtain ⟨Q, hQ⟩ : ∃ Q, Q = Q1 Z s0 p0 o0 a_SPO a_POS a_OSP h0 n0 := ⟨_, rfl⟩
  rw [← hQ]
  show OFin p e below s _ _ Q (s₁.setTop (mkF m 0 #[.val (.int s0), .val (.int p0), .val (.int o0), .unset] []))
  refine OFin.back (fun _ hr => XS.iloadN X0.here hx rfl (hb hby d1_0) rfl hr) ?_
  show OFin p e below s _ _ Q (s₁.setTop (mkF m 1 #[.val (.int s0), .val (.int p0), .val (.int o0), .unset] [(.int s0)]))
  refine OFin.back (fun _ hr => XS.iconst X0.here hx rfl (hb hby d1_1) hr) ?_
  show OFin p e below s _ _ Q (s₁.setTop (mkF m 2 #[.val (.int s0), .val (.int p0), .val (.int o0), .unset] [(.int (-1 : Int32)), (.int s0)]))
  by_cases hc2_1 : s0 = (-1 : Int32)
  · -- s0 = (-1 : Int32)
    refine OFin.back (fun _ hr => XS.icmpYes X0.here hx rfl (pc0 := 2) (pc' := 22) rfl (hb hby d1_2) rfl (teq hc2_1).1 (by decide) (by decide) hr) ?_
    show OFin p e below s _ _ Q (s₁.setTop (mkF m 22 #[.val (.int s0), .val (.int p0), .val (.int o0), .unset] []))
    refine OFin.back (fun _ hr => XS.iloadN X0.here hx rfl (hb hby d1_22) rfl hr) ?_
    show OFin p e below s _ _ Q (s₁.setTop (mkF m 23 #[.val (.int s0), .val (.int p0), .val (.int o0), .unset] [(.int s0)]))
    refine OFin.back (fun _ hr => XS.iconst X0.here hx rfl (hb hby d1_23) hr) ?_
    show OFin p e below s _ _ Q (s₁.setTop (mkF m 24 #[.val (.int s0), .val (.int p0), .val (.int o0), .unset] [(.int (-1 : Int32)), (.int s0)]))
    refine OFin.back (fun _ hr => XS.icmpYes X0.here hx rfl (pc0 := 24) (pc' := 34) rfl (hb hby d1_24) rfl (teq hc2_1).1 (by decide) (by decide) hr) ?_
    show OFin p e below s _ _ Q (s₁.setTop (mkF m 34 #[.val (.int s0), .val (.int p0), .val (.int o0), .unset] []))
    refine OFin.back (fun _ hr => XS.iloadN X0.here hx rfl (hb hby d1_34) rfl hr) ?_
    show OFin p e below s _ _ Q (s₁.setTop (mkF m 35 #[.val (.int s0), .val (.int p0), .val (.int o0), .unset] [(.int p0)]))
    refine OFin.back (fun _ hr => XS.iconst X0.here hx rfl (hb hby d1_35) hr) ?_
    show OFin p e below s _ _ Q (s₁.setTop (mkF m 36 #[.val (.int s0), .val (.int p0), .val (.int o0), .unset] [(.int (-1 : Int32)), (.int p0)]))
    by_cases hc36_2 : p0 = (-1 : Int32)
    · -- p0 = (-1 : Int32)
      refine OFin.back (fun _ hr => XS.icmpYes X0.here hx rfl (pc0 := 36) (pc' := 46) rfl (hb hby d1_36) rfl (teq hc36_2).1 (by decide) (by decide) hr) ?_
      show OFin p e below s _ _ Q (s₁.setTop (mkF m 46 #[.val (.int s0), .val (.int p0), .val (.int o0), .unset] []))
      obtain ⟨T3, X3, e3, st3⟩ := getS2 X0 hx hZ hown (host := "") (Or.inl (hw _ (List.mem_of_getElem? (i := 28) rfl))) Via.refl e0 S_OSP (g := (mkF m 46 #[.val (.int s0), .val (.int p0), .val (.int o0), .unset] [])) rfl (hb hby d1_46)
      refine OFin.back st3 ?_
      show OFin p e below s _ _ Q (T3.setTop (mkF m 49 #[.val (.int s0), .val (.int p0), .val (.int o0), .unset] [(.ref a_OSP)]))
      refine OFin.back (fun _ hr => XS.astoreN X3.here hx rfl (hb hby d1_49) rfl rfl (l' := #[.val (.int s0), .val (.int p0), .val (.int o0), .val (.ref a_OSP)]) rfl hr) ?_
      show OFin p e below s _ _ Q (T3.setTop (mkF m 50 #[.val (.int s0), .val (.int p0), .val (.int o0), .val (.ref a_OSP)] []))
      refine OFin.back (fun _ hr => XS.aloadN X3.here hx rfl (hb hby d1_50) rfl rfl hr) ?_
      show OFin p e below s _ _ Q (T3.setTop (mkF m 51 #[.val (.int s0), .val (.int p0), .val (.int o0), .val (.ref a_OSP)] [(.ref a_OSP)]))
      exact OFin.outA X3 hx Bd.returns rfl rfl rfl Bd.notSynchronized (hb hby d1_51) (by decide) (by decide) e3 (by rw [hQ]; exact ⟨by rw [show own_srv s0 p0 o0 a_SPO a_POS a_OSP = a_OSP from by simp [own_srv, hc2_1, hc36_2]], N0, rfl⟩)
    · -- not p0 = (-1 : Int32)
      refine OFin.back (fun _ hr => XS.icmpNo X0.here hx rfl (hb hby d1_36) rfl (feq hc36_2).1 hr) ?_
      show OFin p e below s _ _ Q (s₁.setTop (mkF m 39 #[.val (.int s0), .val (.int p0), .val (.int o0), .unset] []))
      obtain ⟨T4, X4, e4, st4⟩ := getS2 X0 hx hZ hown (host := "") (Or.inl (hw _ (List.mem_of_getElem? (i := 31) rfl))) Via.refl e0 S_POS (g := (mkF m 39 #[.val (.int s0), .val (.int p0), .val (.int o0), .unset] [])) rfl (hb hby d1_39)
      refine OFin.back st4 ?_
      show OFin p e below s _ _ Q (T4.setTop (mkF m 42 #[.val (.int s0), .val (.int p0), .val (.int o0), .unset] [(.ref a_POS)]))
      refine OFin.back (fun _ hr => XS.astoreN X4.here hx rfl (hb hby d1_42) rfl rfl (l' := #[.val (.int s0), .val (.int p0), .val (.int o0), .val (.ref a_POS)]) rfl hr) ?_
      show OFin p e below s _ _ Q (T4.setTop (mkF m 43 #[.val (.int s0), .val (.int p0), .val (.int o0), .val (.ref a_POS)] []))
      refine OFin.back (fun _ hr => XS.goto X4.here hx rfl (pc0 := 43) (pc' := 50) rfl (hb hby d1_43) (by decide) (by decide) hr) ?_
      show OFin p e below s _ _ Q (T4.setTop (mkF m 50 #[.val (.int s0), .val (.int p0), .val (.int o0), .val (.ref a_POS)] []))
      refine OFin.back (fun _ hr => XS.aloadN X4.here hx rfl (hb hby d1_50) rfl rfl hr) ?_
      show OFin p e below s _ _ Q (T4.setTop (mkF m 51 #[.val (.int s0), .val (.int p0), .val (.int o0), .val (.ref a_POS)] [(.ref a_POS)]))
      exact OFin.outA X4 hx Bd.returns rfl rfl rfl Bd.notSynchronized (hb hby d1_51) (by decide) (by decide) e4 (by rw [hQ]; exact ⟨by rw [show own_srv s0 p0 o0 a_SPO a_POS a_OSP = a_POS from by simp [own_srv, hc2_1, hc36_2]], N0, rfl⟩)
  · -- not s0 = (-1 : Int32)
    refine OFin.back (fun _ hr => XS.icmpNo X0.here hx rfl (hb hby d1_2) rfl (feq hc2_1).1 hr) ?_
    show OFin p e below s _ _ Q (s₁.setTop (mkF m 5 #[.val (.int s0), .val (.int p0), .val (.int o0), .unset] []))
    refine OFin.back (fun _ hr => XS.iloadN X0.here hx rfl (hb hby d1_5) rfl hr) ?_
    show OFin p e below s _ _ Q (s₁.setTop (mkF m 6 #[.val (.int s0), .val (.int p0), .val (.int o0), .unset] [(.int p0)]))
    refine OFin.back (fun _ hr => XS.iconst X0.here hx rfl (hb hby d1_6) hr) ?_
    show OFin p e below s _ _ Q (s₁.setTop (mkF m 7 #[.val (.int s0), .val (.int p0), .val (.int o0), .unset] [(.int (-1 : Int32)), (.int p0)]))
    by_cases hc7_5 : p0 = (-1 : Int32)
    · -- p0 = (-1 : Int32)
      refine OFin.back (fun _ hr => XS.icmpNo X0.here hx rfl (hb hby d1_7) rfl (teq hc7_5).2 hr) ?_
      show OFin p e below s _ _ Q (s₁.setTop (mkF m 10 #[.val (.int s0), .val (.int p0), .val (.int o0), .unset] []))
      refine OFin.back (fun _ hr => XS.iloadN X0.here hx rfl (hb hby d1_10) rfl hr) ?_
      show OFin p e below s _ _ Q (s₁.setTop (mkF m 11 #[.val (.int s0), .val (.int p0), .val (.int o0), .unset] [(.int o0)]))
      refine OFin.back (fun _ hr => XS.iconst X0.here hx rfl (hb hby d1_11) hr) ?_
      show OFin p e below s _ _ Q (s₁.setTop (mkF m 12 #[.val (.int s0), .val (.int p0), .val (.int o0), .unset] [(.int (-1 : Int32)), (.int o0)]))
      by_cases hc12_6 : o0 = (-1 : Int32)
      · -- o0 = (-1 : Int32)
        refine OFin.back (fun _ hr => XS.icmpNo X0.here hx rfl (hb hby d1_12) rfl (teq hc12_6).2 hr) ?_
        show OFin p e below s _ _ Q (s₁.setTop (mkF m 15 #[.val (.int s0), .val (.int p0), .val (.int o0), .unset] []))
        obtain ⟨T7, X7, e7, st7⟩ := getS2 X0 hx hZ hown (host := "") (Or.inl (hw _ (List.mem_of_getElem? (i := 4) rfl))) Via.refl e0 S_SPO (g := (mkF m 15 #[.val (.int s0), .val (.int p0), .val (.int o0), .unset] [])) rfl (hb hby d1_15)
        refine OFin.back st7 ?_
        show OFin p e below s _ _ Q (T7.setTop (mkF m 18 #[.val (.int s0), .val (.int p0), .val (.int o0), .unset] [(.ref a_SPO)]))
        refine OFin.back (fun _ hr => XS.astoreN X7.here hx rfl (hb hby d1_18) rfl rfl (l' := #[.val (.int s0), .val (.int p0), .val (.int o0), .val (.ref a_SPO)]) rfl hr) ?_
        show OFin p e below s _ _ Q (T7.setTop (mkF m 19 #[.val (.int s0), .val (.int p0), .val (.int o0), .val (.ref a_SPO)] []))
        refine OFin.back (fun _ hr => XS.goto X7.here hx rfl (pc0 := 19) (pc' := 50) rfl (hb hby d1_19) (by decide) (by decide) hr) ?_
        show OFin p e below s _ _ Q (T7.setTop (mkF m 50 #[.val (.int s0), .val (.int p0), .val (.int o0), .val (.ref a_SPO)] []))
        refine OFin.back (fun _ hr => XS.aloadN X7.here hx rfl (hb hby d1_50) rfl rfl hr) ?_
        show OFin p e below s _ _ Q (T7.setTop (mkF m 51 #[.val (.int s0), .val (.int p0), .val (.int o0), .val (.ref a_SPO)] [(.ref a_SPO)]))
        exact OFin.outA X7 hx Bd.returns rfl rfl rfl Bd.notSynchronized (hb hby d1_51) (by decide) (by decide) e7 (by rw [hQ]; exact ⟨by rw [show own_srv s0 p0 o0 a_SPO a_POS a_OSP = a_SPO from by simp [own_srv, hc2_1, hc7_5, hc12_6]], N0, rfl⟩)
      · -- not o0 = (-1 : Int32)
        refine OFin.back (fun _ hr => XS.icmpYes X0.here hx rfl (pc0 := 12) (pc' := 22) rfl (hb hby d1_12) rfl (feq hc12_6).2 (by decide) (by decide) hr) ?_
        show OFin p e below s _ _ Q (s₁.setTop (mkF m 22 #[.val (.int s0), .val (.int p0), .val (.int o0), .unset] []))
        refine OFin.back (fun _ hr => XS.iloadN X0.here hx rfl (hb hby d1_22) rfl hr) ?_
        show OFin p e below s _ _ Q (s₁.setTop (mkF m 23 #[.val (.int s0), .val (.int p0), .val (.int o0), .unset] [(.int s0)]))
        refine OFin.back (fun _ hr => XS.iconst X0.here hx rfl (hb hby d1_23) hr) ?_
        show OFin p e below s _ _ Q (s₁.setTop (mkF m 24 #[.val (.int s0), .val (.int p0), .val (.int o0), .unset] [(.int (-1 : Int32)), (.int s0)]))
        refine OFin.back (fun _ hr => XS.icmpNo X0.here hx rfl (hb hby d1_24) rfl (feq hc2_1).1 hr) ?_
        show OFin p e below s _ _ Q (s₁.setTop (mkF m 27 #[.val (.int s0), .val (.int p0), .val (.int o0), .unset] []))
        obtain ⟨T8, X8, e8, st8⟩ := getS2 X0 hx hZ hown (host := "") (Or.inl (hw _ (List.mem_of_getElem? (i := 28) rfl))) Via.refl e0 S_OSP (g := (mkF m 27 #[.val (.int s0), .val (.int p0), .val (.int o0), .unset] [])) rfl (hb hby d1_27)
        refine OFin.back st8 ?_
        show OFin p e below s _ _ Q (T8.setTop (mkF m 30 #[.val (.int s0), .val (.int p0), .val (.int o0), .unset] [(.ref a_OSP)]))
        refine OFin.back (fun _ hr => XS.astoreN X8.here hx rfl (hb hby d1_30) rfl rfl (l' := #[.val (.int s0), .val (.int p0), .val (.int o0), .val (.ref a_OSP)]) rfl hr) ?_
        show OFin p e below s _ _ Q (T8.setTop (mkF m 31 #[.val (.int s0), .val (.int p0), .val (.int o0), .val (.ref a_OSP)] []))
        refine OFin.back (fun _ hr => XS.goto X8.here hx rfl (pc0 := 31) (pc' := 50) rfl (hb hby d1_31) (by decide) (by decide) hr) ?_
        show OFin p e below s _ _ Q (T8.setTop (mkF m 50 #[.val (.int s0), .val (.int p0), .val (.int o0), .val (.ref a_OSP)] []))
        refine OFin.back (fun _ hr => XS.aloadN X8.here hx rfl (hb hby d1_50) rfl rfl hr) ?_
        show OFin p e below s _ _ Q (T8.setTop (mkF m 51 #[.val (.int s0), .val (.int p0), .val (.int o0), .val (.ref a_OSP)] [(.ref a_OSP)]))
        exact OFin.outA X8 hx Bd.returns rfl rfl rfl Bd.notSynchronized (hb hby d1_51) (by decide) (by decide) e8 (by rw [hQ]; exact ⟨by rw [show own_srv s0 p0 o0 a_SPO a_POS a_OSP = a_OSP from by simp [own_srv, hc2_1, hc7_5, hc12_6]], N0, rfl⟩)
    · -- not p0 = (-1 : Int32)
      refine OFin.back (fun _ hr => XS.icmpYes X0.here hx rfl (pc0 := 7) (pc' := 15) rfl (hb hby d1_7) rfl (feq hc7_5).2 (by decide) (by decide) hr) ?_
      show OFin p e below s _ _ Q (s₁.setTop (mkF m 15 #[.val (.int s0), .val (.int p0), .val (.int o0), .unset] []))
      obtain ⟨T9, X9, e9, st9⟩ := getS2 X0 hx hZ hown (host := "") (Or.inl (hw _ (List.mem_of_getElem? (i := 4) rfl))) Via.refl e0 S_SPO (g := (mkF m 15 #[.val (.int s0), .val (.int p0), .val (.int o0), .unset] [])) rfl (hb hby d1_15)
      refine OFin.back st9 ?_
      show OFin p e below s _ _ Q (T9.setTop (mkF m 18 #[.val (.int s0), .val (.int p0), .val (.int o0), .unset] [(.ref a_SPO)]))
      refine OFin.back (fun _ hr => XS.astoreN X9.here hx rfl (hb hby d1_18) rfl rfl (l' := #[.val (.int s0), .val (.int p0), .val (.int o0), .val (.ref a_SPO)]) rfl hr) ?_
      show OFin p e below s _ _ Q (T9.setTop (mkF m 19 #[.val (.int s0), .val (.int p0), .val (.int o0), .val (.ref a_SPO)] []))
      refine OFin.back (fun _ hr => XS.goto X9.here hx rfl (pc0 := 19) (pc' := 50) rfl (hb hby d1_19) (by decide) (by decide) hr) ?_
      show OFin p e below s _ _ Q (T9.setTop (mkF m 50 #[.val (.int s0), .val (.int p0), .val (.int o0), .val (.ref a_SPO)] []))
      refine OFin.back (fun _ hr => XS.aloadN X9.here hx rfl (hb hby d1_50) rfl rfl hr) ?_
      show OFin p e below s _ _ Q (T9.setTop (mkF m 51 #[.val (.int s0), .val (.int p0), .val (.int o0), .val (.ref a_SPO)] [(.ref a_SPO)]))
      exact OFin.outA X9 hx Bd.returns rfl rfl rfl Bd.notSynchronized (hb hby d1_51) (by decide) (by decide) e9 (by rw [hQ]; exact ⟨by rw [show own_srv s0 p0 o0 a_SPO a_POS a_OSP = a_SPO from by simp [own_srv, hc2_1, hc7_5]], N0, rfl⟩)
theorem pn0 : plainName "com/example/triplewright/triplewright/store/TripleOrderServingPinLaw" = true := by first | (simp [plainName, overriddenIn]; done) | decide +kernel
theorem pd0_0 : parseMethodDescriptor "(III)Lcom/example/triplewright/triplewright/store/TripleOrder;" = some ⟨[.int, .int, .int], some (.object "com/example/triplewright/triplewright/store/TripleOrder")⟩ := by decide +kernel
theorem pd0_1 : parseMethodDescriptor "()I" = some ⟨[], some .int⟩ := by decide +kernel
theorem ef0 (m : MethodId) (fl : Int32) (si : Int32) (pi : Int32) (oi : Int32) : entryFrame m #[(.int fl), (.int si), (.int pi), (.int oi)] maxLocals = mkF m 0 #[.val (.int fl), .val (.int si), .val (.int pi), .val (.int oi), .unset, .unset, .unset, .unset, .unset, .unset, .unset, .unset, .unset] [] := by first | (simp [entryFrame, mkF, argsToLocals, Value.category, maxLocals]; done) | rfl
def Q0 (Z : State) (fl : Int32) (si : Int32) (pi : Int32) (oi : Int32) (a_SPO : Addr) (a_POS : Addr) (a_OSP : Addr) (h0 : Heap) (n0 : Nat) (v : Option Value) (h : Heap) (L : List Loc) : Prop := v = some (.int 1) ∧ Fr n0 L
set_option maxRecDepth 65536 in
set_option maxHeartbeats 40000000 in
theorem rm0 (l : Launch) (Z : State) (a0 : Array Value) (hw : ∀ d ∈ tables_1, d.before a0 Z = true) (ws : List Jvm.Cond) (fl : Int32) (si : Int32) (pi : Int32) (oi : Int32) (a_SPO : Addr) (a_POS : Addr) (a_OSP : Addr) (h0 : Heap) (n0 : Nat) (Z0 : n0 ≤ h0.size) (S_SPO : Sta Z h0 "com/example/triplewright/triplewright/store/TripleOrder" "SPO" "Lcom/example/triplewright/triplewright/store/TripleOrder;" (.ref a_SPO)) (E_SPO : Exa Z h0 a_SPO "com/example/triplewright/triplewright/store/TripleOrder") (F_SPO_subjectColumn : Fld Z h0 a_SPO "com/example/triplewright/triplewright/store/TripleOrder" "subjectColumn" "I" (.int (0 : Int32))) (F_SPO_predicateColumn : Fld Z h0 a_SPO "com/example/triplewright/triplewright/store/TripleOrder" "predicateColumn" "I" (.int (1 : Int32))) (F_SPO_objectColumn : Fld Z h0 a_SPO "com/example/triplewright/triplewright/store/TripleOrder" "objectColumn" "I" (.int (2 : Int32))) (S_POS : Sta Z h0 "com/example/triplewright/triplewright/store/TripleOrder" "POS" "Lcom/example/triplewright/triplewright/store/TripleOrder;" (.ref a_POS)) (E_POS : Exa Z h0 a_POS "com/example/triplewright/triplewright/store/TripleOrder") (F_POS_subjectColumn : Fld Z h0 a_POS "com/example/triplewright/triplewright/store/TripleOrder" "subjectColumn" "I" (.int (2 : Int32))) (F_POS_predicateColumn : Fld Z h0 a_POS "com/example/triplewright/triplewright/store/TripleOrder" "predicateColumn" "I" (.int (0 : Int32))) (F_POS_objectColumn : Fld Z h0 a_POS "com/example/triplewright/triplewright/store/TripleOrder" "objectColumn" "I" (.int (1 : Int32))) (S_OSP : Sta Z h0 "com/example/triplewright/triplewright/store/TripleOrder" "OSP" "Lcom/example/triplewright/triplewright/store/TripleOrder;" (.ref a_OSP)) (E_OSP : Exa Z h0 a_OSP "com/example/triplewright/triplewright/store/TripleOrder") (F_OSP_subjectColumn : Fld Z h0 a_OSP "com/example/triplewright/triplewright/store/TripleOrder" "subjectColumn" "I" (.int (1 : Int32))) (F_OSP_predicateColumn : Fld Z h0 a_OSP "com/example/triplewright/triplewright/store/TripleOrder" "predicateColumn" "I" (.int (2 : Int32))) (F_OSP_objectColumn : Fld Z h0 a_OSP "com/example/triplewright/triplewright/store/TripleOrder" "objectColumn" "I" (.int (0 : Int32))) :
    MetFree l x (head1 (Jvm.Cond.code x code maxLocals ret :: ws) room_1) (fun ar_ U => ar_ = #[(.int fl), (.int si), (.int pi), (.int oi)] ∧ Z.Warmed39 U.vm ∧ U.heap = h0) (fun _ _ _ _ _ => True) (fun _ U o U' => ∃ v L, o = .returned v ∧ Q0 Z fl si pi oi a_SPO a_POS a_OSP h0 n0 v U'.heap L ∧ FrameEnd U o U' L room_1.cells room_1.slots) := by
  refine MetFree.of_bodySF (plainFor_of_name pn0) hisR ?_
  intro p e s m args below meth c s₁ Bd hml0 hP hK
  obtain ⟨rfl, hZ, hh⟩ := hP
  have hx := Bd.exec
  have hby := Bd.bytes
  have hml : c.maxLocals = 13 := hml0
  have hown : s.vm.findClass "com/example/triplewright/triplewright/store/TripleOrderServingPinLaw" = some m.cls := findClass_of_methodNamed Bd.named
  have hnm := (name_of_methodNamed Bd.named Bd.method).1
  have X0 : Stand p l e room_1 s m #[(.int fl), (.int si), (.int pi), (.int oi)] below meth c s₁ [] 0 0 := Stand.of_body Bd
  have e0 : s₁.heap = h0 := by rw [← hh, Bd.state]; rfl
  have N0 := Fr.nil n0
  show OFin p e below s _ _ (Q0 Z fl si pi oi a_SPO a_POS a_OSP h0 n0) (s₁.setTop (entryFrame m #[(.int fl), (.int si), (.int pi), (.int oi)] maxLocals))
  rw [ef0]
  obtain ⟨Q, hQ⟩ : ∃ Q, Q = Q0 Z fl si pi oi a_SPO a_POS a_OSP h0 n0 := ⟨_, rfl⟩
  rw [← hQ]
  show OFin p e below s _ _ Q (s₁.setTop (mkF m 0 #[.val (.int fl), .val (.int si), .val (.int pi), .val (.int oi), .unset, .unset, .unset, .unset, .unset, .unset, .unset, .unset, .unset] []))
  have J13 : ∀ v4 : Int32, OFin p e below s room_1.cells room_1.slots Q (s₁.setTop (mkF m 13 #[.val (.int fl), .val (.int si), .val (.int pi), .val (.int oi), .val (.int v4), .unset, .unset, .unset, .unset, .unset, .unset, .unset, .unset] [])) := by
    intro v4
    show OFin p e below s _ _ Q (s₁.setTop (mkF m 13 #[.val (.int fl), .val (.int si), .val (.int pi), .val (.int oi), .val (.int v4), .unset, .unset, .unset, .unset, .unset, .unset, .unset, .unset] []))
    have J26 : ∀ v5 : Int32, OFin p e below s room_1.cells room_1.slots Q (s₁.setTop (mkF m 26 #[.val (.int fl), .val (.int si), .val (.int pi), .val (.int oi), .val (.int v4), .val (.int v5), .unset, .unset, .unset, .unset, .unset, .unset, .unset] [])) := by
      intro v5
      show OFin p e below s _ _ Q (s₁.setTop (mkF m 26 #[.val (.int fl), .val (.int si), .val (.int pi), .val (.int oi), .val (.int v4), .val (.int v5), .unset, .unset, .unset, .unset, .unset, .unset, .unset] []))
      have J39 : ∀ v6 : Int32, OFin p e below s room_1.cells room_1.slots Q (s₁.setTop (mkF m 39 #[.val (.int fl), .val (.int si), .val (.int pi), .val (.int oi), .val (.int v4), .val (.int v5), .val (.int v6), .unset, .unset, .unset, .unset, .unset, .unset] [])) := by
        intro v6
        show OFin p e below s _ _ Q (s₁.setTop (mkF m 39 #[.val (.int fl), .val (.int si), .val (.int pi), .val (.int oi), .val (.int v4), .val (.int v5), .val (.int v6), .unset, .unset, .unset, .unset, .unset, .unset] []))
        by_cases hs1 : v4 = (-1 : Int32)
        · -- v4 = (-1 : Int32)
          by_cases hs2 : v5 = (-1 : Int32)
          · -- v5 = (-1 : Int32)
            by_cases hs3 : v6 = (-1 : Int32)
            · -- v6 = (-1 : Int32)
              refine OFin.back (fun _ hr => XS.iload X0.here hx rfl (hb hby at_39) rfl hr) ?_
              show OFin p e below s _ _ Q (s₁.setTop (mkF m 41 #[.val (.int fl), .val (.int si), .val (.int pi), .val (.int oi), .val (.int v4), .val (.int v5), .val (.int v6), .unset, .unset, .unset, .unset, .unset, .unset] [(.int v4)]))
              refine OFin.back (fun _ hr => XS.iload X0.here hx rfl (hb hby at_41) rfl hr) ?_
              show OFin p e below s _ _ Q (s₁.setTop (mkF m 43 #[.val (.int fl), .val (.int si), .val (.int pi), .val (.int oi), .val (.int v4), .val (.int v5), .val (.int v6), .unset, .unset, .unset, .unset, .unset, .unset] [(.int v5), (.int v4)]))
              refine OFin.back (fun _ hr => XS.iload X0.here hx rfl (hb hby at_43) rfl hr) ?_
              show OFin p e below s _ _ Q (s₁.setTop (mkF m 45 #[.val (.int fl), .val (.int si), .val (.int pi), .val (.int oi), .val (.int v4), .val (.int v5), .val (.int v6), .unset, .unset, .unset, .unset, .unset, .unset] [(.int v6), (.int v5), (.int v4)]))
              obtain ⟨_, _, ⟨T4, L4, k4, n4⟩, -, X4, ⟨Lc4, hQ4, l4, y4, z4⟩, st4⟩ := Jvm.LawKit.callS X0 hx (y := (⟨"com/example/triplewright/triplewright/store/TripleOrder", "serving", "(III)Lcom/example/triplewright/triplewright/store/TripleOrder;"⟩ : MethodName)) hown (mvT hZ (hw _ (List.mem_of_getElem? (i := 0) rfl))) (mvT hZ (hw _ (List.mem_of_getElem? (i := 1) rfl))) (mvT hZ (hw _ (List.mem_of_getElem? (i := 2) rfl))) (mvT hZ (hw _ (List.mem_of_getElem? (i := 3) rfl))) (by decide) (backOf (W := 0) (rm1 l Z a0 hw [] v4 v5 v6 a_SPO a_POS a_OSP h0 n0 Z0 S_SPO S_POS S_OSP) hZ (hw _ (List.mem_of_getElem? (i := 3) rfl)) (hw _ (List.mem_of_getElem? (i := 2) rfl)) (by decide) (by decide)) (g := (mkF m 45 #[.val (.int fl), .val (.int si), .val (.int pi), .val (.int oi), .val (.int v4), .val (.int v5), .val (.int v6), .unset, .unset, .unset, .unset, .unset, .unset] [(.int v6), (.int v5), (.int v4)])) rfl (by rw [hml]; rfl) (argsL := [(.int v4), (.int v5), (.int v6)]) (rest := []) (lenOf pd0_0 rfl) rfl (by show 2 * 0 + _ ≤ _; exact Nat.le_of_eq rfl) (hb hby at_45) (fun _ _ => ⟨rfl, e0, (by decide : 0 + 0 ≤ _), (by decide : 0 + 0 ≤ _)⟩)
              dsimp only [Pt.U, Pt.locs, Pt.cells, Pt.slots] at X4 l4 y4 z4 st4 hQ4
              subst l4 y4 z4
              obtain ⟨rfl, N4q, e4⟩ := hQ4
              have N4 := Fr.app N0 N4q
              refine OFin.back st4 ?_
              rw [show (own_srv v4 v5 v6 a_SPO a_POS a_OSP) = a_OSP from by simp [own_srv, hs1, hs2, hs3]]
              show OFin p e below s _ _ Q (T4.setTop (mkF m 48 #[.val (.int fl), .val (.int si), .val (.int pi), .val (.int oi), .val (.int v4), .val (.int v5), .val (.int v6), .unset, .unset, .unset, .unset, .unset, .unset] [(.ref a_OSP)]))
              refine OFin.back (fun _ hr => XS.astore X4.here hx rfl (hb hby at_48) rfl rfl (l' := #[.val (.int fl), .val (.int si), .val (.int pi), .val (.int oi), .val (.int v4), .val (.int v5), .val (.int v6), .val (.ref a_OSP), .unset, .unset, .unset, .unset, .unset]) rfl hr) ?_
              show OFin p e below s _ _ Q (T4.setTop (mkF m 50 #[.val (.int fl), .val (.int si), .val (.int pi), .val (.int oi), .val (.int v4), .val (.int v5), .val (.int v6), .val (.ref a_OSP), .unset, .unset, .unset, .unset, .unset] []))
              refine OFin.back (fun _ hr => XS.aload X4.here hx rfl (hb hby at_50) rfl rfl hr) ?_
              show OFin p e below s _ _ Q (T4.setTop (mkF m 52 #[.val (.int fl), .val (.int si), .val (.int pi), .val (.int oi), .val (.int v4), .val (.int v5), .val (.int v6), .val (.ref a_OSP), .unset, .unset, .unset, .unset, .unset] [(.ref a_OSP)]))
              refine OFin.back (fun _ hr => XS.ifnonnullYes X4.here hx rfl (pc0 := 52) (pc' := 57) rfl (hb hby at_52) rfl (by decide) (by decide) hr) ?_
              show OFin p e below s _ _ Q (T4.setTop (mkF m 57 #[.val (.int fl), .val (.int si), .val (.int pi), .val (.int oi), .val (.int v4), .val (.int v5), .val (.int v6), .val (.ref a_OSP), .unset, .unset, .unset, .unset, .unset] []))
              refine OFin.back (fun _ hr => XS.iload X4.here hx rfl (hb hby at_57) rfl hr) ?_
              show OFin p e below s _ _ Q (T4.setTop (mkF m 59 #[.val (.int fl), .val (.int si), .val (.int pi), .val (.int oi), .val (.int v4), .val (.int v5), .val (.int v6), .val (.ref a_OSP), .unset, .unset, .unset, .unset, .unset] [(.int v4)]))
              refine OFin.back (fun _ hr => XS.iconst X4.here hx rfl (hb hby at_59) hr) ?_
              show OFin p e below s _ _ Q (T4.setTop (mkF m 60 #[.val (.int fl), .val (.int si), .val (.int pi), .val (.int oi), .val (.int v4), .val (.int v5), .val (.int v6), .val (.ref a_OSP), .unset, .unset, .unset, .unset, .unset] [(.int (-1 : Int32)), (.int v4)]))
              refine OFin.back (fun _ hr => XS.icmpYes X4.here hx rfl (pc0 := 60) (pc' := 67) rfl (hb hby at_60) rfl (teq hs1).1 (by decide) (by decide) hr) ?_
              show OFin p e below s _ _ Q (T4.setTop (mkF m 67 #[.val (.int fl), .val (.int si), .val (.int pi), .val (.int oi), .val (.int v4), .val (.int v5), .val (.int v6), .val (.ref a_OSP), .unset, .unset, .unset, .unset, .unset] []))
              refine OFin.back (fun _ hr => XS.iconst X4.here hx rfl (hb hby at_67) hr) ?_
              show OFin p e below s _ _ Q (T4.setTop (mkF m 68 #[.val (.int fl), .val (.int si), .val (.int pi), .val (.int oi), .val (.int v4), .val (.int v5), .val (.int v6), .val (.ref a_OSP), .unset, .unset, .unset, .unset, .unset] [(.int (0 : Int32))]))
              refine OFin.back (fun _ hr => XS.istore X4.here hx rfl (hb hby at_68) rfl (l' := #[.val (.int fl), .val (.int si), .val (.int pi), .val (.int oi), .val (.int v4), .val (.int v5), .val (.int v6), .val (.ref a_OSP), .val (.int (0 : Int32)), .unset, .unset, .unset, .unset]) rfl hr) ?_
              show OFin p e below s _ _ Q (T4.setTop (mkF m 70 #[.val (.int fl), .val (.int si), .val (.int pi), .val (.int oi), .val (.int v4), .val (.int v5), .val (.int v6), .val (.ref a_OSP), .val (.int (0 : Int32)), .unset, .unset, .unset, .unset] []))
              refine OFin.back (fun _ hr => XS.iload X4.here hx rfl (hb hby at_70) rfl hr) ?_
              show OFin p e below s _ _ Q (T4.setTop (mkF m 72 #[.val (.int fl), .val (.int si), .val (.int pi), .val (.int oi), .val (.int v4), .val (.int v5), .val (.int v6), .val (.ref a_OSP), .val (.int (0 : Int32)), .unset, .unset, .unset, .unset] [(.int v5)]))
              refine OFin.back (fun _ hr => XS.iconst X4.here hx rfl (hb hby at_72) hr) ?_
              show OFin p e below s _ _ Q (T4.setTop (mkF m 73 #[.val (.int fl), .val (.int si), .val (.int pi), .val (.int oi), .val (.int v4), .val (.int v5), .val (.int v6), .val (.ref a_OSP), .val (.int (0 : Int32)), .unset, .unset, .unset, .unset] [(.int (-1 : Int32)), (.int v5)]))
              refine OFin.back (fun _ hr => XS.icmpYes X4.here hx rfl (pc0 := 73) (pc' := 80) rfl (hb hby at_73) rfl (teq hs2).1 (by decide) (by decide) hr) ?_
              show OFin p e below s _ _ Q (T4.setTop (mkF m 80 #[.val (.int fl), .val (.int si), .val (.int pi), .val (.int oi), .val (.int v4), .val (.int v5), .val (.int v6), .val (.ref a_OSP), .val (.int (0 : Int32)), .unset, .unset, .unset, .unset] []))
              refine OFin.back (fun _ hr => XS.iconst X4.here hx rfl (hb hby at_80) hr) ?_
              show OFin p e below s _ _ Q (T4.setTop (mkF m 81 #[.val (.int fl), .val (.int si), .val (.int pi), .val (.int oi), .val (.int v4), .val (.int v5), .val (.int v6), .val (.ref a_OSP), .val (.int (0 : Int32)), .unset, .unset, .unset, .unset] [(.int (0 : Int32))]))
              refine OFin.back (fun _ hr => XS.istore X4.here hx rfl (hb hby at_81) rfl (l' := #[.val (.int fl), .val (.int si), .val (.int pi), .val (.int oi), .val (.int v4), .val (.int v5), .val (.int v6), .val (.ref a_OSP), .val (.int (0 : Int32)), .val (.int (0 : Int32)), .unset, .unset, .unset]) rfl hr) ?_
              show OFin p e below s _ _ Q (T4.setTop (mkF m 83 #[.val (.int fl), .val (.int si), .val (.int pi), .val (.int oi), .val (.int v4), .val (.int v5), .val (.int v6), .val (.ref a_OSP), .val (.int (0 : Int32)), .val (.int (0 : Int32)), .unset, .unset, .unset] []))
              refine OFin.back (fun _ hr => XS.iload X4.here hx rfl (hb hby at_83) rfl hr) ?_
              show OFin p e below s _ _ Q (T4.setTop (mkF m 85 #[.val (.int fl), .val (.int si), .val (.int pi), .val (.int oi), .val (.int v4), .val (.int v5), .val (.int v6), .val (.ref a_OSP), .val (.int (0 : Int32)), .val (.int (0 : Int32)), .unset, .unset, .unset] [(.int v6)]))
              refine OFin.back (fun _ hr => XS.iconst X4.here hx rfl (hb hby at_85) hr) ?_
              show OFin p e below s _ _ Q (T4.setTop (mkF m 86 #[.val (.int fl), .val (.int si), .val (.int pi), .val (.int oi), .val (.int v4), .val (.int v5), .val (.int v6), .val (.ref a_OSP), .val (.int (0 : Int32)), .val (.int (0 : Int32)), .unset, .unset, .unset] [(.int (-1 : Int32)), (.int v6)]))
              refine OFin.back (fun _ hr => XS.icmpYes X4.here hx rfl (pc0 := 86) (pc' := 93) rfl (hb hby at_86) rfl (teq hs3).1 (by decide) (by decide) hr) ?_
              show OFin p e below s _ _ Q (T4.setTop (mkF m 93 #[.val (.int fl), .val (.int si), .val (.int pi), .val (.int oi), .val (.int v4), .val (.int v5), .val (.int v6), .val (.ref a_OSP), .val (.int (0 : Int32)), .val (.int (0 : Int32)), .unset, .unset, .unset] []))
              refine OFin.back (fun _ hr => XS.iconst X4.here hx rfl (hb hby at_93) hr) ?_
              show OFin p e below s _ _ Q (T4.setTop (mkF m 94 #[.val (.int fl), .val (.int si), .val (.int pi), .val (.int oi), .val (.int v4), .val (.int v5), .val (.int v6), .val (.ref a_OSP), .val (.int (0 : Int32)), .val (.int (0 : Int32)), .unset, .unset, .unset] [(.int (0 : Int32))]))
              refine OFin.back (fun _ hr => XS.istore X4.here hx rfl (hb hby at_94) rfl (l' := #[.val (.int fl), .val (.int si), .val (.int pi), .val (.int oi), .val (.int v4), .val (.int v5), .val (.int v6), .val (.ref a_OSP), .val (.int (0 : Int32)), .val (.int (0 : Int32)), .val (.int (0 : Int32)), .unset, .unset]) rfl hr) ?_
              show OFin p e below s _ _ Q (T4.setTop (mkF m 96 #[.val (.int fl), .val (.int si), .val (.int pi), .val (.int oi), .val (.int v4), .val (.int v5), .val (.int v6), .val (.ref a_OSP), .val (.int (0 : Int32)), .val (.int (0 : Int32)), .val (.int (0 : Int32)), .unset, .unset] []))
              refine OFin.back (fun _ hr => XS.iconst X4.here hx rfl (hb hby at_96) hr) ?_
              show OFin p e below s _ _ Q (T4.setTop (mkF m 97 #[.val (.int fl), .val (.int si), .val (.int pi), .val (.int oi), .val (.int v4), .val (.int v5), .val (.int v6), .val (.ref a_OSP), .val (.int (0 : Int32)), .val (.int (0 : Int32)), .val (.int (0 : Int32)), .unset, .unset] [(.int (0 : Int32))]))
              refine OFin.back (fun _ hr => XS.istore X4.here hx rfl (hb hby at_97) rfl (l' := #[.val (.int fl), .val (.int si), .val (.int pi), .val (.int oi), .val (.int v4), .val (.int v5), .val (.int v6), .val (.ref a_OSP), .val (.int (0 : Int32)), .val (.int (0 : Int32)), .val (.int (0 : Int32)), .val (.int (0 : Int32)), .unset]) rfl hr) ?_
              show OFin p e below s _ _ Q (T4.setTop (mkF m 99 #[.val (.int fl), .val (.int si), .val (.int pi), .val (.int oi), .val (.int v4), .val (.int v5), .val (.int v6), .val (.ref a_OSP), .val (.int (0 : Int32)), .val (.int (0 : Int32)), .val (.int (0 : Int32)), .val (.int (0 : Int32)), .unset] []))
              refine OFin.back (fun _ hr => XS.iload X4.here hx rfl (hb hby at_99) rfl hr) ?_
              show OFin p e below s _ _ Q (T4.setTop (mkF m 101 #[.val (.int fl), .val (.int si), .val (.int pi), .val (.int oi), .val (.int v4), .val (.int v5), .val (.int v6), .val (.ref a_OSP), .val (.int (0 : Int32)), .val (.int (0 : Int32)), .val (.int (0 : Int32)), .val (.int (0 : Int32)), .unset] [(.int (0 : Int32))]))
              refine OFin.back (fun _ hr => XS.ifYes X4.here hx rfl (pc0 := 101) (pc' := 110) rfl (hb hby at_101) rfl ((if0 _ _).trans (teq (by decide : (0 : Int32) = (0 : Int32))).1) (by decide) (by decide) hr) ?_
              show OFin p e below s _ _ Q (T4.setTop (mkF m 110 #[.val (.int fl), .val (.int si), .val (.int pi), .val (.int oi), .val (.int v4), .val (.int v5), .val (.int v6), .val (.ref a_OSP), .val (.int (0 : Int32)), .val (.int (0 : Int32)), .val (.int (0 : Int32)), .val (.int (0 : Int32)), .unset] []))
              refine OFin.back (fun _ hr => XS.iload X4.here hx rfl (hb hby at_110) rfl hr) ?_
              show OFin p e below s _ _ Q (T4.setTop (mkF m 112 #[.val (.int fl), .val (.int si), .val (.int pi), .val (.int oi), .val (.int v4), .val (.int v5), .val (.int v6), .val (.ref a_OSP), .val (.int (0 : Int32)), .val (.int (0 : Int32)), .val (.int (0 : Int32)), .val (.int (0 : Int32)), .unset] [(.int (0 : Int32))]))
              refine OFin.back (fun _ hr => XS.ifYes X4.here hx rfl (pc0 := 112) (pc' := 121) rfl (hb hby at_112) rfl ((if0 _ _).trans (teq (by decide : (0 : Int32) = (0 : Int32))).1) (by decide) (by decide) hr) ?_
              show OFin p e below s _ _ Q (T4.setTop (mkF m 121 #[.val (.int fl), .val (.int si), .val (.int pi), .val (.int oi), .val (.int v4), .val (.int v5), .val (.int v6), .val (.ref a_OSP), .val (.int (0 : Int32)), .val (.int (0 : Int32)), .val (.int (0 : Int32)), .val (.int (0 : Int32)), .unset] []))
              refine OFin.back (fun _ hr => XS.iload X4.here hx rfl (hb hby at_121) rfl hr) ?_
              show OFin p e below s _ _ Q (T4.setTop (mkF m 123 #[.val (.int fl), .val (.int si), .val (.int pi), .val (.int oi), .val (.int v4), .val (.int v5), .val (.int v6), .val (.ref a_OSP), .val (.int (0 : Int32)), .val (.int (0 : Int32)), .val (.int (0 : Int32)), .val (.int (0 : Int32)), .unset] [(.int (0 : Int32))]))
              refine OFin.back (fun _ hr => XS.ifYes X4.here hx rfl (pc0 := 123) (pc' := 132) rfl (hb hby at_123) rfl ((if0 _ _).trans (teq (by decide : (0 : Int32) = (0 : Int32))).1) (by decide) (by decide) hr) ?_
              show OFin p e below s _ _ Q (T4.setTop (mkF m 132 #[.val (.int fl), .val (.int si), .val (.int pi), .val (.int oi), .val (.int v4), .val (.int v5), .val (.int v6), .val (.ref a_OSP), .val (.int (0 : Int32)), .val (.int (0 : Int32)), .val (.int (0 : Int32)), .val (.int (0 : Int32)), .unset] []))
              refine OFin.back (fun _ hr => XS.iload X4.here hx rfl (hb hby at_132) rfl hr) ?_
              show OFin p e below s _ _ Q (T4.setTop (mkF m 134 #[.val (.int fl), .val (.int si), .val (.int pi), .val (.int oi), .val (.int v4), .val (.int v5), .val (.int v6), .val (.ref a_OSP), .val (.int (0 : Int32)), .val (.int (0 : Int32)), .val (.int (0 : Int32)), .val (.int (0 : Int32)), .unset] [(.int (0 : Int32))]))
              refine OFin.back (fun _ hr => XS.aload X4.here hx rfl (hb hby at_134) rfl rfl hr) ?_
              show OFin p e below s _ _ Q (T4.setTop (mkF m 136 #[.val (.int fl), .val (.int si), .val (.int pi), .val (.int oi), .val (.int v4), .val (.int v5), .val (.int v6), .val (.ref a_OSP), .val (.int (0 : Int32)), .val (.int (0 : Int32)), .val (.int (0 : Int32)), .val (.int (0 : Int32)), .unset] [(.ref a_OSP), (.int (0 : Int32))]))
              obtain ⟨cq5, kq5, q5a, q5b, q5c⟩ := isOf hZ e4 E_OSP
              obtain ⟨_, _, ⟨T5, L5, k5, n5⟩, -, X5, ⟨Lc5, hQ5, l5, y5, z5⟩, st5⟩ := X4.virtualBack hx (y := (⟨"com/example/triplewright/triplewright/store/TripleOrder", "subjectColumn", "()I"⟩ : MethodName)) (z := (⟨"com/example/triplewright/triplewright/store/TripleOrder", "subjectColumn", "()I"⟩ : MethodName)) hown (mvT hZ (hw _ (List.mem_of_getElem? (i := 6) rfl))) (mvT hZ (hw _ (List.mem_of_getElem? (i := 7) rfl))) (notFace_of_selects (args := #[]) (mvT hZ (hw _ (List.mem_of_getElem? (i := 9) rfl)))) (mvT hZ (hw _ (List.mem_of_getElem? (i := 9) rfl))) (mvT hZ (hw _ (List.mem_of_getElem? (i := 8) rfl))) (by decide) (backOf (W := 1) (rm2 l Z a0 hw [] a_OSP (1 : Int32) h0 n0 Z0 F_OSP_subjectColumn) hZ (hw _ (List.mem_of_getElem? (i := 10) rfl)) (hw _ (List.mem_of_getElem? (i := 2) rfl)) (by decide) (by decide)) q5a q5c (g := (mkF m 136 #[.val (.int fl), .val (.int si), .val (.int pi), .val (.int oi), .val (.int v4), .val (.int v5), .val (.int v6), .val (.ref a_OSP), .val (.int (0 : Int32)), .val (.int (0 : Int32)), .val (.int (0 : Int32)), .val (.int (0 : Int32)), .unset] [(.ref a_OSP), (.int (0 : Int32))])) rfl (by rw [hml]; rfl) (Steps.refl _) (argsL := []) (rest := [(.int (0 : Int32))]) (lenOf pd0_1 rfl) rfl (by show 2 * 0 + _ ≤ _; exact Nat.le_of_eq rfl) (hb hby at_136) (fun _ _ => ⟨rfl, e4, (by decide : 0 + 0 ≤ _), (by decide : 0 + 0 ≤ _)⟩)
              dsimp only [Pt.U, Pt.locs, Pt.cells, Pt.slots] at X5 l5 y5 z5 st5 hQ5
              subst l5 y5 z5
              obtain ⟨rfl, N5q, e5⟩ := hQ5
              have N5 := Fr.app N4 N5q
              refine OFin.via st5 ?_
              show OFin p e below s _ _ Q (T5.setTop (mkF m 139 #[.val (.int fl), .val (.int si), .val (.int pi), .val (.int oi), .val (.int v4), .val (.int v5), .val (.int v6), .val (.ref a_OSP), .val (.int (0 : Int32)), .val (.int (0 : Int32)), .val (.int (0 : Int32)), .val (.int (0 : Int32)), .unset] [(.int (1 : Int32)), (.int (0 : Int32))]))
              refine OFin.back (fun _ hr => XS.iload X5.here hx rfl (hb hby at_139) rfl hr) ?_
              show OFin p e below s _ _ Q (T5.setTop (mkF m 141 #[.val (.int fl), .val (.int si), .val (.int pi), .val (.int oi), .val (.int v4), .val (.int v5), .val (.int v6), .val (.ref a_OSP), .val (.int (0 : Int32)), .val (.int (0 : Int32)), .val (.int (0 : Int32)), .val (.int (0 : Int32)), .unset] [(.int (0 : Int32)), (.int (1 : Int32)), (.int (0 : Int32))]))
              refine OFin.back (fun _ hr => XS.icmpYes X5.here hx rfl (pc0 := 141) (pc' := 148) rfl (hb hby at_141) rfl (flt (by decide : ¬ ((1 : Int32) < (0 : Int32)))).2.1 (by decide) (by decide) hr) ?_
              show OFin p e below s _ _ Q (T5.setTop (mkF m 148 #[.val (.int fl), .val (.int si), .val (.int pi), .val (.int oi), .val (.int v4), .val (.int v5), .val (.int v6), .val (.ref a_OSP), .val (.int (0 : Int32)), .val (.int (0 : Int32)), .val (.int (0 : Int32)), .val (.int (0 : Int32)), .unset] [(.int (0 : Int32))]))
              refine OFin.back (fun _ hr => XS.iconst X5.here hx rfl (hb hby at_148) hr) ?_
              show OFin p e below s _ _ Q (T5.setTop (mkF m 149 #[.val (.int fl), .val (.int si), .val (.int pi), .val (.int oi), .val (.int v4), .val (.int v5), .val (.int v6), .val (.ref a_OSP), .val (.int (0 : Int32)), .val (.int (0 : Int32)), .val (.int (0 : Int32)), .val (.int (0 : Int32)), .unset] [(.int (0 : Int32)), (.int (0 : Int32))]))
              refine OFin.back (fun _ hr => XS.icmpNo X5.here hx rfl (hb hby at_149) rfl (teq (by decide : (0 : Int32) = (0 : Int32))).2 hr) ?_
              show OFin p e below s _ _ Q (T5.setTop (mkF m 152 #[.val (.int fl), .val (.int si), .val (.int pi), .val (.int oi), .val (.int v4), .val (.int v5), .val (.int v6), .val (.ref a_OSP), .val (.int (0 : Int32)), .val (.int (0 : Int32)), .val (.int (0 : Int32)), .val (.int (0 : Int32)), .unset] []))
              refine OFin.back (fun _ hr => XS.iload X5.here hx rfl (hb hby at_152) rfl hr) ?_
              show OFin p e below s _ _ Q (T5.setTop (mkF m 154 #[.val (.int fl), .val (.int si), .val (.int pi), .val (.int oi), .val (.int v4), .val (.int v5), .val (.int v6), .val (.ref a_OSP), .val (.int (0 : Int32)), .val (.int (0 : Int32)), .val (.int (0 : Int32)), .val (.int (0 : Int32)), .unset] [(.int (0 : Int32))]))
              refine OFin.back (fun _ hr => XS.aload X5.here hx rfl (hb hby at_154) rfl rfl hr) ?_
              show OFin p e below s _ _ Q (T5.setTop (mkF m 156 #[.val (.int fl), .val (.int si), .val (.int pi), .val (.int oi), .val (.int v4), .val (.int v5), .val (.int v6), .val (.ref a_OSP), .val (.int (0 : Int32)), .val (.int (0 : Int32)), .val (.int (0 : Int32)), .val (.int (0 : Int32)), .unset] [(.ref a_OSP), (.int (0 : Int32))]))
              obtain ⟨cq6, kq6, q6a, q6b, q6c⟩ := isOf hZ e5 E_OSP
              obtain ⟨_, _, ⟨T6, L6, k6, n6⟩, -, X6, ⟨Lc6, hQ6, l6, y6, z6⟩, st6⟩ := X5.virtualBack hx (y := (⟨"com/example/triplewright/triplewright/store/TripleOrder", "predicateColumn", "()I"⟩ : MethodName)) (z := (⟨"com/example/triplewright/triplewright/store/TripleOrder", "predicateColumn", "()I"⟩ : MethodName)) hown (mvT hZ (hw _ (List.mem_of_getElem? (i := 13) rfl))) (mvT hZ (hw _ (List.mem_of_getElem? (i := 14) rfl))) (notFace_of_selects (args := #[]) (mvT hZ (hw _ (List.mem_of_getElem? (i := 16) rfl)))) (mvT hZ (hw _ (List.mem_of_getElem? (i := 16) rfl))) (mvT hZ (hw _ (List.mem_of_getElem? (i := 15) rfl))) (by decide) (backOf (W := 1) (rm3 l Z a0 hw [] a_OSP (2 : Int32) h0 n0 Z0 F_OSP_predicateColumn) hZ (hw _ (List.mem_of_getElem? (i := 17) rfl)) (hw _ (List.mem_of_getElem? (i := 2) rfl)) (by decide) (by decide)) q6a q6c (g := (mkF m 156 #[.val (.int fl), .val (.int si), .val (.int pi), .val (.int oi), .val (.int v4), .val (.int v5), .val (.int v6), .val (.ref a_OSP), .val (.int (0 : Int32)), .val (.int (0 : Int32)), .val (.int (0 : Int32)), .val (.int (0 : Int32)), .unset] [(.ref a_OSP), (.int (0 : Int32))])) rfl (by rw [hml]; rfl) (Steps.refl _) (argsL := []) (rest := [(.int (0 : Int32))]) (lenOf pd0_1 rfl) rfl (by show 2 * 0 + _ ≤ _; exact Nat.le_of_eq rfl) (hb hby at_156) (fun _ _ => ⟨rfl, e5, (by decide : 0 + 0 ≤ _), (by decide : 0 + 0 ≤ _)⟩)
              dsimp only [Pt.U, Pt.locs, Pt.cells, Pt.slots] at X6 l6 y6 z6 st6 hQ6
              subst l6 y6 z6
              obtain ⟨rfl, N6q, e6⟩ := hQ6
              have N6 := Fr.app N5 N6q
              refine OFin.via st6 ?_
              show OFin p e below s _ _ Q (T6.setTop (mkF m 159 #[.val (.int fl), .val (.int si), .val (.int pi), .val (.int oi), .val (.int v4), .val (.int v5), .val (.int v6), .val (.ref a_OSP), .val (.int (0 : Int32)), .val (.int (0 : Int32)), .val (.int (0 : Int32)), .val (.int (0 : Int32)), .unset] [(.int (2 : Int32)), (.int (0 : Int32))]))
              refine OFin.back (fun _ hr => XS.iload X6.here hx rfl (hb hby at_159) rfl hr) ?_
              show OFin p e below s _ _ Q (T6.setTop (mkF m 161 #[.val (.int fl), .val (.int si), .val (.int pi), .val (.int oi), .val (.int v4), .val (.int v5), .val (.int v6), .val (.ref a_OSP), .val (.int (0 : Int32)), .val (.int (0 : Int32)), .val (.int (0 : Int32)), .val (.int (0 : Int32)), .unset] [(.int (0 : Int32)), (.int (2 : Int32)), (.int (0 : Int32))]))
              refine OFin.back (fun _ hr => XS.icmpYes X6.here hx rfl (pc0 := 161) (pc' := 168) rfl (hb hby at_161) rfl (flt (by decide : ¬ ((2 : Int32) < (0 : Int32)))).2.1 (by decide) (by decide) hr) ?_
              show OFin p e below s _ _ Q (T6.setTop (mkF m 168 #[.val (.int fl), .val (.int si), .val (.int pi), .val (.int oi), .val (.int v4), .val (.int v5), .val (.int v6), .val (.ref a_OSP), .val (.int (0 : Int32)), .val (.int (0 : Int32)), .val (.int (0 : Int32)), .val (.int (0 : Int32)), .unset] [(.int (0 : Int32))]))
              refine OFin.back (fun _ hr => XS.iconst X6.here hx rfl (hb hby at_168) hr) ?_
              show OFin p e below s _ _ Q (T6.setTop (mkF m 169 #[.val (.int fl), .val (.int si), .val (.int pi), .val (.int oi), .val (.int v4), .val (.int v5), .val (.int v6), .val (.ref a_OSP), .val (.int (0 : Int32)), .val (.int (0 : Int32)), .val (.int (0 : Int32)), .val (.int (0 : Int32)), .unset] [(.int (0 : Int32)), (.int (0 : Int32))]))
              refine OFin.back (fun _ hr => XS.icmpNo X6.here hx rfl (hb hby at_169) rfl (teq (by decide : (0 : Int32) = (0 : Int32))).2 hr) ?_
              show OFin p e below s _ _ Q (T6.setTop (mkF m 172 #[.val (.int fl), .val (.int si), .val (.int pi), .val (.int oi), .val (.int v4), .val (.int v5), .val (.int v6), .val (.ref a_OSP), .val (.int (0 : Int32)), .val (.int (0 : Int32)), .val (.int (0 : Int32)), .val (.int (0 : Int32)), .unset] []))
              refine OFin.back (fun _ hr => XS.iload X6.here hx rfl (hb hby at_172) rfl hr) ?_
              show OFin p e below s _ _ Q (T6.setTop (mkF m 174 #[.val (.int fl), .val (.int si), .val (.int pi), .val (.int oi), .val (.int v4), .val (.int v5), .val (.int v6), .val (.ref a_OSP), .val (.int (0 : Int32)), .val (.int (0 : Int32)), .val (.int (0 : Int32)), .val (.int (0 : Int32)), .unset] [(.int (0 : Int32))]))
              refine OFin.back (fun _ hr => XS.aload X6.here hx rfl (hb hby at_174) rfl rfl hr) ?_
              show OFin p e below s _ _ Q (T6.setTop (mkF m 176 #[.val (.int fl), .val (.int si), .val (.int pi), .val (.int oi), .val (.int v4), .val (.int v5), .val (.int v6), .val (.ref a_OSP), .val (.int (0 : Int32)), .val (.int (0 : Int32)), .val (.int (0 : Int32)), .val (.int (0 : Int32)), .unset] [(.ref a_OSP), (.int (0 : Int32))]))
              obtain ⟨cq7, kq7, q7a, q7b, q7c⟩ := isOf hZ e6 E_OSP
              obtain ⟨_, _, ⟨T7, L7, k7, n7⟩, -, X7, ⟨Lc7, hQ7, l7, y7, z7⟩, st7⟩ := X6.virtualBack hx (y := (⟨"com/example/triplewright/triplewright/store/TripleOrder", "objectColumn", "()I"⟩ : MethodName)) (z := (⟨"com/example/triplewright/triplewright/store/TripleOrder", "objectColumn", "()I"⟩ : MethodName)) hown (mvT hZ (hw _ (List.mem_of_getElem? (i := 20) rfl))) (mvT hZ (hw _ (List.mem_of_getElem? (i := 21) rfl))) (notFace_of_selects (args := #[]) (mvT hZ (hw _ (List.mem_of_getElem? (i := 23) rfl)))) (mvT hZ (hw _ (List.mem_of_getElem? (i := 23) rfl))) (mvT hZ (hw _ (List.mem_of_getElem? (i := 22) rfl))) (by decide) (backOf (W := 1) (rm4 l Z a0 hw [] a_OSP (0 : Int32) h0 n0 Z0 F_OSP_objectColumn) hZ (hw _ (List.mem_of_getElem? (i := 24) rfl)) (hw _ (List.mem_of_getElem? (i := 2) rfl)) (by decide) (by decide)) q7a q7c (g := (mkF m 176 #[.val (.int fl), .val (.int si), .val (.int pi), .val (.int oi), .val (.int v4), .val (.int v5), .val (.int v6), .val (.ref a_OSP), .val (.int (0 : Int32)), .val (.int (0 : Int32)), .val (.int (0 : Int32)), .val (.int (0 : Int32)), .unset] [(.ref a_OSP), (.int (0 : Int32))])) rfl (by rw [hml]; rfl) (Steps.refl _) (argsL := []) (rest := [(.int (0 : Int32))]) (lenOf pd0_1 rfl) rfl (by show 2 * 0 + _ ≤ _; exact Nat.le_of_eq rfl) (hb hby at_176) (fun _ _ => ⟨rfl, e6, (by decide : 0 + 0 ≤ _), (by decide : 0 + 0 ≤ _)⟩)
              dsimp only [Pt.U, Pt.locs, Pt.cells, Pt.slots] at X7 l7 y7 z7 st7 hQ7
              subst l7 y7 z7
              obtain ⟨rfl, N7q, e7⟩ := hQ7
              have N7 := Fr.app N6 N7q
              refine OFin.via st7 ?_
              show OFin p e below s _ _ Q (T7.setTop (mkF m 179 #[.val (.int fl), .val (.int si), .val (.int pi), .val (.int oi), .val (.int v4), .val (.int v5), .val (.int v6), .val (.ref a_OSP), .val (.int (0 : Int32)), .val (.int (0 : Int32)), .val (.int (0 : Int32)), .val (.int (0 : Int32)), .unset] [(.int (0 : Int32)), (.int (0 : Int32))]))
              refine OFin.back (fun _ hr => XS.iload X7.here hx rfl (hb hby at_179) rfl hr) ?_
              show OFin p e below s _ _ Q (T7.setTop (mkF m 181 #[.val (.int fl), .val (.int si), .val (.int pi), .val (.int oi), .val (.int v4), .val (.int v5), .val (.int v6), .val (.ref a_OSP), .val (.int (0 : Int32)), .val (.int (0 : Int32)), .val (.int (0 : Int32)), .val (.int (0 : Int32)), .unset] [(.int (0 : Int32)), (.int (0 : Int32)), (.int (0 : Int32))]))
              refine OFin.back (fun _ hr => XS.icmpYes X7.here hx rfl (pc0 := 181) (pc' := 188) rfl (hb hby at_181) rfl (flt (by decide : ¬ ((0 : Int32) < (0 : Int32)))).2.1 (by decide) (by decide) hr) ?_
              show OFin p e below s _ _ Q (T7.setTop (mkF m 188 #[.val (.int fl), .val (.int si), .val (.int pi), .val (.int oi), .val (.int v4), .val (.int v5), .val (.int v6), .val (.ref a_OSP), .val (.int (0 : Int32)), .val (.int (0 : Int32)), .val (.int (0 : Int32)), .val (.int (0 : Int32)), .unset] [(.int (0 : Int32))]))
              refine OFin.back (fun _ hr => XS.iconst X7.here hx rfl (hb hby at_188) hr) ?_
              show OFin p e below s _ _ Q (T7.setTop (mkF m 189 #[.val (.int fl), .val (.int si), .val (.int pi), .val (.int oi), .val (.int v4), .val (.int v5), .val (.int v6), .val (.ref a_OSP), .val (.int (0 : Int32)), .val (.int (0 : Int32)), .val (.int (0 : Int32)), .val (.int (0 : Int32)), .unset] [(.int (0 : Int32)), (.int (0 : Int32))]))
              refine OFin.back (fun _ hr => XS.icmpNo X7.here hx rfl (hb hby at_189) rfl (teq (by decide : (0 : Int32) = (0 : Int32))).2 hr) ?_
              show OFin p e below s _ _ Q (T7.setTop (mkF m 192 #[.val (.int fl), .val (.int si), .val (.int pi), .val (.int oi), .val (.int v4), .val (.int v5), .val (.int v6), .val (.ref a_OSP), .val (.int (0 : Int32)), .val (.int (0 : Int32)), .val (.int (0 : Int32)), .val (.int (0 : Int32)), .unset] []))
              refine OFin.back (fun _ hr => XS.iconst X7.here hx rfl (hb hby at_192) hr) ?_
              show OFin p e below s _ _ Q (T7.setTop (mkF m 193 #[.val (.int fl), .val (.int si), .val (.int pi), .val (.int oi), .val (.int v4), .val (.int v5), .val (.int v6), .val (.ref a_OSP), .val (.int (0 : Int32)), .val (.int (0 : Int32)), .val (.int (0 : Int32)), .val (.int (0 : Int32)), .unset] [(.int (1 : Int32))]))
              refine OFin.back (fun _ hr => XS.goto X7.here hx rfl (pc0 := 193) (pc' := 197) rfl (hb hby at_193) (by decide) (by decide) hr) ?_
              show OFin p e below s _ _ Q (T7.setTop (mkF m 197 #[.val (.int fl), .val (.int si), .val (.int pi), .val (.int oi), .val (.int v4), .val (.int v5), .val (.int v6), .val (.ref a_OSP), .val (.int (0 : Int32)), .val (.int (0 : Int32)), .val (.int (0 : Int32)), .val (.int (0 : Int32)), .unset] [(.int (1 : Int32))]))
              refine OFin.back (fun _ hr => XS.istore X7.here hx rfl (hb hby at_197) rfl (l' := #[.val (.int fl), .val (.int si), .val (.int pi), .val (.int oi), .val (.int v4), .val (.int v5), .val (.int v6), .val (.ref a_OSP), .val (.int (0 : Int32)), .val (.int (0 : Int32)), .val (.int (0 : Int32)), .val (.int (0 : Int32)), .val (.int (1 : Int32))]) rfl hr) ?_
              show OFin p e below s _ _ Q (T7.setTop (mkF m 199 #[.val (.int fl), .val (.int si), .val (.int pi), .val (.int oi), .val (.int v4), .val (.int v5), .val (.int v6), .val (.ref a_OSP), .val (.int (0 : Int32)), .val (.int (0 : Int32)), .val (.int (0 : Int32)), .val (.int (0 : Int32)), .val (.int (1 : Int32))] []))
              refine OFin.back (fun _ hr => XS.iload X7.here hx rfl (hb hby at_199) rfl hr) ?_
              show OFin p e below s _ _ Q (T7.setTop (mkF m 201 #[.val (.int fl), .val (.int si), .val (.int pi), .val (.int oi), .val (.int v4), .val (.int v5), .val (.int v6), .val (.ref a_OSP), .val (.int (0 : Int32)), .val (.int (0 : Int32)), .val (.int (0 : Int32)), .val (.int (0 : Int32)), .val (.int (1 : Int32))] [(.int (0 : Int32))]))
              refine OFin.back (fun _ hr => XS.iconst X7.here hx rfl (hb hby at_201) hr) ?_
              show OFin p e below s _ _ Q (T7.setTop (mkF m 202 #[.val (.int fl), .val (.int si), .val (.int pi), .val (.int oi), .val (.int v4), .val (.int v5), .val (.int v6), .val (.ref a_OSP), .val (.int (0 : Int32)), .val (.int (0 : Int32)), .val (.int (0 : Int32)), .val (.int (0 : Int32)), .val (.int (1 : Int32))] [(.int (3 : Int32)), (.int (0 : Int32))]))
              refine OFin.back (fun _ hr => XS.icmpYes X7.here hx rfl (pc0 := 202) (pc' := 224) rfl (hb hby at_202) rfl (feq (by decide : ¬ ((0 : Int32) = (3 : Int32)))).2 (by decide) (by decide) hr) ?_
              show OFin p e below s _ _ Q (T7.setTop (mkF m 224 #[.val (.int fl), .val (.int si), .val (.int pi), .val (.int oi), .val (.int v4), .val (.int v5), .val (.int v6), .val (.ref a_OSP), .val (.int (0 : Int32)), .val (.int (0 : Int32)), .val (.int (0 : Int32)), .val (.int (0 : Int32)), .val (.int (1 : Int32))] []))
              refine OFin.back (fun _ hr => XS.iload X7.here hx rfl (hb hby at_224) rfl hr) ?_
              show OFin p e below s _ _ Q (T7.setTop (mkF m 226 #[.val (.int fl), .val (.int si), .val (.int pi), .val (.int oi), .val (.int v4), .val (.int v5), .val (.int v6), .val (.ref a_OSP), .val (.int (0 : Int32)), .val (.int (0 : Int32)), .val (.int (0 : Int32)), .val (.int (0 : Int32)), .val (.int (1 : Int32))] [(.int (0 : Int32))]))
              refine OFin.back (fun _ hr => XS.ifNo X7.here hx rfl (hb hby at_226) rfl ((if0 _ _).trans (teq (by decide : (0 : Int32) = (0 : Int32))).2) hr) ?_
              show OFin p e below s _ _ Q (T7.setTop (mkF m 229 #[.val (.int fl), .val (.int si), .val (.int pi), .val (.int oi), .val (.int v4), .val (.int v5), .val (.int v6), .val (.ref a_OSP), .val (.int (0 : Int32)), .val (.int (0 : Int32)), .val (.int (0 : Int32)), .val (.int (0 : Int32)), .val (.int (1 : Int32))] []))
              refine OFin.back (fun _ hr => XS.iload X7.here hx rfl (hb hby at_229) rfl hr) ?_
              show OFin p e below s _ _ Q (T7.setTop (mkF m 231 #[.val (.int fl), .val (.int si), .val (.int pi), .val (.int oi), .val (.int v4), .val (.int v5), .val (.int v6), .val (.ref a_OSP), .val (.int (0 : Int32)), .val (.int (0 : Int32)), .val (.int (0 : Int32)), .val (.int (0 : Int32)), .val (.int (1 : Int32))] [(.int (1 : Int32))]))
              refine OFin.back (fun _ hr => XS.ifNo X7.here hx rfl (hb hby at_231) rfl ((if0 _ _).trans (feq (by decide : ¬ ((1 : Int32) = (0 : Int32)))).1) hr) ?_
              show OFin p e below s _ _ Q (T7.setTop (mkF m 234 #[.val (.int fl), .val (.int si), .val (.int pi), .val (.int oi), .val (.int v4), .val (.int v5), .val (.int v6), .val (.ref a_OSP), .val (.int (0 : Int32)), .val (.int (0 : Int32)), .val (.int (0 : Int32)), .val (.int (0 : Int32)), .val (.int (1 : Int32))] []))
              refine OFin.back (fun _ hr => XS.aload X7.here hx rfl (hb hby at_234) rfl rfl hr) ?_
              show OFin p e below s _ _ Q (T7.setTop (mkF m 236 #[.val (.int fl), .val (.int si), .val (.int pi), .val (.int oi), .val (.int v4), .val (.int v5), .val (.int v6), .val (.ref a_OSP), .val (.int (0 : Int32)), .val (.int (0 : Int32)), .val (.int (0 : Int32)), .val (.int (0 : Int32)), .val (.int (1 : Int32))] [(.ref a_OSP)]))
              obtain ⟨T8, X8, e8, st8⟩ := getS2 X7 hx hZ hown (host := "") (Or.inl (hw _ (List.mem_of_getElem? (i := 30) rfl))) Via.refl e7 S_OSP (g := (mkF m 236 #[.val (.int fl), .val (.int si), .val (.int pi), .val (.int oi), .val (.int v4), .val (.int v5), .val (.int v6), .val (.ref a_OSP), .val (.int (0 : Int32)), .val (.int (0 : Int32)), .val (.int (0 : Int32)), .val (.int (0 : Int32)), .val (.int (1 : Int32))] [(.ref a_OSP)])) rfl (hb hby at_236)
              refine OFin.back st8 ?_
              show OFin p e below s _ _ Q (T8.setTop (mkF m 239 #[.val (.int fl), .val (.int si), .val (.int pi), .val (.int oi), .val (.int v4), .val (.int v5), .val (.int v6), .val (.ref a_OSP), .val (.int (0 : Int32)), .val (.int (0 : Int32)), .val (.int (0 : Int32)), .val (.int (0 : Int32)), .val (.int (1 : Int32))] [(.ref a_OSP), (.ref a_OSP)]))
              refine OFin.back (fun _ hr => Jvm.RoadKit.acmp (g := (mkF m 239 #[.val (.int fl), .val (.int si), .val (.int pi), .val (.int oi), .val (.int v4), .val (.int v5), .val (.int v6), .val (.ref a_OSP), .val (.int (0 : Int32)), .val (.int (0 : Int32)), .val (.int (0 : Int32)), .val (.int (0 : Int32)), .val (.int (1 : Int32))] [(.ref a_OSP), (.ref a_OSP)])) X8 hx rfl rfl rfl (pc0 := 239) (pc' := 242) (same := true) rfl (hb hby at_239) rfl (decide_eq_true rfl) (by decide) (by decide) hr) ?_
              show OFin p e below s _ _ Q (T8.setTop (mkF m 242 #[.val (.int fl), .val (.int si), .val (.int pi), .val (.int oi), .val (.int v4), .val (.int v5), .val (.int v6), .val (.ref a_OSP), .val (.int (0 : Int32)), .val (.int (0 : Int32)), .val (.int (0 : Int32)), .val (.int (0 : Int32)), .val (.int (1 : Int32))] []))
              refine OFin.back (fun _ hr => XS.iconst X8.here hx rfl (hb hby at_242) hr) ?_
              show OFin p e below s _ _ Q (T8.setTop (mkF m 243 #[.val (.int fl), .val (.int si), .val (.int pi), .val (.int oi), .val (.int v4), .val (.int v5), .val (.int v6), .val (.ref a_OSP), .val (.int (0 : Int32)), .val (.int (0 : Int32)), .val (.int (0 : Int32)), .val (.int (0 : Int32)), .val (.int (1 : Int32))] [(.int (1 : Int32))]))
              refine OFin.back (fun _ hr => XS.goto X8.here hx rfl (pc0 := 243) (pc' := 247) rfl (hb hby at_243) (by decide) (by decide) hr) ?_
              show OFin p e below s _ _ Q (T8.setTop (mkF m 247 #[.val (.int fl), .val (.int si), .val (.int pi), .val (.int oi), .val (.int v4), .val (.int v5), .val (.int v6), .val (.ref a_OSP), .val (.int (0 : Int32)), .val (.int (0 : Int32)), .val (.int (0 : Int32)), .val (.int (0 : Int32)), .val (.int (1 : Int32))] [(.int (1 : Int32))]))
              exact OFin.outN (t := .boolean) X8 hx Bd.returns (by simp) Bd.notSynchronized (hb hby at_247) (by decide) (by decide) e8 (by rw [hQ]; exact ⟨rfl, N7⟩)
            · -- not v6 = (-1 : Int32)
              refine OFin.back (fun _ hr => XS.iload X0.here hx rfl (hb hby at_39) rfl hr) ?_
              show OFin p e below s _ _ Q (s₁.setTop (mkF m 41 #[.val (.int fl), .val (.int si), .val (.int pi), .val (.int oi), .val (.int v4), .val (.int v5), .val (.int v6), .unset, .unset, .unset, .unset, .unset, .unset] [(.int v4)]))
              refine OFin.back (fun _ hr => XS.iload X0.here hx rfl (hb hby at_41) rfl hr) ?_
              show OFin p e below s _ _ Q (s₁.setTop (mkF m 43 #[.val (.int fl), .val (.int si), .val (.int pi), .val (.int oi), .val (.int v4), .val (.int v5), .val (.int v6), .unset, .unset, .unset, .unset, .unset, .unset] [(.int v5), (.int v4)]))
              refine OFin.back (fun _ hr => XS.iload X0.here hx rfl (hb hby at_43) rfl hr) ?_
              show OFin p e below s _ _ Q (s₁.setTop (mkF m 45 #[.val (.int fl), .val (.int si), .val (.int pi), .val (.int oi), .val (.int v4), .val (.int v5), .val (.int v6), .unset, .unset, .unset, .unset, .unset, .unset] [(.int v6), (.int v5), (.int v4)]))
              obtain ⟨_, _, ⟨T9, L9, k9, n9⟩, -, X9, ⟨Lc9, hQ9, l9, y9, z9⟩, st9⟩ := Jvm.LawKit.callS X0 hx (y := (⟨"com/example/triplewright/triplewright/store/TripleOrder", "serving", "(III)Lcom/example/triplewright/triplewright/store/TripleOrder;"⟩ : MethodName)) hown (mvT hZ (hw _ (List.mem_of_getElem? (i := 0) rfl))) (mvT hZ (hw _ (List.mem_of_getElem? (i := 1) rfl))) (mvT hZ (hw _ (List.mem_of_getElem? (i := 2) rfl))) (mvT hZ (hw _ (List.mem_of_getElem? (i := 3) rfl))) (by decide) (backOf (W := 0) (rm1 l Z a0 hw [] v4 v5 v6 a_SPO a_POS a_OSP h0 n0 Z0 S_SPO S_POS S_OSP) hZ (hw _ (List.mem_of_getElem? (i := 3) rfl)) (hw _ (List.mem_of_getElem? (i := 2) rfl)) (by decide) (by decide)) (g := (mkF m 45 #[.val (.int fl), .val (.int si), .val (.int pi), .val (.int oi), .val (.int v4), .val (.int v5), .val (.int v6), .unset, .unset, .unset, .unset, .unset, .unset] [(.int v6), (.int v5), (.int v4)])) rfl (by rw [hml]; rfl) (argsL := [(.int v4), (.int v5), (.int v6)]) (rest := []) (lenOf pd0_0 rfl) rfl (by show 2 * 0 + _ ≤ _; exact Nat.le_of_eq rfl) (hb hby at_45) (fun _ _ => ⟨rfl, e0, (by decide : 0 + 0 ≤ _), (by decide : 0 + 0 ≤ _)⟩)
              dsimp only [Pt.U, Pt.locs, Pt.cells, Pt.slots] at X9 l9 y9 z9 st9 hQ9
              subst l9 y9 z9
              obtain ⟨rfl, N9q, e9⟩ := hQ9
              have N9 := Fr.app N0 N9q
              refine OFin.back st9 ?_
              rw [show (own_srv v4 v5 v6 a_SPO a_POS a_OSP) = a_OSP from by simp [own_srv, hs1, hs2, hs3]]
              show OFin p e below s _ _ Q (T9.setTop (mkF m 48 #[.val (.int fl), .val (.int si), .val (.int pi), .val (.int oi), .val (.int v4), .val (.int v5), .val (.int v6), .unset, .unset, .unset, .unset, .unset, .unset] [(.ref a_OSP)]))
              refine OFin.back (fun _ hr => XS.astore X9.here hx rfl (hb hby at_48) rfl rfl (l' := #[.val (.int fl), .val (.int si), .val (.int pi), .val (.int oi), .val (.int v4), .val (.int v5), .val (.int v6), .val (.ref a_OSP), .unset, .unset, .unset, .unset, .unset]) rfl hr) ?_
              show OFin p e below s _ _ Q (T9.setTop (mkF m 50 #[.val (.int fl), .val (.int si), .val (.int pi), .val (.int oi), .val (.int v4), .val (.int v5), .val (.int v6), .val (.ref a_OSP), .unset, .unset, .unset, .unset, .unset] []))
              refine OFin.back (fun _ hr => XS.aload X9.here hx rfl (hb hby at_50) rfl rfl hr) ?_
              show OFin p e below s _ _ Q (T9.setTop (mkF m 52 #[.val (.int fl), .val (.int si), .val (.int pi), .val (.int oi), .val (.int v4), .val (.int v5), .val (.int v6), .val (.ref a_OSP), .unset, .unset, .unset, .unset, .unset] [(.ref a_OSP)]))
              refine OFin.back (fun _ hr => XS.ifnonnullYes X9.here hx rfl (pc0 := 52) (pc' := 57) rfl (hb hby at_52) rfl (by decide) (by decide) hr) ?_
              show OFin p e below s _ _ Q (T9.setTop (mkF m 57 #[.val (.int fl), .val (.int si), .val (.int pi), .val (.int oi), .val (.int v4), .val (.int v5), .val (.int v6), .val (.ref a_OSP), .unset, .unset, .unset, .unset, .unset] []))
              refine OFin.back (fun _ hr => XS.iload X9.here hx rfl (hb hby at_57) rfl hr) ?_
              show OFin p e below s _ _ Q (T9.setTop (mkF m 59 #[.val (.int fl), .val (.int si), .val (.int pi), .val (.int oi), .val (.int v4), .val (.int v5), .val (.int v6), .val (.ref a_OSP), .unset, .unset, .unset, .unset, .unset] [(.int v4)]))
              refine OFin.back (fun _ hr => XS.iconst X9.here hx rfl (hb hby at_59) hr) ?_
              show OFin p e below s _ _ Q (T9.setTop (mkF m 60 #[.val (.int fl), .val (.int si), .val (.int pi), .val (.int oi), .val (.int v4), .val (.int v5), .val (.int v6), .val (.ref a_OSP), .unset, .unset, .unset, .unset, .unset] [(.int (-1 : Int32)), (.int v4)]))
              refine OFin.back (fun _ hr => XS.icmpYes X9.here hx rfl (pc0 := 60) (pc' := 67) rfl (hb hby at_60) rfl (teq hs1).1 (by decide) (by decide) hr) ?_
              show OFin p e below s _ _ Q (T9.setTop (mkF m 67 #[.val (.int fl), .val (.int si), .val (.int pi), .val (.int oi), .val (.int v4), .val (.int v5), .val (.int v6), .val (.ref a_OSP), .unset, .unset, .unset, .unset, .unset] []))
              refine OFin.back (fun _ hr => XS.iconst X9.here hx rfl (hb hby at_67) hr) ?_
              show OFin p e below s _ _ Q (T9.setTop (mkF m 68 #[.val (.int fl), .val (.int si), .val (.int pi), .val (.int oi), .val (.int v4), .val (.int v5), .val (.int v6), .val (.ref a_OSP), .unset, .unset, .unset, .unset, .unset] [(.int (0 : Int32))]))
              refine OFin.back (fun _ hr => XS.istore X9.here hx rfl (hb hby at_68) rfl (l' := #[.val (.int fl), .val (.int si), .val (.int pi), .val (.int oi), .val (.int v4), .val (.int v5), .val (.int v6), .val (.ref a_OSP), .val (.int (0 : Int32)), .unset, .unset, .unset, .unset]) rfl hr) ?_
              show OFin p e below s _ _ Q (T9.setTop (mkF m 70 #[.val (.int fl), .val (.int si), .val (.int pi), .val (.int oi), .val (.int v4), .val (.int v5), .val (.int v6), .val (.ref a_OSP), .val (.int (0 : Int32)), .unset, .unset, .unset, .unset] []))
              refine OFin.back (fun _ hr => XS.iload X9.here hx rfl (hb hby at_70) rfl hr) ?_
              show OFin p e below s _ _ Q (T9.setTop (mkF m 72 #[.val (.int fl), .val (.int si), .val (.int pi), .val (.int oi), .val (.int v4), .val (.int v5), .val (.int v6), .val (.ref a_OSP), .val (.int (0 : Int32)), .unset, .unset, .unset, .unset] [(.int v5)]))
              refine OFin.back (fun _ hr => XS.iconst X9.here hx rfl (hb hby at_72) hr) ?_
              show OFin p e below s _ _ Q (T9.setTop (mkF m 73 #[.val (.int fl), .val (.int si), .val (.int pi), .val (.int oi), .val (.int v4), .val (.int v5), .val (.int v6), .val (.ref a_OSP), .val (.int (0 : Int32)), .unset, .unset, .unset, .unset] [(.int (-1 : Int32)), (.int v5)]))
              refine OFin.back (fun _ hr => XS.icmpYes X9.here hx rfl (pc0 := 73) (pc' := 80) rfl (hb hby at_73) rfl (teq hs2).1 (by decide) (by decide) hr) ?_
              show OFin p e below s _ _ Q (T9.setTop (mkF m 80 #[.val (.int fl), .val (.int si), .val (.int pi), .val (.int oi), .val (.int v4), .val (.int v5), .val (.int v6), .val (.ref a_OSP), .val (.int (0 : Int32)), .unset, .unset, .unset, .unset] []))
              refine OFin.back (fun _ hr => XS.iconst X9.here hx rfl (hb hby at_80) hr) ?_
              show OFin p e below s _ _ Q (T9.setTop (mkF m 81 #[.val (.int fl), .val (.int si), .val (.int pi), .val (.int oi), .val (.int v4), .val (.int v5), .val (.int v6), .val (.ref a_OSP), .val (.int (0 : Int32)), .unset, .unset, .unset, .unset] [(.int (0 : Int32))]))
              refine OFin.back (fun _ hr => XS.istore X9.here hx rfl (hb hby at_81) rfl (l' := #[.val (.int fl), .val (.int si), .val (.int pi), .val (.int oi), .val (.int v4), .val (.int v5), .val (.int v6), .val (.ref a_OSP), .val (.int (0 : Int32)), .val (.int (0 : Int32)), .unset, .unset, .unset]) rfl hr) ?_
              show OFin p e below s _ _ Q (T9.setTop (mkF m 83 #[.val (.int fl), .val (.int si), .val (.int pi), .val (.int oi), .val (.int v4), .val (.int v5), .val (.int v6), .val (.ref a_OSP), .val (.int (0 : Int32)), .val (.int (0 : Int32)), .unset, .unset, .unset] []))
              refine OFin.back (fun _ hr => XS.iload X9.here hx rfl (hb hby at_83) rfl hr) ?_
              show OFin p e below s _ _ Q (T9.setTop (mkF m 85 #[.val (.int fl), .val (.int si), .val (.int pi), .val (.int oi), .val (.int v4), .val (.int v5), .val (.int v6), .val (.ref a_OSP), .val (.int (0 : Int32)), .val (.int (0 : Int32)), .unset, .unset, .unset] [(.int v6)]))
              refine OFin.back (fun _ hr => XS.iconst X9.here hx rfl (hb hby at_85) hr) ?_
              show OFin p e below s _ _ Q (T9.setTop (mkF m 86 #[.val (.int fl), .val (.int si), .val (.int pi), .val (.int oi), .val (.int v4), .val (.int v5), .val (.int v6), .val (.ref a_OSP), .val (.int (0 : Int32)), .val (.int (0 : Int32)), .unset, .unset, .unset] [(.int (-1 : Int32)), (.int v6)]))
              refine OFin.back (fun _ hr => XS.icmpNo X9.here hx rfl (hb hby at_86) rfl (feq hs3).1 hr) ?_
              show OFin p e below s _ _ Q (T9.setTop (mkF m 89 #[.val (.int fl), .val (.int si), .val (.int pi), .val (.int oi), .val (.int v4), .val (.int v5), .val (.int v6), .val (.ref a_OSP), .val (.int (0 : Int32)), .val (.int (0 : Int32)), .unset, .unset, .unset] []))
              refine OFin.back (fun _ hr => XS.iconst X9.here hx rfl (hb hby at_89) hr) ?_
              show OFin p e below s _ _ Q (T9.setTop (mkF m 90 #[.val (.int fl), .val (.int si), .val (.int pi), .val (.int oi), .val (.int v4), .val (.int v5), .val (.int v6), .val (.ref a_OSP), .val (.int (0 : Int32)), .val (.int (0 : Int32)), .unset, .unset, .unset] [(.int (1 : Int32))]))
              refine OFin.back (fun _ hr => XS.goto X9.here hx rfl (pc0 := 90) (pc' := 94) rfl (hb hby at_90) (by decide) (by decide) hr) ?_
              show OFin p e below s _ _ Q (T9.setTop (mkF m 94 #[.val (.int fl), .val (.int si), .val (.int pi), .val (.int oi), .val (.int v4), .val (.int v5), .val (.int v6), .val (.ref a_OSP), .val (.int (0 : Int32)), .val (.int (0 : Int32)), .unset, .unset, .unset] [(.int (1 : Int32))]))
              refine OFin.back (fun _ hr => XS.istore X9.here hx rfl (hb hby at_94) rfl (l' := #[.val (.int fl), .val (.int si), .val (.int pi), .val (.int oi), .val (.int v4), .val (.int v5), .val (.int v6), .val (.ref a_OSP), .val (.int (0 : Int32)), .val (.int (0 : Int32)), .val (.int (1 : Int32)), .unset, .unset]) rfl hr) ?_
              show OFin p e below s _ _ Q (T9.setTop (mkF m 96 #[.val (.int fl), .val (.int si), .val (.int pi), .val (.int oi), .val (.int v4), .val (.int v5), .val (.int v6), .val (.ref a_OSP), .val (.int (0 : Int32)), .val (.int (0 : Int32)), .val (.int (1 : Int32)), .unset, .unset] []))
              refine OFin.back (fun _ hr => XS.iconst X9.here hx rfl (hb hby at_96) hr) ?_
              show OFin p e below s _ _ Q (T9.setTop (mkF m 97 #[.val (.int fl), .val (.int si), .val (.int pi), .val (.int oi), .val (.int v4), .val (.int v5), .val (.int v6), .val (.ref a_OSP), .val (.int (0 : Int32)), .val (.int (0 : Int32)), .val (.int (1 : Int32)), .unset, .unset] [(.int (0 : Int32))]))
              refine OFin.back (fun _ hr => XS.istore X9.here hx rfl (hb hby at_97) rfl (l' := #[.val (.int fl), .val (.int si), .val (.int pi), .val (.int oi), .val (.int v4), .val (.int v5), .val (.int v6), .val (.ref a_OSP), .val (.int (0 : Int32)), .val (.int (0 : Int32)), .val (.int (1 : Int32)), .val (.int (0 : Int32)), .unset]) rfl hr) ?_
              show OFin p e below s _ _ Q (T9.setTop (mkF m 99 #[.val (.int fl), .val (.int si), .val (.int pi), .val (.int oi), .val (.int v4), .val (.int v5), .val (.int v6), .val (.ref a_OSP), .val (.int (0 : Int32)), .val (.int (0 : Int32)), .val (.int (1 : Int32)), .val (.int (0 : Int32)), .unset] []))
              refine OFin.back (fun _ hr => XS.iload X9.here hx rfl (hb hby at_99) rfl hr) ?_
              show OFin p e below s _ _ Q (T9.setTop (mkF m 101 #[.val (.int fl), .val (.int si), .val (.int pi), .val (.int oi), .val (.int v4), .val (.int v5), .val (.int v6), .val (.ref a_OSP), .val (.int (0 : Int32)), .val (.int (0 : Int32)), .val (.int (1 : Int32)), .val (.int (0 : Int32)), .unset] [(.int (0 : Int32))]))
              refine OFin.back (fun _ hr => XS.ifYes X9.here hx rfl (pc0 := 101) (pc' := 110) rfl (hb hby at_101) rfl ((if0 _ _).trans (teq (by decide : (0 : Int32) = (0 : Int32))).1) (by decide) (by decide) hr) ?_
              show OFin p e below s _ _ Q (T9.setTop (mkF m 110 #[.val (.int fl), .val (.int si), .val (.int pi), .val (.int oi), .val (.int v4), .val (.int v5), .val (.int v6), .val (.ref a_OSP), .val (.int (0 : Int32)), .val (.int (0 : Int32)), .val (.int (1 : Int32)), .val (.int (0 : Int32)), .unset] []))
              refine OFin.back (fun _ hr => XS.iload X9.here hx rfl (hb hby at_110) rfl hr) ?_
              show OFin p e below s _ _ Q (T9.setTop (mkF m 112 #[.val (.int fl), .val (.int si), .val (.int pi), .val (.int oi), .val (.int v4), .val (.int v5), .val (.int v6), .val (.ref a_OSP), .val (.int (0 : Int32)), .val (.int (0 : Int32)), .val (.int (1 : Int32)), .val (.int (0 : Int32)), .unset] [(.int (0 : Int32))]))
              refine OFin.back (fun _ hr => XS.ifYes X9.here hx rfl (pc0 := 112) (pc' := 121) rfl (hb hby at_112) rfl ((if0 _ _).trans (teq (by decide : (0 : Int32) = (0 : Int32))).1) (by decide) (by decide) hr) ?_
              show OFin p e below s _ _ Q (T9.setTop (mkF m 121 #[.val (.int fl), .val (.int si), .val (.int pi), .val (.int oi), .val (.int v4), .val (.int v5), .val (.int v6), .val (.ref a_OSP), .val (.int (0 : Int32)), .val (.int (0 : Int32)), .val (.int (1 : Int32)), .val (.int (0 : Int32)), .unset] []))
              refine OFin.back (fun _ hr => XS.iload X9.here hx rfl (hb hby at_121) rfl hr) ?_
              show OFin p e below s _ _ Q (T9.setTop (mkF m 123 #[.val (.int fl), .val (.int si), .val (.int pi), .val (.int oi), .val (.int v4), .val (.int v5), .val (.int v6), .val (.ref a_OSP), .val (.int (0 : Int32)), .val (.int (0 : Int32)), .val (.int (1 : Int32)), .val (.int (0 : Int32)), .unset] [(.int (1 : Int32))]))
              refine OFin.back (fun _ hr => XS.ifNo X9.here hx rfl (hb hby at_123) rfl ((if0 _ _).trans (feq (by decide : ¬ ((1 : Int32) = (0 : Int32)))).1) hr) ?_
              show OFin p e below s _ _ Q (T9.setTop (mkF m 126 #[.val (.int fl), .val (.int si), .val (.int pi), .val (.int oi), .val (.int v4), .val (.int v5), .val (.int v6), .val (.ref a_OSP), .val (.int (0 : Int32)), .val (.int (0 : Int32)), .val (.int (1 : Int32)), .val (.int (0 : Int32)), .unset] []))
              refine OFin.back (fun _ hr => XS.iload X9.here hx rfl (hb hby at_126) rfl hr) ?_
              show OFin p e below s _ _ Q (T9.setTop (mkF m 128 #[.val (.int fl), .val (.int si), .val (.int pi), .val (.int oi), .val (.int v4), .val (.int v5), .val (.int v6), .val (.ref a_OSP), .val (.int (0 : Int32)), .val (.int (0 : Int32)), .val (.int (1 : Int32)), .val (.int (0 : Int32)), .unset] [(.int (0 : Int32))]))
              refine OFin.back (fun _ hr => XS.iconst X9.here hx rfl (hb hby at_128) hr) ?_
              show OFin p e below s _ _ Q (T9.setTop (mkF m 129 #[.val (.int fl), .val (.int si), .val (.int pi), .val (.int oi), .val (.int v4), .val (.int v5), .val (.int v6), .val (.ref a_OSP), .val (.int (0 : Int32)), .val (.int (0 : Int32)), .val (.int (1 : Int32)), .val (.int (0 : Int32)), .unset] [(.int (1 : Int32)), (.int (0 : Int32))]))
              refine OFin.back (fun _ hr => XS.iadd X9.here hx rfl (hb hby at_129) rfl hr) ?_
              show OFin p e below s _ _ Q (T9.setTop (mkF m 130 #[.val (.int fl), .val (.int si), .val (.int pi), .val (.int oi), .val (.int v4), .val (.int v5), .val (.int v6), .val (.ref a_OSP), .val (.int (0 : Int32)), .val (.int (0 : Int32)), .val (.int (1 : Int32)), .val (.int (0 : Int32)), .unset] [(.int (1 : Int32))]))
              refine OFin.back (fun _ hr => XS.istore X9.here hx rfl (hb hby at_130) rfl (l' := #[.val (.int fl), .val (.int si), .val (.int pi), .val (.int oi), .val (.int v4), .val (.int v5), .val (.int v6), .val (.ref a_OSP), .val (.int (0 : Int32)), .val (.int (0 : Int32)), .val (.int (1 : Int32)), .val (.int (1 : Int32)), .unset]) rfl hr) ?_
              show OFin p e below s _ _ Q (T9.setTop (mkF m 132 #[.val (.int fl), .val (.int si), .val (.int pi), .val (.int oi), .val (.int v4), .val (.int v5), .val (.int v6), .val (.ref a_OSP), .val (.int (0 : Int32)), .val (.int (0 : Int32)), .val (.int (1 : Int32)), .val (.int (1 : Int32)), .unset] []))
              refine OFin.back (fun _ hr => XS.iload X9.here hx rfl (hb hby at_132) rfl hr) ?_
              show OFin p e below s _ _ Q (T9.setTop (mkF m 134 #[.val (.int fl), .val (.int si), .val (.int pi), .val (.int oi), .val (.int v4), .val (.int v5), .val (.int v6), .val (.ref a_OSP), .val (.int (0 : Int32)), .val (.int (0 : Int32)), .val (.int (1 : Int32)), .val (.int (1 : Int32)), .unset] [(.int (0 : Int32))]))
              refine OFin.back (fun _ hr => XS.aload X9.here hx rfl (hb hby at_134) rfl rfl hr) ?_
              show OFin p e below s _ _ Q (T9.setTop (mkF m 136 #[.val (.int fl), .val (.int si), .val (.int pi), .val (.int oi), .val (.int v4), .val (.int v5), .val (.int v6), .val (.ref a_OSP), .val (.int (0 : Int32)), .val (.int (0 : Int32)), .val (.int (1 : Int32)), .val (.int (1 : Int32)), .unset] [(.ref a_OSP), (.int (0 : Int32))]))
              obtain ⟨cq10, kq10, q10a, q10b, q10c⟩ := isOf hZ e9 E_OSP
              obtain ⟨_, _, ⟨T10, L10, k10, n10⟩, -, X10, ⟨Lc10, hQ10, l10, y10, z10⟩, st10⟩ := X9.virtualBack hx (y := (⟨"com/example/triplewright/triplewright/store/TripleOrder", "subjectColumn", "()I"⟩ : MethodName)) (z := (⟨"com/example/triplewright/triplewright/store/TripleOrder", "subjectColumn", "()I"⟩ : MethodName)) hown (mvT hZ (hw _ (List.mem_of_getElem? (i := 6) rfl))) (mvT hZ (hw _ (List.mem_of_getElem? (i := 7) rfl))) (notFace_of_selects (args := #[]) (mvT hZ (hw _ (List.mem_of_getElem? (i := 9) rfl)))) (mvT hZ (hw _ (List.mem_of_getElem? (i := 9) rfl))) (mvT hZ (hw _ (List.mem_of_getElem? (i := 8) rfl))) (by decide) (backOf (W := 1) (rm2 l Z a0 hw [] a_OSP (1 : Int32) h0 n0 Z0 F_OSP_subjectColumn) hZ (hw _ (List.mem_of_getElem? (i := 10) rfl)) (hw _ (List.mem_of_getElem? (i := 2) rfl)) (by decide) (by decide)) q10a q10c (g := (mkF m 136 #[.val (.int fl), .val (.int si), .val (.int pi), .val (.int oi), .val (.int v4), .val (.int v5), .val (.int v6), .val (.ref a_OSP), .val (.int (0 : Int32)), .val (.int (0 : Int32)), .val (.int (1 : Int32)), .val (.int (1 : Int32)), .unset] [(.ref a_OSP), (.int (0 : Int32))])) rfl (by rw [hml]; rfl) (Steps.refl _) (argsL := []) (rest := [(.int (0 : Int32))]) (lenOf pd0_1 rfl) rfl (by show 2 * 0 + _ ≤ _; exact Nat.le_of_eq rfl) (hb hby at_136) (fun _ _ => ⟨rfl, e9, (by decide : 0 + 0 ≤ _), (by decide : 0 + 0 ≤ _)⟩)
              dsimp only [Pt.U, Pt.locs, Pt.cells, Pt.slots] at X10 l10 y10 z10 st10 hQ10
              subst l10 y10 z10
              obtain ⟨rfl, N10q, e10⟩ := hQ10
              have N10 := Fr.app N9 N10q
              refine OFin.via st10 ?_
              show OFin p e below s _ _ Q (T10.setTop (mkF m 139 #[.val (.int fl), .val (.int si), .val (.int pi), .val (.int oi), .val (.int v4), .val (.int v5), .val (.int v6), .val (.ref a_OSP), .val (.int (0 : Int32)), .val (.int (0 : Int32)), .val (.int (1 : Int32)), .val (.int (1 : Int32)), .unset] [(.int (1 : Int32)), (.int (0 : Int32))]))
              refine OFin.back (fun _ hr => XS.iload X10.here hx rfl (hb hby at_139) rfl hr) ?_
              show OFin p e below s _ _ Q (T10.setTop (mkF m 141 #[.val (.int fl), .val (.int si), .val (.int pi), .val (.int oi), .val (.int v4), .val (.int v5), .val (.int v6), .val (.ref a_OSP), .val (.int (0 : Int32)), .val (.int (0 : Int32)), .val (.int (1 : Int32)), .val (.int (1 : Int32)), .unset] [(.int (1 : Int32)), (.int (1 : Int32)), (.int (0 : Int32))]))
              refine OFin.back (fun _ hr => XS.icmpYes X10.here hx rfl (pc0 := 141) (pc' := 148) rfl (hb hby at_141) rfl (flt (by decide : ¬ ((1 : Int32) < (1 : Int32)))).2.1 (by decide) (by decide) hr) ?_
              show OFin p e below s _ _ Q (T10.setTop (mkF m 148 #[.val (.int fl), .val (.int si), .val (.int pi), .val (.int oi), .val (.int v4), .val (.int v5), .val (.int v6), .val (.ref a_OSP), .val (.int (0 : Int32)), .val (.int (0 : Int32)), .val (.int (1 : Int32)), .val (.int (1 : Int32)), .unset] [(.int (0 : Int32))]))
              refine OFin.back (fun _ hr => XS.iconst X10.here hx rfl (hb hby at_148) hr) ?_
              show OFin p e below s _ _ Q (T10.setTop (mkF m 149 #[.val (.int fl), .val (.int si), .val (.int pi), .val (.int oi), .val (.int v4), .val (.int v5), .val (.int v6), .val (.ref a_OSP), .val (.int (0 : Int32)), .val (.int (0 : Int32)), .val (.int (1 : Int32)), .val (.int (1 : Int32)), .unset] [(.int (0 : Int32)), (.int (0 : Int32))]))
              refine OFin.back (fun _ hr => XS.icmpNo X10.here hx rfl (hb hby at_149) rfl (teq (by decide : (0 : Int32) = (0 : Int32))).2 hr) ?_
              show OFin p e below s _ _ Q (T10.setTop (mkF m 152 #[.val (.int fl), .val (.int si), .val (.int pi), .val (.int oi), .val (.int v4), .val (.int v5), .val (.int v6), .val (.ref a_OSP), .val (.int (0 : Int32)), .val (.int (0 : Int32)), .val (.int (1 : Int32)), .val (.int (1 : Int32)), .unset] []))
              refine OFin.back (fun _ hr => XS.iload X10.here hx rfl (hb hby at_152) rfl hr) ?_
              show OFin p e below s _ _ Q (T10.setTop (mkF m 154 #[.val (.int fl), .val (.int si), .val (.int pi), .val (.int oi), .val (.int v4), .val (.int v5), .val (.int v6), .val (.ref a_OSP), .val (.int (0 : Int32)), .val (.int (0 : Int32)), .val (.int (1 : Int32)), .val (.int (1 : Int32)), .unset] [(.int (0 : Int32))]))
              refine OFin.back (fun _ hr => XS.aload X10.here hx rfl (hb hby at_154) rfl rfl hr) ?_
              show OFin p e below s _ _ Q (T10.setTop (mkF m 156 #[.val (.int fl), .val (.int si), .val (.int pi), .val (.int oi), .val (.int v4), .val (.int v5), .val (.int v6), .val (.ref a_OSP), .val (.int (0 : Int32)), .val (.int (0 : Int32)), .val (.int (1 : Int32)), .val (.int (1 : Int32)), .unset] [(.ref a_OSP), (.int (0 : Int32))]))
              obtain ⟨cq11, kq11, q11a, q11b, q11c⟩ := isOf hZ e10 E_OSP
              obtain ⟨_, _, ⟨T11, L11, k11, n11⟩, -, X11, ⟨Lc11, hQ11, l11, y11, z11⟩, st11⟩ := X10.virtualBack hx (y := (⟨"com/example/triplewright/triplewright/store/TripleOrder", "predicateColumn", "()I"⟩ : MethodName)) (z := (⟨"com/example/triplewright/triplewright/store/TripleOrder", "predicateColumn", "()I"⟩ : MethodName)) hown (mvT hZ (hw _ (List.mem_of_getElem? (i := 13) rfl))) (mvT hZ (hw _ (List.mem_of_getElem? (i := 14) rfl))) (notFace_of_selects (args := #[]) (mvT hZ (hw _ (List.mem_of_getElem? (i := 16) rfl)))) (mvT hZ (hw _ (List.mem_of_getElem? (i := 16) rfl))) (mvT hZ (hw _ (List.mem_of_getElem? (i := 15) rfl))) (by decide) (backOf (W := 1) (rm3 l Z a0 hw [] a_OSP (2 : Int32) h0 n0 Z0 F_OSP_predicateColumn) hZ (hw _ (List.mem_of_getElem? (i := 17) rfl)) (hw _ (List.mem_of_getElem? (i := 2) rfl)) (by decide) (by decide)) q11a q11c (g := (mkF m 156 #[.val (.int fl), .val (.int si), .val (.int pi), .val (.int oi), .val (.int v4), .val (.int v5), .val (.int v6), .val (.ref a_OSP), .val (.int (0 : Int32)), .val (.int (0 : Int32)), .val (.int (1 : Int32)), .val (.int (1 : Int32)), .unset] [(.ref a_OSP), (.int (0 : Int32))])) rfl (by rw [hml]; rfl) (Steps.refl _) (argsL := []) (rest := [(.int (0 : Int32))]) (lenOf pd0_1 rfl) rfl (by show 2 * 0 + _ ≤ _; exact Nat.le_of_eq rfl) (hb hby at_156) (fun _ _ => ⟨rfl, e10, (by decide : 0 + 0 ≤ _), (by decide : 0 + 0 ≤ _)⟩)
              dsimp only [Pt.U, Pt.locs, Pt.cells, Pt.slots] at X11 l11 y11 z11 st11 hQ11
              subst l11 y11 z11
              obtain ⟨rfl, N11q, e11⟩ := hQ11
              have N11 := Fr.app N10 N11q
              refine OFin.via st11 ?_
              show OFin p e below s _ _ Q (T11.setTop (mkF m 159 #[.val (.int fl), .val (.int si), .val (.int pi), .val (.int oi), .val (.int v4), .val (.int v5), .val (.int v6), .val (.ref a_OSP), .val (.int (0 : Int32)), .val (.int (0 : Int32)), .val (.int (1 : Int32)), .val (.int (1 : Int32)), .unset] [(.int (2 : Int32)), (.int (0 : Int32))]))
              refine OFin.back (fun _ hr => XS.iload X11.here hx rfl (hb hby at_159) rfl hr) ?_
              show OFin p e below s _ _ Q (T11.setTop (mkF m 161 #[.val (.int fl), .val (.int si), .val (.int pi), .val (.int oi), .val (.int v4), .val (.int v5), .val (.int v6), .val (.ref a_OSP), .val (.int (0 : Int32)), .val (.int (0 : Int32)), .val (.int (1 : Int32)), .val (.int (1 : Int32)), .unset] [(.int (1 : Int32)), (.int (2 : Int32)), (.int (0 : Int32))]))
              refine OFin.back (fun _ hr => XS.icmpYes X11.here hx rfl (pc0 := 161) (pc' := 168) rfl (hb hby at_161) rfl (flt (by decide : ¬ ((2 : Int32) < (1 : Int32)))).2.1 (by decide) (by decide) hr) ?_
              show OFin p e below s _ _ Q (T11.setTop (mkF m 168 #[.val (.int fl), .val (.int si), .val (.int pi), .val (.int oi), .val (.int v4), .val (.int v5), .val (.int v6), .val (.ref a_OSP), .val (.int (0 : Int32)), .val (.int (0 : Int32)), .val (.int (1 : Int32)), .val (.int (1 : Int32)), .unset] [(.int (0 : Int32))]))
              refine OFin.back (fun _ hr => XS.iconst X11.here hx rfl (hb hby at_168) hr) ?_
              show OFin p e below s _ _ Q (T11.setTop (mkF m 169 #[.val (.int fl), .val (.int si), .val (.int pi), .val (.int oi), .val (.int v4), .val (.int v5), .val (.int v6), .val (.ref a_OSP), .val (.int (0 : Int32)), .val (.int (0 : Int32)), .val (.int (1 : Int32)), .val (.int (1 : Int32)), .unset] [(.int (0 : Int32)), (.int (0 : Int32))]))
              refine OFin.back (fun _ hr => XS.icmpNo X11.here hx rfl (hb hby at_169) rfl (teq (by decide : (0 : Int32) = (0 : Int32))).2 hr) ?_
              show OFin p e below s _ _ Q (T11.setTop (mkF m 172 #[.val (.int fl), .val (.int si), .val (.int pi), .val (.int oi), .val (.int v4), .val (.int v5), .val (.int v6), .val (.ref a_OSP), .val (.int (0 : Int32)), .val (.int (0 : Int32)), .val (.int (1 : Int32)), .val (.int (1 : Int32)), .unset] []))
              refine OFin.back (fun _ hr => XS.iload X11.here hx rfl (hb hby at_172) rfl hr) ?_
              show OFin p e below s _ _ Q (T11.setTop (mkF m 174 #[.val (.int fl), .val (.int si), .val (.int pi), .val (.int oi), .val (.int v4), .val (.int v5), .val (.int v6), .val (.ref a_OSP), .val (.int (0 : Int32)), .val (.int (0 : Int32)), .val (.int (1 : Int32)), .val (.int (1 : Int32)), .unset] [(.int (1 : Int32))]))
              refine OFin.back (fun _ hr => XS.aload X11.here hx rfl (hb hby at_174) rfl rfl hr) ?_
              show OFin p e below s _ _ Q (T11.setTop (mkF m 176 #[.val (.int fl), .val (.int si), .val (.int pi), .val (.int oi), .val (.int v4), .val (.int v5), .val (.int v6), .val (.ref a_OSP), .val (.int (0 : Int32)), .val (.int (0 : Int32)), .val (.int (1 : Int32)), .val (.int (1 : Int32)), .unset] [(.ref a_OSP), (.int (1 : Int32))]))
              obtain ⟨cq12, kq12, q12a, q12b, q12c⟩ := isOf hZ e11 E_OSP
              obtain ⟨_, _, ⟨T12, L12, k12, n12⟩, -, X12, ⟨Lc12, hQ12, l12, y12, z12⟩, st12⟩ := X11.virtualBack hx (y := (⟨"com/example/triplewright/triplewright/store/TripleOrder", "objectColumn", "()I"⟩ : MethodName)) (z := (⟨"com/example/triplewright/triplewright/store/TripleOrder", "objectColumn", "()I"⟩ : MethodName)) hown (mvT hZ (hw _ (List.mem_of_getElem? (i := 20) rfl))) (mvT hZ (hw _ (List.mem_of_getElem? (i := 21) rfl))) (notFace_of_selects (args := #[]) (mvT hZ (hw _ (List.mem_of_getElem? (i := 23) rfl)))) (mvT hZ (hw _ (List.mem_of_getElem? (i := 23) rfl))) (mvT hZ (hw _ (List.mem_of_getElem? (i := 22) rfl))) (by decide) (backOf (W := 1) (rm4 l Z a0 hw [] a_OSP (0 : Int32) h0 n0 Z0 F_OSP_objectColumn) hZ (hw _ (List.mem_of_getElem? (i := 24) rfl)) (hw _ (List.mem_of_getElem? (i := 2) rfl)) (by decide) (by decide)) q12a q12c (g := (mkF m 176 #[.val (.int fl), .val (.int si), .val (.int pi), .val (.int oi), .val (.int v4), .val (.int v5), .val (.int v6), .val (.ref a_OSP), .val (.int (0 : Int32)), .val (.int (0 : Int32)), .val (.int (1 : Int32)), .val (.int (1 : Int32)), .unset] [(.ref a_OSP), (.int (1 : Int32))])) rfl (by rw [hml]; rfl) (Steps.refl _) (argsL := []) (rest := [(.int (1 : Int32))]) (lenOf pd0_1 rfl) rfl (by show 2 * 0 + _ ≤ _; exact Nat.le_of_eq rfl) (hb hby at_176) (fun _ _ => ⟨rfl, e11, (by decide : 0 + 0 ≤ _), (by decide : 0 + 0 ≤ _)⟩)
              dsimp only [Pt.U, Pt.locs, Pt.cells, Pt.slots] at X12 l12 y12 z12 st12 hQ12
              subst l12 y12 z12
              obtain ⟨rfl, N12q, e12⟩ := hQ12
              have N12 := Fr.app N11 N12q
              refine OFin.via st12 ?_
              show OFin p e below s _ _ Q (T12.setTop (mkF m 179 #[.val (.int fl), .val (.int si), .val (.int pi), .val (.int oi), .val (.int v4), .val (.int v5), .val (.int v6), .val (.ref a_OSP), .val (.int (0 : Int32)), .val (.int (0 : Int32)), .val (.int (1 : Int32)), .val (.int (1 : Int32)), .unset] [(.int (0 : Int32)), (.int (1 : Int32))]))
              refine OFin.back (fun _ hr => XS.iload X12.here hx rfl (hb hby at_179) rfl hr) ?_
              show OFin p e below s _ _ Q (T12.setTop (mkF m 181 #[.val (.int fl), .val (.int si), .val (.int pi), .val (.int oi), .val (.int v4), .val (.int v5), .val (.int v6), .val (.ref a_OSP), .val (.int (0 : Int32)), .val (.int (0 : Int32)), .val (.int (1 : Int32)), .val (.int (1 : Int32)), .unset] [(.int (1 : Int32)), (.int (0 : Int32)), (.int (1 : Int32))]))
              refine OFin.back (fun _ hr => XS.icmpNo X12.here hx rfl (hb hby at_181) rfl (tlt (by decide : (0 : Int32) < (1 : Int32))).2.1 hr) ?_
              show OFin p e below s _ _ Q (T12.setTop (mkF m 184 #[.val (.int fl), .val (.int si), .val (.int pi), .val (.int oi), .val (.int v4), .val (.int v5), .val (.int v6), .val (.ref a_OSP), .val (.int (0 : Int32)), .val (.int (0 : Int32)), .val (.int (1 : Int32)), .val (.int (1 : Int32)), .unset] [(.int (1 : Int32))]))
              refine OFin.back (fun _ hr => XS.iconst X12.here hx rfl (hb hby at_184) hr) ?_
              show OFin p e below s _ _ Q (T12.setTop (mkF m 185 #[.val (.int fl), .val (.int si), .val (.int pi), .val (.int oi), .val (.int v4), .val (.int v5), .val (.int v6), .val (.ref a_OSP), .val (.int (0 : Int32)), .val (.int (0 : Int32)), .val (.int (1 : Int32)), .val (.int (1 : Int32)), .unset] [(.int (1 : Int32)), (.int (1 : Int32))]))
              refine OFin.back (fun _ hr => XS.goto X12.here hx rfl (pc0 := 185) (pc' := 189) rfl (hb hby at_185) (by decide) (by decide) hr) ?_
              show OFin p e below s _ _ Q (T12.setTop (mkF m 189 #[.val (.int fl), .val (.int si), .val (.int pi), .val (.int oi), .val (.int v4), .val (.int v5), .val (.int v6), .val (.ref a_OSP), .val (.int (0 : Int32)), .val (.int (0 : Int32)), .val (.int (1 : Int32)), .val (.int (1 : Int32)), .unset] [(.int (1 : Int32)), (.int (1 : Int32))]))
              refine OFin.back (fun _ hr => XS.icmpNo X12.here hx rfl (hb hby at_189) rfl (teq (by decide : (1 : Int32) = (1 : Int32))).2 hr) ?_
              show OFin p e below s _ _ Q (T12.setTop (mkF m 192 #[.val (.int fl), .val (.int si), .val (.int pi), .val (.int oi), .val (.int v4), .val (.int v5), .val (.int v6), .val (.ref a_OSP), .val (.int (0 : Int32)), .val (.int (0 : Int32)), .val (.int (1 : Int32)), .val (.int (1 : Int32)), .unset] []))
              refine OFin.back (fun _ hr => XS.iconst X12.here hx rfl (hb hby at_192) hr) ?_
              show OFin p e below s _ _ Q (T12.setTop (mkF m 193 #[.val (.int fl), .val (.int si), .val (.int pi), .val (.int oi), .val (.int v4), .val (.int v5), .val (.int v6), .val (.ref a_OSP), .val (.int (0 : Int32)), .val (.int (0 : Int32)), .val (.int (1 : Int32)), .val (.int (1 : Int32)), .unset] [(.int (1 : Int32))]))
              refine OFin.back (fun _ hr => XS.goto X12.here hx rfl (pc0 := 193) (pc' := 197) rfl (hb hby at_193) (by decide) (by decide) hr) ?_
              show OFin p e below s _ _ Q (T12.setTop (mkF m 197 #[.val (.int fl), .val (.int si), .val (.int pi), .val (.int oi), .val (.int v4), .val (.int v5), .val (.int v6), .val (.ref a_OSP), .val (.int (0 : Int32)), .val (.int (0 : Int32)), .val (.int (1 : Int32)), .val (.int (1 : Int32)), .unset] [(.int (1 : Int32))]))
              refine OFin.back (fun _ hr => XS.istore X12.here hx rfl (hb hby at_197) rfl (l' := #[.val (.int fl), .val (.int si), .val (.int pi), .val (.int oi), .val (.int v4), .val (.int v5), .val (.int v6), .val (.ref a_OSP), .val (.int (0 : Int32)), .val (.int (0 : Int32)), .val (.int (1 : Int32)), .val (.int (1 : Int32)), .val (.int (1 : Int32))]) rfl hr) ?_
              show OFin p e below s _ _ Q (T12.setTop (mkF m 199 #[.val (.int fl), .val (.int si), .val (.int pi), .val (.int oi), .val (.int v4), .val (.int v5), .val (.int v6), .val (.ref a_OSP), .val (.int (0 : Int32)), .val (.int (0 : Int32)), .val (.int (1 : Int32)), .val (.int (1 : Int32)), .val (.int (1 : Int32))] []))
              refine OFin.back (fun _ hr => XS.iload X12.here hx rfl (hb hby at_199) rfl hr) ?_
              show OFin p e below s _ _ Q (T12.setTop (mkF m 201 #[.val (.int fl), .val (.int si), .val (.int pi), .val (.int oi), .val (.int v4), .val (.int v5), .val (.int v6), .val (.ref a_OSP), .val (.int (0 : Int32)), .val (.int (0 : Int32)), .val (.int (1 : Int32)), .val (.int (1 : Int32)), .val (.int (1 : Int32))] [(.int (1 : Int32))]))
              refine OFin.back (fun _ hr => XS.iconst X12.here hx rfl (hb hby at_201) hr) ?_
              show OFin p e below s _ _ Q (T12.setTop (mkF m 202 #[.val (.int fl), .val (.int si), .val (.int pi), .val (.int oi), .val (.int v4), .val (.int v5), .val (.int v6), .val (.ref a_OSP), .val (.int (0 : Int32)), .val (.int (0 : Int32)), .val (.int (1 : Int32)), .val (.int (1 : Int32)), .val (.int (1 : Int32))] [(.int (3 : Int32)), (.int (1 : Int32))]))
              refine OFin.back (fun _ hr => XS.icmpYes X12.here hx rfl (pc0 := 202) (pc' := 224) rfl (hb hby at_202) rfl (feq (by decide : ¬ ((1 : Int32) = (3 : Int32)))).2 (by decide) (by decide) hr) ?_
              show OFin p e below s _ _ Q (T12.setTop (mkF m 224 #[.val (.int fl), .val (.int si), .val (.int pi), .val (.int oi), .val (.int v4), .val (.int v5), .val (.int v6), .val (.ref a_OSP), .val (.int (0 : Int32)), .val (.int (0 : Int32)), .val (.int (1 : Int32)), .val (.int (1 : Int32)), .val (.int (1 : Int32))] []))
              refine OFin.back (fun _ hr => XS.iload X12.here hx rfl (hb hby at_224) rfl hr) ?_
              show OFin p e below s _ _ Q (T12.setTop (mkF m 226 #[.val (.int fl), .val (.int si), .val (.int pi), .val (.int oi), .val (.int v4), .val (.int v5), .val (.int v6), .val (.ref a_OSP), .val (.int (0 : Int32)), .val (.int (0 : Int32)), .val (.int (1 : Int32)), .val (.int (1 : Int32)), .val (.int (1 : Int32))] [(.int (1 : Int32))]))
              refine OFin.back (fun _ hr => XS.ifYes X12.here hx rfl (pc0 := 226) (pc' := 248) rfl (hb hby at_226) rfl ((if0 _ _).trans (feq (by decide : ¬ ((1 : Int32) = (0 : Int32)))).2) (by decide) (by decide) hr) ?_
              show OFin p e below s _ _ Q (T12.setTop (mkF m 248 #[.val (.int fl), .val (.int si), .val (.int pi), .val (.int oi), .val (.int v4), .val (.int v5), .val (.int v6), .val (.ref a_OSP), .val (.int (0 : Int32)), .val (.int (0 : Int32)), .val (.int (1 : Int32)), .val (.int (1 : Int32)), .val (.int (1 : Int32))] []))
              refine OFin.back (fun _ hr => XS.iload X12.here hx rfl (hb hby at_248) rfl hr) ?_
              show OFin p e below s _ _ Q (T12.setTop (mkF m 250 #[.val (.int fl), .val (.int si), .val (.int pi), .val (.int oi), .val (.int v4), .val (.int v5), .val (.int v6), .val (.ref a_OSP), .val (.int (0 : Int32)), .val (.int (0 : Int32)), .val (.int (1 : Int32)), .val (.int (1 : Int32)), .val (.int (1 : Int32))] [(.int (1 : Int32))]))
              exact OFin.outN (t := .boolean) X12 hx Bd.returns (by simp) Bd.notSynchronized (hb hby at_250) (by decide) (by decide) e12 (by rw [hQ]; exact ⟨rfl, N12⟩)
          · -- not v5 = (-1 : Int32)
            by_cases hs13 : v6 = (-1 : Int32)
            · -- v6 = (-1 : Int32)
              refine OFin.back (fun _ hr => XS.iload X0.here hx rfl (hb hby at_39) rfl hr) ?_
              show OFin p e below s _ _ Q (s₁.setTop (mkF m 41 #[.val (.int fl), .val (.int si), .val (.int pi), .val (.int oi), .val (.int v4), .val (.int v5), .val (.int v6), .unset, .unset, .unset, .unset, .unset, .unset] [(.int v4)]))
              refine OFin.back (fun _ hr => XS.iload X0.here hx rfl (hb hby at_41) rfl hr) ?_
              show OFin p e below s _ _ Q (s₁.setTop (mkF m 43 #[.val (.int fl), .val (.int si), .val (.int pi), .val (.int oi), .val (.int v4), .val (.int v5), .val (.int v6), .unset, .unset, .unset, .unset, .unset, .unset] [(.int v5), (.int v4)]))
              refine OFin.back (fun _ hr => XS.iload X0.here hx rfl (hb hby at_43) rfl hr) ?_
              show OFin p e below s _ _ Q (s₁.setTop (mkF m 45 #[.val (.int fl), .val (.int si), .val (.int pi), .val (.int oi), .val (.int v4), .val (.int v5), .val (.int v6), .unset, .unset, .unset, .unset, .unset, .unset] [(.int v6), (.int v5), (.int v4)]))
              obtain ⟨_, _, ⟨T14, L14, k14, n14⟩, -, X14, ⟨Lc14, hQ14, l14, y14, z14⟩, st14⟩ := Jvm.LawKit.callS X0 hx (y := (⟨"com/example/triplewright/triplewright/store/TripleOrder", "serving", "(III)Lcom/example/triplewright/triplewright/store/TripleOrder;"⟩ : MethodName)) hown (mvT hZ (hw _ (List.mem_of_getElem? (i := 0) rfl))) (mvT hZ (hw _ (List.mem_of_getElem? (i := 1) rfl))) (mvT hZ (hw _ (List.mem_of_getElem? (i := 2) rfl))) (mvT hZ (hw _ (List.mem_of_getElem? (i := 3) rfl))) (by decide) (backOf (W := 0) (rm1 l Z a0 hw [] v4 v5 v6 a_SPO a_POS a_OSP h0 n0 Z0 S_SPO S_POS S_OSP) hZ (hw _ (List.mem_of_getElem? (i := 3) rfl)) (hw _ (List.mem_of_getElem? (i := 2) rfl)) (by decide) (by decide)) (g := (mkF m 45 #[.val (.int fl), .val (.int si), .val (.int pi), .val (.int oi), .val (.int v4), .val (.int v5), .val (.int v6), .unset, .unset, .unset, .unset, .unset, .unset] [(.int v6), (.int v5), (.int v4)])) rfl (by rw [hml]; rfl) (argsL := [(.int v4), (.int v5), (.int v6)]) (rest := []) (lenOf pd0_0 rfl) rfl (by show 2 * 0 + _ ≤ _; exact Nat.le_of_eq rfl) (hb hby at_45) (fun _ _ => ⟨rfl, e0, (by decide : 0 + 0 ≤ _), (by decide : 0 + 0 ≤ _)⟩)
              dsimp only [Pt.U, Pt.locs, Pt.cells, Pt.slots] at X14 l14 y14 z14 st14 hQ14
              subst l14 y14 z14
              obtain ⟨rfl, N14q, e14⟩ := hQ14
              have N14 := Fr.app N0 N14q
              refine OFin.back st14 ?_
              rw [show (own_srv v4 v5 v6 a_SPO a_POS a_OSP) = a_POS from by simp [own_srv, hs1, hs2, hs13]]
              show OFin p e below s _ _ Q (T14.setTop (mkF m 48 #[.val (.int fl), .val (.int si), .val (.int pi), .val (.int oi), .val (.int v4), .val (.int v5), .val (.int v6), .unset, .unset, .unset, .unset, .unset, .unset] [(.ref a_POS)]))
              refine OFin.back (fun _ hr => XS.astore X14.here hx rfl (hb hby at_48) rfl rfl (l' := #[.val (.int fl), .val (.int si), .val (.int pi), .val (.int oi), .val (.int v4), .val (.int v5), .val (.int v6), .val (.ref a_POS), .unset, .unset, .unset, .unset, .unset]) rfl hr) ?_
              show OFin p e below s _ _ Q (T14.setTop (mkF m 50 #[.val (.int fl), .val (.int si), .val (.int pi), .val (.int oi), .val (.int v4), .val (.int v5), .val (.int v6), .val (.ref a_POS), .unset, .unset, .unset, .unset, .unset] []))
              refine OFin.back (fun _ hr => XS.aload X14.here hx rfl (hb hby at_50) rfl rfl hr) ?_
              show OFin p e below s _ _ Q (T14.setTop (mkF m 52 #[.val (.int fl), .val (.int si), .val (.int pi), .val (.int oi), .val (.int v4), .val (.int v5), .val (.int v6), .val (.ref a_POS), .unset, .unset, .unset, .unset, .unset] [(.ref a_POS)]))
              refine OFin.back (fun _ hr => XS.ifnonnullYes X14.here hx rfl (pc0 := 52) (pc' := 57) rfl (hb hby at_52) rfl (by decide) (by decide) hr) ?_
              show OFin p e below s _ _ Q (T14.setTop (mkF m 57 #[.val (.int fl), .val (.int si), .val (.int pi), .val (.int oi), .val (.int v4), .val (.int v5), .val (.int v6), .val (.ref a_POS), .unset, .unset, .unset, .unset, .unset] []))
              refine OFin.back (fun _ hr => XS.iload X14.here hx rfl (hb hby at_57) rfl hr) ?_
              show OFin p e below s _ _ Q (T14.setTop (mkF m 59 #[.val (.int fl), .val (.int si), .val (.int pi), .val (.int oi), .val (.int v4), .val (.int v5), .val (.int v6), .val (.ref a_POS), .unset, .unset, .unset, .unset, .unset] [(.int v4)]))
              refine OFin.back (fun _ hr => XS.iconst X14.here hx rfl (hb hby at_59) hr) ?_
              show OFin p e below s _ _ Q (T14.setTop (mkF m 60 #[.val (.int fl), .val (.int si), .val (.int pi), .val (.int oi), .val (.int v4), .val (.int v5), .val (.int v6), .val (.ref a_POS), .unset, .unset, .unset, .unset, .unset] [(.int (-1 : Int32)), (.int v4)]))
              refine OFin.back (fun _ hr => XS.icmpYes X14.here hx rfl (pc0 := 60) (pc' := 67) rfl (hb hby at_60) rfl (teq hs1).1 (by decide) (by decide) hr) ?_
              show OFin p e below s _ _ Q (T14.setTop (mkF m 67 #[.val (.int fl), .val (.int si), .val (.int pi), .val (.int oi), .val (.int v4), .val (.int v5), .val (.int v6), .val (.ref a_POS), .unset, .unset, .unset, .unset, .unset] []))
              refine OFin.back (fun _ hr => XS.iconst X14.here hx rfl (hb hby at_67) hr) ?_
              show OFin p e below s _ _ Q (T14.setTop (mkF m 68 #[.val (.int fl), .val (.int si), .val (.int pi), .val (.int oi), .val (.int v4), .val (.int v5), .val (.int v6), .val (.ref a_POS), .unset, .unset, .unset, .unset, .unset] [(.int (0 : Int32))]))
              refine OFin.back (fun _ hr => XS.istore X14.here hx rfl (hb hby at_68) rfl (l' := #[.val (.int fl), .val (.int si), .val (.int pi), .val (.int oi), .val (.int v4), .val (.int v5), .val (.int v6), .val (.ref a_POS), .val (.int (0 : Int32)), .unset, .unset, .unset, .unset]) rfl hr) ?_
              show OFin p e below s _ _ Q (T14.setTop (mkF m 70 #[.val (.int fl), .val (.int si), .val (.int pi), .val (.int oi), .val (.int v4), .val (.int v5), .val (.int v6), .val (.ref a_POS), .val (.int (0 : Int32)), .unset, .unset, .unset, .unset] []))
              refine OFin.back (fun _ hr => XS.iload X14.here hx rfl (hb hby at_70) rfl hr) ?_
              show OFin p e below s _ _ Q (T14.setTop (mkF m 72 #[.val (.int fl), .val (.int si), .val (.int pi), .val (.int oi), .val (.int v4), .val (.int v5), .val (.int v6), .val (.ref a_POS), .val (.int (0 : Int32)), .unset, .unset, .unset, .unset] [(.int v5)]))
              refine OFin.back (fun _ hr => XS.iconst X14.here hx rfl (hb hby at_72) hr) ?_
              show OFin p e below s _ _ Q (T14.setTop (mkF m 73 #[.val (.int fl), .val (.int si), .val (.int pi), .val (.int oi), .val (.int v4), .val (.int v5), .val (.int v6), .val (.ref a_POS), .val (.int (0 : Int32)), .unset, .unset, .unset, .unset] [(.int (-1 : Int32)), (.int v5)]))
              refine OFin.back (fun _ hr => XS.icmpNo X14.here hx rfl (hb hby at_73) rfl (feq hs2).1 hr) ?_
              show OFin p e below s _ _ Q (T14.setTop (mkF m 76 #[.val (.int fl), .val (.int si), .val (.int pi), .val (.int oi), .val (.int v4), .val (.int v5), .val (.int v6), .val (.ref a_POS), .val (.int (0 : Int32)), .unset, .unset, .unset, .unset] []))
              refine OFin.back (fun _ hr => XS.iconst X14.here hx rfl (hb hby at_76) hr) ?_
              show OFin p e below s _ _ Q (T14.setTop (mkF m 77 #[.val (.int fl), .val (.int si), .val (.int pi), .val (.int oi), .val (.int v4), .val (.int v5), .val (.int v6), .val (.ref a_POS), .val (.int (0 : Int32)), .unset, .unset, .unset, .unset] [(.int (1 : Int32))]))
              refine OFin.back (fun _ hr => XS.goto X14.here hx rfl (pc0 := 77) (pc' := 81) rfl (hb hby at_77) (by decide) (by decide) hr) ?_
              show OFin p e below s _ _ Q (T14.setTop (mkF m 81 #[.val (.int fl), .val (.int si), .val (.int pi), .val (.int oi), .val (.int v4), .val (.int v5), .val (.int v6), .val (.ref a_POS), .val (.int (0 : Int32)), .unset, .unset, .unset, .unset] [(.int (1 : Int32))]))
              refine OFin.back (fun _ hr => XS.istore X14.here hx rfl (hb hby at_81) rfl (l' := #[.val (.int fl), .val (.int si), .val (.int pi), .val (.int oi), .val (.int v4), .val (.int v5), .val (.int v6), .val (.ref a_POS), .val (.int (0 : Int32)), .val (.int (1 : Int32)), .unset, .unset, .unset]) rfl hr) ?_
              show OFin p e below s _ _ Q (T14.setTop (mkF m 83 #[.val (.int fl), .val (.int si), .val (.int pi), .val (.int oi), .val (.int v4), .val (.int v5), .val (.int v6), .val (.ref a_POS), .val (.int (0 : Int32)), .val (.int (1 : Int32)), .unset, .unset, .unset] []))
              refine OFin.back (fun _ hr => XS.iload X14.here hx rfl (hb hby at_83) rfl hr) ?_
              show OFin p e below s _ _ Q (T14.setTop (mkF m 85 #[.val (.int fl), .val (.int si), .val (.int pi), .val (.int oi), .val (.int v4), .val (.int v5), .val (.int v6), .val (.ref a_POS), .val (.int (0 : Int32)), .val (.int (1 : Int32)), .unset, .unset, .unset] [(.int v6)]))
              refine OFin.back (fun _ hr => XS.iconst X14.here hx rfl (hb hby at_85) hr) ?_
              show OFin p e below s _ _ Q (T14.setTop (mkF m 86 #[.val (.int fl), .val (.int si), .val (.int pi), .val (.int oi), .val (.int v4), .val (.int v5), .val (.int v6), .val (.ref a_POS), .val (.int (0 : Int32)), .val (.int (1 : Int32)), .unset, .unset, .unset] [(.int (-1 : Int32)), (.int v6)]))
              refine OFin.back (fun _ hr => XS.icmpYes X14.here hx rfl (pc0 := 86) (pc' := 93) rfl (hb hby at_86) rfl (teq hs13).1 (by decide) (by decide) hr) ?_
              show OFin p e below s _ _ Q (T14.setTop (mkF m 93 #[.val (.int fl), .val (.int si), .val (.int pi), .val (.int oi), .val (.int v4), .val (.int v5), .val (.int v6), .val (.ref a_POS), .val (.int (0 : Int32)), .val (.int (1 : Int32)), .unset, .unset, .unset] []))
              refine OFin.back (fun _ hr => XS.iconst X14.here hx rfl (hb hby at_93) hr) ?_
              show OFin p e below s _ _ Q (T14.setTop (mkF m 94 #[.val (.int fl), .val (.int si), .val (.int pi), .val (.int oi), .val (.int v4), .val (.int v5), .val (.int v6), .val (.ref a_POS), .val (.int (0 : Int32)), .val (.int (1 : Int32)), .unset, .unset, .unset] [(.int (0 : Int32))]))
              refine OFin.back (fun _ hr => XS.istore X14.here hx rfl (hb hby at_94) rfl (l' := #[.val (.int fl), .val (.int si), .val (.int pi), .val (.int oi), .val (.int v4), .val (.int v5), .val (.int v6), .val (.ref a_POS), .val (.int (0 : Int32)), .val (.int (1 : Int32)), .val (.int (0 : Int32)), .unset, .unset]) rfl hr) ?_
              show OFin p e below s _ _ Q (T14.setTop (mkF m 96 #[.val (.int fl), .val (.int si), .val (.int pi), .val (.int oi), .val (.int v4), .val (.int v5), .val (.int v6), .val (.ref a_POS), .val (.int (0 : Int32)), .val (.int (1 : Int32)), .val (.int (0 : Int32)), .unset, .unset] []))
              refine OFin.back (fun _ hr => XS.iconst X14.here hx rfl (hb hby at_96) hr) ?_
              show OFin p e below s _ _ Q (T14.setTop (mkF m 97 #[.val (.int fl), .val (.int si), .val (.int pi), .val (.int oi), .val (.int v4), .val (.int v5), .val (.int v6), .val (.ref a_POS), .val (.int (0 : Int32)), .val (.int (1 : Int32)), .val (.int (0 : Int32)), .unset, .unset] [(.int (0 : Int32))]))
              refine OFin.back (fun _ hr => XS.istore X14.here hx rfl (hb hby at_97) rfl (l' := #[.val (.int fl), .val (.int si), .val (.int pi), .val (.int oi), .val (.int v4), .val (.int v5), .val (.int v6), .val (.ref a_POS), .val (.int (0 : Int32)), .val (.int (1 : Int32)), .val (.int (0 : Int32)), .val (.int (0 : Int32)), .unset]) rfl hr) ?_
              show OFin p e below s _ _ Q (T14.setTop (mkF m 99 #[.val (.int fl), .val (.int si), .val (.int pi), .val (.int oi), .val (.int v4), .val (.int v5), .val (.int v6), .val (.ref a_POS), .val (.int (0 : Int32)), .val (.int (1 : Int32)), .val (.int (0 : Int32)), .val (.int (0 : Int32)), .unset] []))
              refine OFin.back (fun _ hr => XS.iload X14.here hx rfl (hb hby at_99) rfl hr) ?_
              show OFin p e below s _ _ Q (T14.setTop (mkF m 101 #[.val (.int fl), .val (.int si), .val (.int pi), .val (.int oi), .val (.int v4), .val (.int v5), .val (.int v6), .val (.ref a_POS), .val (.int (0 : Int32)), .val (.int (1 : Int32)), .val (.int (0 : Int32)), .val (.int (0 : Int32)), .unset] [(.int (0 : Int32))]))
              refine OFin.back (fun _ hr => XS.ifYes X14.here hx rfl (pc0 := 101) (pc' := 110) rfl (hb hby at_101) rfl ((if0 _ _).trans (teq (by decide : (0 : Int32) = (0 : Int32))).1) (by decide) (by decide) hr) ?_
              show OFin p e below s _ _ Q (T14.setTop (mkF m 110 #[.val (.int fl), .val (.int si), .val (.int pi), .val (.int oi), .val (.int v4), .val (.int v5), .val (.int v6), .val (.ref a_POS), .val (.int (0 : Int32)), .val (.int (1 : Int32)), .val (.int (0 : Int32)), .val (.int (0 : Int32)), .unset] []))
              refine OFin.back (fun _ hr => XS.iload X14.here hx rfl (hb hby at_110) rfl hr) ?_
              show OFin p e below s _ _ Q (T14.setTop (mkF m 112 #[.val (.int fl), .val (.int si), .val (.int pi), .val (.int oi), .val (.int v4), .val (.int v5), .val (.int v6), .val (.ref a_POS), .val (.int (0 : Int32)), .val (.int (1 : Int32)), .val (.int (0 : Int32)), .val (.int (0 : Int32)), .unset] [(.int (1 : Int32))]))
              refine OFin.back (fun _ hr => XS.ifNo X14.here hx rfl (hb hby at_112) rfl ((if0 _ _).trans (feq (by decide : ¬ ((1 : Int32) = (0 : Int32)))).1) hr) ?_
              show OFin p e below s _ _ Q (T14.setTop (mkF m 115 #[.val (.int fl), .val (.int si), .val (.int pi), .val (.int oi), .val (.int v4), .val (.int v5), .val (.int v6), .val (.ref a_POS), .val (.int (0 : Int32)), .val (.int (1 : Int32)), .val (.int (0 : Int32)), .val (.int (0 : Int32)), .unset] []))
              refine OFin.back (fun _ hr => XS.iload X14.here hx rfl (hb hby at_115) rfl hr) ?_
              show OFin p e below s _ _ Q (T14.setTop (mkF m 117 #[.val (.int fl), .val (.int si), .val (.int pi), .val (.int oi), .val (.int v4), .val (.int v5), .val (.int v6), .val (.ref a_POS), .val (.int (0 : Int32)), .val (.int (1 : Int32)), .val (.int (0 : Int32)), .val (.int (0 : Int32)), .unset] [(.int (0 : Int32))]))
              refine OFin.back (fun _ hr => XS.iconst X14.here hx rfl (hb hby at_117) hr) ?_
              show OFin p e below s _ _ Q (T14.setTop (mkF m 118 #[.val (.int fl), .val (.int si), .val (.int pi), .val (.int oi), .val (.int v4), .val (.int v5), .val (.int v6), .val (.ref a_POS), .val (.int (0 : Int32)), .val (.int (1 : Int32)), .val (.int (0 : Int32)), .val (.int (0 : Int32)), .unset] [(.int (1 : Int32)), (.int (0 : Int32))]))
              refine OFin.back (fun _ hr => XS.iadd X14.here hx rfl (hb hby at_118) rfl hr) ?_
              show OFin p e below s _ _ Q (T14.setTop (mkF m 119 #[.val (.int fl), .val (.int si), .val (.int pi), .val (.int oi), .val (.int v4), .val (.int v5), .val (.int v6), .val (.ref a_POS), .val (.int (0 : Int32)), .val (.int (1 : Int32)), .val (.int (0 : Int32)), .val (.int (0 : Int32)), .unset] [(.int (1 : Int32))]))
              refine OFin.back (fun _ hr => XS.istore X14.here hx rfl (hb hby at_119) rfl (l' := #[.val (.int fl), .val (.int si), .val (.int pi), .val (.int oi), .val (.int v4), .val (.int v5), .val (.int v6), .val (.ref a_POS), .val (.int (0 : Int32)), .val (.int (1 : Int32)), .val (.int (0 : Int32)), .val (.int (1 : Int32)), .unset]) rfl hr) ?_
              show OFin p e below s _ _ Q (T14.setTop (mkF m 121 #[.val (.int fl), .val (.int si), .val (.int pi), .val (.int oi), .val (.int v4), .val (.int v5), .val (.int v6), .val (.ref a_POS), .val (.int (0 : Int32)), .val (.int (1 : Int32)), .val (.int (0 : Int32)), .val (.int (1 : Int32)), .unset] []))
              refine OFin.back (fun _ hr => XS.iload X14.here hx rfl (hb hby at_121) rfl hr) ?_
              show OFin p e below s _ _ Q (T14.setTop (mkF m 123 #[.val (.int fl), .val (.int si), .val (.int pi), .val (.int oi), .val (.int v4), .val (.int v5), .val (.int v6), .val (.ref a_POS), .val (.int (0 : Int32)), .val (.int (1 : Int32)), .val (.int (0 : Int32)), .val (.int (1 : Int32)), .unset] [(.int (0 : Int32))]))
              refine OFin.back (fun _ hr => XS.ifYes X14.here hx rfl (pc0 := 123) (pc' := 132) rfl (hb hby at_123) rfl ((if0 _ _).trans (teq (by decide : (0 : Int32) = (0 : Int32))).1) (by decide) (by decide) hr) ?_
              show OFin p e below s _ _ Q (T14.setTop (mkF m 132 #[.val (.int fl), .val (.int si), .val (.int pi), .val (.int oi), .val (.int v4), .val (.int v5), .val (.int v6), .val (.ref a_POS), .val (.int (0 : Int32)), .val (.int (1 : Int32)), .val (.int (0 : Int32)), .val (.int (1 : Int32)), .unset] []))
              refine OFin.back (fun _ hr => XS.iload X14.here hx rfl (hb hby at_132) rfl hr) ?_
              show OFin p e below s _ _ Q (T14.setTop (mkF m 134 #[.val (.int fl), .val (.int si), .val (.int pi), .val (.int oi), .val (.int v4), .val (.int v5), .val (.int v6), .val (.ref a_POS), .val (.int (0 : Int32)), .val (.int (1 : Int32)), .val (.int (0 : Int32)), .val (.int (1 : Int32)), .unset] [(.int (0 : Int32))]))
              refine OFin.back (fun _ hr => XS.aload X14.here hx rfl (hb hby at_134) rfl rfl hr) ?_
              show OFin p e below s _ _ Q (T14.setTop (mkF m 136 #[.val (.int fl), .val (.int si), .val (.int pi), .val (.int oi), .val (.int v4), .val (.int v5), .val (.int v6), .val (.ref a_POS), .val (.int (0 : Int32)), .val (.int (1 : Int32)), .val (.int (0 : Int32)), .val (.int (1 : Int32)), .unset] [(.ref a_POS), (.int (0 : Int32))]))
              obtain ⟨cq15, kq15, q15a, q15b, q15c⟩ := isOf hZ e14 E_POS
              obtain ⟨_, _, ⟨T15, L15, k15, n15⟩, -, X15, ⟨Lc15, hQ15, l15, y15, z15⟩, st15⟩ := X14.virtualBack hx (y := (⟨"com/example/triplewright/triplewright/store/TripleOrder", "subjectColumn", "()I"⟩ : MethodName)) (z := (⟨"com/example/triplewright/triplewright/store/TripleOrder", "subjectColumn", "()I"⟩ : MethodName)) hown (mvT hZ (hw _ (List.mem_of_getElem? (i := 6) rfl))) (mvT hZ (hw _ (List.mem_of_getElem? (i := 7) rfl))) (notFace_of_selects (args := #[]) (mvT hZ (hw _ (List.mem_of_getElem? (i := 9) rfl)))) (mvT hZ (hw _ (List.mem_of_getElem? (i := 9) rfl))) (mvT hZ (hw _ (List.mem_of_getElem? (i := 8) rfl))) (by decide) (backOf (W := 1) (rm2 l Z a0 hw [] a_POS (2 : Int32) h0 n0 Z0 F_POS_subjectColumn) hZ (hw _ (List.mem_of_getElem? (i := 10) rfl)) (hw _ (List.mem_of_getElem? (i := 2) rfl)) (by decide) (by decide)) q15a q15c (g := (mkF m 136 #[.val (.int fl), .val (.int si), .val (.int pi), .val (.int oi), .val (.int v4), .val (.int v5), .val (.int v6), .val (.ref a_POS), .val (.int (0 : Int32)), .val (.int (1 : Int32)), .val (.int (0 : Int32)), .val (.int (1 : Int32)), .unset] [(.ref a_POS), (.int (0 : Int32))])) rfl (by rw [hml]; rfl) (Steps.refl _) (argsL := []) (rest := [(.int (0 : Int32))]) (lenOf pd0_1 rfl) rfl (by show 2 * 0 + _ ≤ _; exact Nat.le_of_eq rfl) (hb hby at_136) (fun _ _ => ⟨rfl, e14, (by decide : 0 + 0 ≤ _), (by decide : 0 + 0 ≤ _)⟩)
              dsimp only [Pt.U, Pt.locs, Pt.cells, Pt.slots] at X15 l15 y15 z15 st15 hQ15
              subst l15 y15 z15
              obtain ⟨rfl, N15q, e15⟩ := hQ15
              have N15 := Fr.app N14 N15q
              refine OFin.via st15 ?_
              show OFin p e below s _ _ Q (T15.setTop (mkF m 139 #[.val (.int fl), .val (.int si), .val (.int pi), .val (.int oi), .val (.int v4), .val (.int v5), .val (.int v6), .val (.ref a_POS), .val (.int (0 : Int32)), .val (.int (1 : Int32)), .val (.int (0 : Int32)), .val (.int (1 : Int32)), .unset] [(.int (2 : Int32)), (.int (0 : Int32))]))
              refine OFin.back (fun _ hr => XS.iload X15.here hx rfl (hb hby at_139) rfl hr) ?_
              show OFin p e below s _ _ Q (T15.setTop (mkF m 141 #[.val (.int fl), .val (.int si), .val (.int pi), .val (.int oi), .val (.int v4), .val (.int v5), .val (.int v6), .val (.ref a_POS), .val (.int (0 : Int32)), .val (.int (1 : Int32)), .val (.int (0 : Int32)), .val (.int (1 : Int32)), .unset] [(.int (1 : Int32)), (.int (2 : Int32)), (.int (0 : Int32))]))
              refine OFin.back (fun _ hr => XS.icmpYes X15.here hx rfl (pc0 := 141) (pc' := 148) rfl (hb hby at_141) rfl (flt (by decide : ¬ ((2 : Int32) < (1 : Int32)))).2.1 (by decide) (by decide) hr) ?_
              show OFin p e below s _ _ Q (T15.setTop (mkF m 148 #[.val (.int fl), .val (.int si), .val (.int pi), .val (.int oi), .val (.int v4), .val (.int v5), .val (.int v6), .val (.ref a_POS), .val (.int (0 : Int32)), .val (.int (1 : Int32)), .val (.int (0 : Int32)), .val (.int (1 : Int32)), .unset] [(.int (0 : Int32))]))
              refine OFin.back (fun _ hr => XS.iconst X15.here hx rfl (hb hby at_148) hr) ?_
              show OFin p e below s _ _ Q (T15.setTop (mkF m 149 #[.val (.int fl), .val (.int si), .val (.int pi), .val (.int oi), .val (.int v4), .val (.int v5), .val (.int v6), .val (.ref a_POS), .val (.int (0 : Int32)), .val (.int (1 : Int32)), .val (.int (0 : Int32)), .val (.int (1 : Int32)), .unset] [(.int (0 : Int32)), (.int (0 : Int32))]))
              refine OFin.back (fun _ hr => XS.icmpNo X15.here hx rfl (hb hby at_149) rfl (teq (by decide : (0 : Int32) = (0 : Int32))).2 hr) ?_
              show OFin p e below s _ _ Q (T15.setTop (mkF m 152 #[.val (.int fl), .val (.int si), .val (.int pi), .val (.int oi), .val (.int v4), .val (.int v5), .val (.int v6), .val (.ref a_POS), .val (.int (0 : Int32)), .val (.int (1 : Int32)), .val (.int (0 : Int32)), .val (.int (1 : Int32)), .unset] []))
              refine OFin.back (fun _ hr => XS.iload X15.here hx rfl (hb hby at_152) rfl hr) ?_
              show OFin p e below s _ _ Q (T15.setTop (mkF m 154 #[.val (.int fl), .val (.int si), .val (.int pi), .val (.int oi), .val (.int v4), .val (.int v5), .val (.int v6), .val (.ref a_POS), .val (.int (0 : Int32)), .val (.int (1 : Int32)), .val (.int (0 : Int32)), .val (.int (1 : Int32)), .unset] [(.int (1 : Int32))]))
              refine OFin.back (fun _ hr => XS.aload X15.here hx rfl (hb hby at_154) rfl rfl hr) ?_
              show OFin p e below s _ _ Q (T15.setTop (mkF m 156 #[.val (.int fl), .val (.int si), .val (.int pi), .val (.int oi), .val (.int v4), .val (.int v5), .val (.int v6), .val (.ref a_POS), .val (.int (0 : Int32)), .val (.int (1 : Int32)), .val (.int (0 : Int32)), .val (.int (1 : Int32)), .unset] [(.ref a_POS), (.int (1 : Int32))]))
              obtain ⟨cq16, kq16, q16a, q16b, q16c⟩ := isOf hZ e15 E_POS
              obtain ⟨_, _, ⟨T16, L16, k16, n16⟩, -, X16, ⟨Lc16, hQ16, l16, y16, z16⟩, st16⟩ := X15.virtualBack hx (y := (⟨"com/example/triplewright/triplewright/store/TripleOrder", "predicateColumn", "()I"⟩ : MethodName)) (z := (⟨"com/example/triplewright/triplewright/store/TripleOrder", "predicateColumn", "()I"⟩ : MethodName)) hown (mvT hZ (hw _ (List.mem_of_getElem? (i := 13) rfl))) (mvT hZ (hw _ (List.mem_of_getElem? (i := 14) rfl))) (notFace_of_selects (args := #[]) (mvT hZ (hw _ (List.mem_of_getElem? (i := 16) rfl)))) (mvT hZ (hw _ (List.mem_of_getElem? (i := 16) rfl))) (mvT hZ (hw _ (List.mem_of_getElem? (i := 15) rfl))) (by decide) (backOf (W := 1) (rm3 l Z a0 hw [] a_POS (0 : Int32) h0 n0 Z0 F_POS_predicateColumn) hZ (hw _ (List.mem_of_getElem? (i := 17) rfl)) (hw _ (List.mem_of_getElem? (i := 2) rfl)) (by decide) (by decide)) q16a q16c (g := (mkF m 156 #[.val (.int fl), .val (.int si), .val (.int pi), .val (.int oi), .val (.int v4), .val (.int v5), .val (.int v6), .val (.ref a_POS), .val (.int (0 : Int32)), .val (.int (1 : Int32)), .val (.int (0 : Int32)), .val (.int (1 : Int32)), .unset] [(.ref a_POS), (.int (1 : Int32))])) rfl (by rw [hml]; rfl) (Steps.refl _) (argsL := []) (rest := [(.int (1 : Int32))]) (lenOf pd0_1 rfl) rfl (by show 2 * 0 + _ ≤ _; exact Nat.le_of_eq rfl) (hb hby at_156) (fun _ _ => ⟨rfl, e15, (by decide : 0 + 0 ≤ _), (by decide : 0 + 0 ≤ _)⟩)
              dsimp only [Pt.U, Pt.locs, Pt.cells, Pt.slots] at X16 l16 y16 z16 st16 hQ16
              subst l16 y16 z16
              obtain ⟨rfl, N16q, e16⟩ := hQ16
              have N16 := Fr.app N15 N16q
              refine OFin.via st16 ?_
              show OFin p e below s _ _ Q (T16.setTop (mkF m 159 #[.val (.int fl), .val (.int si), .val (.int pi), .val (.int oi), .val (.int v4), .val (.int v5), .val (.int v6), .val (.ref a_POS), .val (.int (0 : Int32)), .val (.int (1 : Int32)), .val (.int (0 : Int32)), .val (.int (1 : Int32)), .unset] [(.int (0 : Int32)), (.int (1 : Int32))]))
              refine OFin.back (fun _ hr => XS.iload X16.here hx rfl (hb hby at_159) rfl hr) ?_
              show OFin p e below s _ _ Q (T16.setTop (mkF m 161 #[.val (.int fl), .val (.int si), .val (.int pi), .val (.int oi), .val (.int v4), .val (.int v5), .val (.int v6), .val (.ref a_POS), .val (.int (0 : Int32)), .val (.int (1 : Int32)), .val (.int (0 : Int32)), .val (.int (1 : Int32)), .unset] [(.int (1 : Int32)), (.int (0 : Int32)), (.int (1 : Int32))]))
              refine OFin.back (fun _ hr => XS.icmpNo X16.here hx rfl (hb hby at_161) rfl (tlt (by decide : (0 : Int32) < (1 : Int32))).2.1 hr) ?_
              show OFin p e below s _ _ Q (T16.setTop (mkF m 164 #[.val (.int fl), .val (.int si), .val (.int pi), .val (.int oi), .val (.int v4), .val (.int v5), .val (.int v6), .val (.ref a_POS), .val (.int (0 : Int32)), .val (.int (1 : Int32)), .val (.int (0 : Int32)), .val (.int (1 : Int32)), .unset] [(.int (1 : Int32))]))
              refine OFin.back (fun _ hr => XS.iconst X16.here hx rfl (hb hby at_164) hr) ?_
              show OFin p e below s _ _ Q (T16.setTop (mkF m 165 #[.val (.int fl), .val (.int si), .val (.int pi), .val (.int oi), .val (.int v4), .val (.int v5), .val (.int v6), .val (.ref a_POS), .val (.int (0 : Int32)), .val (.int (1 : Int32)), .val (.int (0 : Int32)), .val (.int (1 : Int32)), .unset] [(.int (1 : Int32)), (.int (1 : Int32))]))
              refine OFin.back (fun _ hr => XS.goto X16.here hx rfl (pc0 := 165) (pc' := 169) rfl (hb hby at_165) (by decide) (by decide) hr) ?_
              show OFin p e below s _ _ Q (T16.setTop (mkF m 169 #[.val (.int fl), .val (.int si), .val (.int pi), .val (.int oi), .val (.int v4), .val (.int v5), .val (.int v6), .val (.ref a_POS), .val (.int (0 : Int32)), .val (.int (1 : Int32)), .val (.int (0 : Int32)), .val (.int (1 : Int32)), .unset] [(.int (1 : Int32)), (.int (1 : Int32))]))
              refine OFin.back (fun _ hr => XS.icmpNo X16.here hx rfl (hb hby at_169) rfl (teq (by decide : (1 : Int32) = (1 : Int32))).2 hr) ?_
              show OFin p e below s _ _ Q (T16.setTop (mkF m 172 #[.val (.int fl), .val (.int si), .val (.int pi), .val (.int oi), .val (.int v4), .val (.int v5), .val (.int v6), .val (.ref a_POS), .val (.int (0 : Int32)), .val (.int (1 : Int32)), .val (.int (0 : Int32)), .val (.int (1 : Int32)), .unset] []))
              refine OFin.back (fun _ hr => XS.iload X16.here hx rfl (hb hby at_172) rfl hr) ?_
              show OFin p e below s _ _ Q (T16.setTop (mkF m 174 #[.val (.int fl), .val (.int si), .val (.int pi), .val (.int oi), .val (.int v4), .val (.int v5), .val (.int v6), .val (.ref a_POS), .val (.int (0 : Int32)), .val (.int (1 : Int32)), .val (.int (0 : Int32)), .val (.int (1 : Int32)), .unset] [(.int (0 : Int32))]))
              refine OFin.back (fun _ hr => XS.aload X16.here hx rfl (hb hby at_174) rfl rfl hr) ?_
              show OFin p e below s _ _ Q (T16.setTop (mkF m 176 #[.val (.int fl), .val (.int si), .val (.int pi), .val (.int oi), .val (.int v4), .val (.int v5), .val (.int v6), .val (.ref a_POS), .val (.int (0 : Int32)), .val (.int (1 : Int32)), .val (.int (0 : Int32)), .val (.int (1 : Int32)), .unset] [(.ref a_POS), (.int (0 : Int32))]))
              obtain ⟨cq17, kq17, q17a, q17b, q17c⟩ := isOf hZ e16 E_POS
              obtain ⟨_, _, ⟨T17, L17, k17, n17⟩, -, X17, ⟨Lc17, hQ17, l17, y17, z17⟩, st17⟩ := X16.virtualBack hx (y := (⟨"com/example/triplewright/triplewright/store/TripleOrder", "objectColumn", "()I"⟩ : MethodName)) (z := (⟨"com/example/triplewright/triplewright/store/TripleOrder", "objectColumn", "()I"⟩ : MethodName)) hown (mvT hZ (hw _ (List.mem_of_getElem? (i := 20) rfl))) (mvT hZ (hw _ (List.mem_of_getElem? (i := 21) rfl))) (notFace_of_selects (args := #[]) (mvT hZ (hw _ (List.mem_of_getElem? (i := 23) rfl)))) (mvT hZ (hw _ (List.mem_of_getElem? (i := 23) rfl))) (mvT hZ (hw _ (List.mem_of_getElem? (i := 22) rfl))) (by decide) (backOf (W := 1) (rm4 l Z a0 hw [] a_POS (1 : Int32) h0 n0 Z0 F_POS_objectColumn) hZ (hw _ (List.mem_of_getElem? (i := 24) rfl)) (hw _ (List.mem_of_getElem? (i := 2) rfl)) (by decide) (by decide)) q17a q17c (g := (mkF m 176 #[.val (.int fl), .val (.int si), .val (.int pi), .val (.int oi), .val (.int v4), .val (.int v5), .val (.int v6), .val (.ref a_POS), .val (.int (0 : Int32)), .val (.int (1 : Int32)), .val (.int (0 : Int32)), .val (.int (1 : Int32)), .unset] [(.ref a_POS), (.int (0 : Int32))])) rfl (by rw [hml]; rfl) (Steps.refl _) (argsL := []) (rest := [(.int (0 : Int32))]) (lenOf pd0_1 rfl) rfl (by show 2 * 0 + _ ≤ _; exact Nat.le_of_eq rfl) (hb hby at_176) (fun _ _ => ⟨rfl, e16, (by decide : 0 + 0 ≤ _), (by decide : 0 + 0 ≤ _)⟩)
              dsimp only [Pt.U, Pt.locs, Pt.cells, Pt.slots] at X17 l17 y17 z17 st17 hQ17
              subst l17 y17 z17
              obtain ⟨rfl, N17q, e17⟩ := hQ17
              have N17 := Fr.app N16 N17q
              refine OFin.via st17 ?_
              show OFin p e below s _ _ Q (T17.setTop (mkF m 179 #[.val (.int fl), .val (.int si), .val (.int pi), .val (.int oi), .val (.int v4), .val (.int v5), .val (.int v6), .val (.ref a_POS), .val (.int (0 : Int32)), .val (.int (1 : Int32)), .val (.int (0 : Int32)), .val (.int (1 : Int32)), .unset] [(.int (1 : Int32)), (.int (0 : Int32))]))
              refine OFin.back (fun _ hr => XS.iload X17.here hx rfl (hb hby at_179) rfl hr) ?_
              show OFin p e below s _ _ Q (T17.setTop (mkF m 181 #[.val (.int fl), .val (.int si), .val (.int pi), .val (.int oi), .val (.int v4), .val (.int v5), .val (.int v6), .val (.ref a_POS), .val (.int (0 : Int32)), .val (.int (1 : Int32)), .val (.int (0 : Int32)), .val (.int (1 : Int32)), .unset] [(.int (1 : Int32)), (.int (1 : Int32)), (.int (0 : Int32))]))
              refine OFin.back (fun _ hr => XS.icmpYes X17.here hx rfl (pc0 := 181) (pc' := 188) rfl (hb hby at_181) rfl (flt (by decide : ¬ ((1 : Int32) < (1 : Int32)))).2.1 (by decide) (by decide) hr) ?_
              show OFin p e below s _ _ Q (T17.setTop (mkF m 188 #[.val (.int fl), .val (.int si), .val (.int pi), .val (.int oi), .val (.int v4), .val (.int v5), .val (.int v6), .val (.ref a_POS), .val (.int (0 : Int32)), .val (.int (1 : Int32)), .val (.int (0 : Int32)), .val (.int (1 : Int32)), .unset] [(.int (0 : Int32))]))
              refine OFin.back (fun _ hr => XS.iconst X17.here hx rfl (hb hby at_188) hr) ?_
              show OFin p e below s _ _ Q (T17.setTop (mkF m 189 #[.val (.int fl), .val (.int si), .val (.int pi), .val (.int oi), .val (.int v4), .val (.int v5), .val (.int v6), .val (.ref a_POS), .val (.int (0 : Int32)), .val (.int (1 : Int32)), .val (.int (0 : Int32)), .val (.int (1 : Int32)), .unset] [(.int (0 : Int32)), (.int (0 : Int32))]))
              refine OFin.back (fun _ hr => XS.icmpNo X17.here hx rfl (hb hby at_189) rfl (teq (by decide : (0 : Int32) = (0 : Int32))).2 hr) ?_
              show OFin p e below s _ _ Q (T17.setTop (mkF m 192 #[.val (.int fl), .val (.int si), .val (.int pi), .val (.int oi), .val (.int v4), .val (.int v5), .val (.int v6), .val (.ref a_POS), .val (.int (0 : Int32)), .val (.int (1 : Int32)), .val (.int (0 : Int32)), .val (.int (1 : Int32)), .unset] []))
              refine OFin.back (fun _ hr => XS.iconst X17.here hx rfl (hb hby at_192) hr) ?_
              show OFin p e below s _ _ Q (T17.setTop (mkF m 193 #[.val (.int fl), .val (.int si), .val (.int pi), .val (.int oi), .val (.int v4), .val (.int v5), .val (.int v6), .val (.ref a_POS), .val (.int (0 : Int32)), .val (.int (1 : Int32)), .val (.int (0 : Int32)), .val (.int (1 : Int32)), .unset] [(.int (1 : Int32))]))
              refine OFin.back (fun _ hr => XS.goto X17.here hx rfl (pc0 := 193) (pc' := 197) rfl (hb hby at_193) (by decide) (by decide) hr) ?_
              show OFin p e below s _ _ Q (T17.setTop (mkF m 197 #[.val (.int fl), .val (.int si), .val (.int pi), .val (.int oi), .val (.int v4), .val (.int v5), .val (.int v6), .val (.ref a_POS), .val (.int (0 : Int32)), .val (.int (1 : Int32)), .val (.int (0 : Int32)), .val (.int (1 : Int32)), .unset] [(.int (1 : Int32))]))
              refine OFin.back (fun _ hr => XS.istore X17.here hx rfl (hb hby at_197) rfl (l' := #[.val (.int fl), .val (.int si), .val (.int pi), .val (.int oi), .val (.int v4), .val (.int v5), .val (.int v6), .val (.ref a_POS), .val (.int (0 : Int32)), .val (.int (1 : Int32)), .val (.int (0 : Int32)), .val (.int (1 : Int32)), .val (.int (1 : Int32))]) rfl hr) ?_
              show OFin p e below s _ _ Q (T17.setTop (mkF m 199 #[.val (.int fl), .val (.int si), .val (.int pi), .val (.int oi), .val (.int v4), .val (.int v5), .val (.int v6), .val (.ref a_POS), .val (.int (0 : Int32)), .val (.int (1 : Int32)), .val (.int (0 : Int32)), .val (.int (1 : Int32)), .val (.int (1 : Int32))] []))
              refine OFin.back (fun _ hr => XS.iload X17.here hx rfl (hb hby at_199) rfl hr) ?_
              show OFin p e below s _ _ Q (T17.setTop (mkF m 201 #[.val (.int fl), .val (.int si), .val (.int pi), .val (.int oi), .val (.int v4), .val (.int v5), .val (.int v6), .val (.ref a_POS), .val (.int (0 : Int32)), .val (.int (1 : Int32)), .val (.int (0 : Int32)), .val (.int (1 : Int32)), .val (.int (1 : Int32))] [(.int (1 : Int32))]))
              refine OFin.back (fun _ hr => XS.iconst X17.here hx rfl (hb hby at_201) hr) ?_
              show OFin p e below s _ _ Q (T17.setTop (mkF m 202 #[.val (.int fl), .val (.int si), .val (.int pi), .val (.int oi), .val (.int v4), .val (.int v5), .val (.int v6), .val (.ref a_POS), .val (.int (0 : Int32)), .val (.int (1 : Int32)), .val (.int (0 : Int32)), .val (.int (1 : Int32)), .val (.int (1 : Int32))] [(.int (3 : Int32)), (.int (1 : Int32))]))
              refine OFin.back (fun _ hr => XS.icmpYes X17.here hx rfl (pc0 := 202) (pc' := 224) rfl (hb hby at_202) rfl (feq (by decide : ¬ ((1 : Int32) = (3 : Int32)))).2 (by decide) (by decide) hr) ?_
              show OFin p e below s _ _ Q (T17.setTop (mkF m 224 #[.val (.int fl), .val (.int si), .val (.int pi), .val (.int oi), .val (.int v4), .val (.int v5), .val (.int v6), .val (.ref a_POS), .val (.int (0 : Int32)), .val (.int (1 : Int32)), .val (.int (0 : Int32)), .val (.int (1 : Int32)), .val (.int (1 : Int32))] []))
              refine OFin.back (fun _ hr => XS.iload X17.here hx rfl (hb hby at_224) rfl hr) ?_
              show OFin p e below s _ _ Q (T17.setTop (mkF m 226 #[.val (.int fl), .val (.int si), .val (.int pi), .val (.int oi), .val (.int v4), .val (.int v5), .val (.int v6), .val (.ref a_POS), .val (.int (0 : Int32)), .val (.int (1 : Int32)), .val (.int (0 : Int32)), .val (.int (1 : Int32)), .val (.int (1 : Int32))] [(.int (1 : Int32))]))
              refine OFin.back (fun _ hr => XS.ifYes X17.here hx rfl (pc0 := 226) (pc' := 248) rfl (hb hby at_226) rfl ((if0 _ _).trans (feq (by decide : ¬ ((1 : Int32) = (0 : Int32)))).2) (by decide) (by decide) hr) ?_
              show OFin p e below s _ _ Q (T17.setTop (mkF m 248 #[.val (.int fl), .val (.int si), .val (.int pi), .val (.int oi), .val (.int v4), .val (.int v5), .val (.int v6), .val (.ref a_POS), .val (.int (0 : Int32)), .val (.int (1 : Int32)), .val (.int (0 : Int32)), .val (.int (1 : Int32)), .val (.int (1 : Int32))] []))
              refine OFin.back (fun _ hr => XS.iload X17.here hx rfl (hb hby at_248) rfl hr) ?_
              show OFin p e below s _ _ Q (T17.setTop (mkF m 250 #[.val (.int fl), .val (.int si), .val (.int pi), .val (.int oi), .val (.int v4), .val (.int v5), .val (.int v6), .val (.ref a_POS), .val (.int (0 : Int32)), .val (.int (1 : Int32)), .val (.int (0 : Int32)), .val (.int (1 : Int32)), .val (.int (1 : Int32))] [(.int (1 : Int32))]))
              exact OFin.outN (t := .boolean) X17 hx Bd.returns (by simp) Bd.notSynchronized (hb hby at_250) (by decide) (by decide) e17 (by rw [hQ]; exact ⟨rfl, N17⟩)
            · -- not v6 = (-1 : Int32)
              refine OFin.back (fun _ hr => XS.iload X0.here hx rfl (hb hby at_39) rfl hr) ?_
              show OFin p e below s _ _ Q (s₁.setTop (mkF m 41 #[.val (.int fl), .val (.int si), .val (.int pi), .val (.int oi), .val (.int v4), .val (.int v5), .val (.int v6), .unset, .unset, .unset, .unset, .unset, .unset] [(.int v4)]))
              refine OFin.back (fun _ hr => XS.iload X0.here hx rfl (hb hby at_41) rfl hr) ?_
              show OFin p e below s _ _ Q (s₁.setTop (mkF m 43 #[.val (.int fl), .val (.int si), .val (.int pi), .val (.int oi), .val (.int v4), .val (.int v5), .val (.int v6), .unset, .unset, .unset, .unset, .unset, .unset] [(.int v5), (.int v4)]))
              refine OFin.back (fun _ hr => XS.iload X0.here hx rfl (hb hby at_43) rfl hr) ?_
              show OFin p e below s _ _ Q (s₁.setTop (mkF m 45 #[.val (.int fl), .val (.int si), .val (.int pi), .val (.int oi), .val (.int v4), .val (.int v5), .val (.int v6), .unset, .unset, .unset, .unset, .unset, .unset] [(.int v6), (.int v5), (.int v4)]))
              obtain ⟨_, _, ⟨T18, L18, k18, n18⟩, -, X18, ⟨Lc18, hQ18, l18, y18, z18⟩, st18⟩ := Jvm.LawKit.callS X0 hx (y := (⟨"com/example/triplewright/triplewright/store/TripleOrder", "serving", "(III)Lcom/example/triplewright/triplewright/store/TripleOrder;"⟩ : MethodName)) hown (mvT hZ (hw _ (List.mem_of_getElem? (i := 0) rfl))) (mvT hZ (hw _ (List.mem_of_getElem? (i := 1) rfl))) (mvT hZ (hw _ (List.mem_of_getElem? (i := 2) rfl))) (mvT hZ (hw _ (List.mem_of_getElem? (i := 3) rfl))) (by decide) (backOf (W := 0) (rm1 l Z a0 hw [] v4 v5 v6 a_SPO a_POS a_OSP h0 n0 Z0 S_SPO S_POS S_OSP) hZ (hw _ (List.mem_of_getElem? (i := 3) rfl)) (hw _ (List.mem_of_getElem? (i := 2) rfl)) (by decide) (by decide)) (g := (mkF m 45 #[.val (.int fl), .val (.int si), .val (.int pi), .val (.int oi), .val (.int v4), .val (.int v5), .val (.int v6), .unset, .unset, .unset, .unset, .unset, .unset] [(.int v6), (.int v5), (.int v4)])) rfl (by rw [hml]; rfl) (argsL := [(.int v4), (.int v5), (.int v6)]) (rest := []) (lenOf pd0_0 rfl) rfl (by show 2 * 0 + _ ≤ _; exact Nat.le_of_eq rfl) (hb hby at_45) (fun _ _ => ⟨rfl, e0, (by decide : 0 + 0 ≤ _), (by decide : 0 + 0 ≤ _)⟩)
              dsimp only [Pt.U, Pt.locs, Pt.cells, Pt.slots] at X18 l18 y18 z18 st18 hQ18
              subst l18 y18 z18
              obtain ⟨rfl, N18q, e18⟩ := hQ18
              have N18 := Fr.app N0 N18q
              refine OFin.back st18 ?_
              rw [show (own_srv v4 v5 v6 a_SPO a_POS a_OSP) = a_POS from by simp [own_srv, hs1, hs2, hs13]]
              show OFin p e below s _ _ Q (T18.setTop (mkF m 48 #[.val (.int fl), .val (.int si), .val (.int pi), .val (.int oi), .val (.int v4), .val (.int v5), .val (.int v6), .unset, .unset, .unset, .unset, .unset, .unset] [(.ref a_POS)]))
              refine OFin.back (fun _ hr => XS.astore X18.here hx rfl (hb hby at_48) rfl rfl (l' := #[.val (.int fl), .val (.int si), .val (.int pi), .val (.int oi), .val (.int v4), .val (.int v5), .val (.int v6), .val (.ref a_POS), .unset, .unset, .unset, .unset, .unset]) rfl hr) ?_
              show OFin p e below s _ _ Q (T18.setTop (mkF m 50 #[.val (.int fl), .val (.int si), .val (.int pi), .val (.int oi), .val (.int v4), .val (.int v5), .val (.int v6), .val (.ref a_POS), .unset, .unset, .unset, .unset, .unset] []))
              refine OFin.back (fun _ hr => XS.aload X18.here hx rfl (hb hby at_50) rfl rfl hr) ?_
              show OFin p e below s _ _ Q (T18.setTop (mkF m 52 #[.val (.int fl), .val (.int si), .val (.int pi), .val (.int oi), .val (.int v4), .val (.int v5), .val (.int v6), .val (.ref a_POS), .unset, .unset, .unset, .unset, .unset] [(.ref a_POS)]))
              refine OFin.back (fun _ hr => XS.ifnonnullYes X18.here hx rfl (pc0 := 52) (pc' := 57) rfl (hb hby at_52) rfl (by decide) (by decide) hr) ?_
              show OFin p e below s _ _ Q (T18.setTop (mkF m 57 #[.val (.int fl), .val (.int si), .val (.int pi), .val (.int oi), .val (.int v4), .val (.int v5), .val (.int v6), .val (.ref a_POS), .unset, .unset, .unset, .unset, .unset] []))
              refine OFin.back (fun _ hr => XS.iload X18.here hx rfl (hb hby at_57) rfl hr) ?_
              show OFin p e below s _ _ Q (T18.setTop (mkF m 59 #[.val (.int fl), .val (.int si), .val (.int pi), .val (.int oi), .val (.int v4), .val (.int v5), .val (.int v6), .val (.ref a_POS), .unset, .unset, .unset, .unset, .unset] [(.int v4)]))
              refine OFin.back (fun _ hr => XS.iconst X18.here hx rfl (hb hby at_59) hr) ?_
              show OFin p e below s _ _ Q (T18.setTop (mkF m 60 #[.val (.int fl), .val (.int si), .val (.int pi), .val (.int oi), .val (.int v4), .val (.int v5), .val (.int v6), .val (.ref a_POS), .unset, .unset, .unset, .unset, .unset] [(.int (-1 : Int32)), (.int v4)]))
              refine OFin.back (fun _ hr => XS.icmpYes X18.here hx rfl (pc0 := 60) (pc' := 67) rfl (hb hby at_60) rfl (teq hs1).1 (by decide) (by decide) hr) ?_
              show OFin p e below s _ _ Q (T18.setTop (mkF m 67 #[.val (.int fl), .val (.int si), .val (.int pi), .val (.int oi), .val (.int v4), .val (.int v5), .val (.int v6), .val (.ref a_POS), .unset, .unset, .unset, .unset, .unset] []))
              refine OFin.back (fun _ hr => XS.iconst X18.here hx rfl (hb hby at_67) hr) ?_
              show OFin p e below s _ _ Q (T18.setTop (mkF m 68 #[.val (.int fl), .val (.int si), .val (.int pi), .val (.int oi), .val (.int v4), .val (.int v5), .val (.int v6), .val (.ref a_POS), .unset, .unset, .unset, .unset, .unset] [(.int (0 : Int32))]))
              refine OFin.back (fun _ hr => XS.istore X18.here hx rfl (hb hby at_68) rfl (l' := #[.val (.int fl), .val (.int si), .val (.int pi), .val (.int oi), .val (.int v4), .val (.int v5), .val (.int v6), .val (.ref a_POS), .val (.int (0 : Int32)), .unset, .unset, .unset, .unset]) rfl hr) ?_
              show OFin p e below s _ _ Q (T18.setTop (mkF m 70 #[.val (.int fl), .val (.int si), .val (.int pi), .val (.int oi), .val (.int v4), .val (.int v5), .val (.int v6), .val (.ref a_POS), .val (.int (0 : Int32)), .unset, .unset, .unset, .unset] []))
              refine OFin.back (fun _ hr => XS.iload X18.here hx rfl (hb hby at_70) rfl hr) ?_
              show OFin p e below s _ _ Q (T18.setTop (mkF m 72 #[.val (.int fl), .val (.int si), .val (.int pi), .val (.int oi), .val (.int v4), .val (.int v5), .val (.int v6), .val (.ref a_POS), .val (.int (0 : Int32)), .unset, .unset, .unset, .unset] [(.int v5)]))
              refine OFin.back (fun _ hr => XS.iconst X18.here hx rfl (hb hby at_72) hr) ?_
              show OFin p e below s _ _ Q (T18.setTop (mkF m 73 #[.val (.int fl), .val (.int si), .val (.int pi), .val (.int oi), .val (.int v4), .val (.int v5), .val (.int v6), .val (.ref a_POS), .val (.int (0 : Int32)), .unset, .unset, .unset, .unset] [(.int (-1 : Int32)), (.int v5)]))
              refine OFin.back (fun _ hr => XS.icmpNo X18.here hx rfl (hb hby at_73) rfl (feq hs2).1 hr) ?_
              show OFin p e below s _ _ Q (T18.setTop (mkF m 76 #[.val (.int fl), .val (.int si), .val (.int pi), .val (.int oi), .val (.int v4), .val (.int v5), .val (.int v6), .val (.ref a_POS), .val (.int (0 : Int32)), .unset, .unset, .unset, .unset] []))
              refine OFin.back (fun _ hr => XS.iconst X18.here hx rfl (hb hby at_76) hr) ?_
              show OFin p e below s _ _ Q (T18.setTop (mkF m 77 #[.val (.int fl), .val (.int si), .val (.int pi), .val (.int oi), .val (.int v4), .val (.int v5), .val (.int v6), .val (.ref a_POS), .val (.int (0 : Int32)), .unset, .unset, .unset, .unset] [(.int (1 : Int32))]))
              refine OFin.back (fun _ hr => XS.goto X18.here hx rfl (pc0 := 77) (pc' := 81) rfl (hb hby at_77) (by decide) (by decide) hr) ?_
              show OFin p e below s _ _ Q (T18.setTop (mkF m 81 #[.val (.int fl), .val (.int si), .val (.int pi), .val (.int oi), .val (.int v4), .val (.int v5), .val (.int v6), .val (.ref a_POS), .val (.int (0 : Int32)), .unset, .unset, .unset, .unset] [(.int (1 : Int32))]))
              refine OFin.back (fun _ hr => XS.istore X18.here hx rfl (hb hby at_81) rfl (l' := #[.val (.int fl), .val (.int si), .val (.int pi), .val (.int oi), .val (.int v4), .val (.int v5), .val (.int v6), .val (.ref a_POS), .val (.int (0 : Int32)), .val (.int (1 : Int32)), .unset, .unset, .unset]) rfl hr) ?_
              show OFin p e below s _ _ Q (T18.setTop (mkF m 83 #[.val (.int fl), .val (.int si), .val (.int pi), .val (.int oi), .val (.int v4), .val (.int v5), .val (.int v6), .val (.ref a_POS), .val (.int (0 : Int32)), .val (.int (1 : Int32)), .unset, .unset, .unset] []))
              refine OFin.back (fun _ hr => XS.iload X18.here hx rfl (hb hby at_83) rfl hr) ?_
              show OFin p e below s _ _ Q (T18.setTop (mkF m 85 #[.val (.int fl), .val (.int si), .val (.int pi), .val (.int oi), .val (.int v4), .val (.int v5), .val (.int v6), .val (.ref a_POS), .val (.int (0 : Int32)), .val (.int (1 : Int32)), .unset, .unset, .unset] [(.int v6)]))
              refine OFin.back (fun _ hr => XS.iconst X18.here hx rfl (hb hby at_85) hr) ?_
              show OFin p e below s _ _ Q (T18.setTop (mkF m 86 #[.val (.int fl), .val (.int si), .val (.int pi), .val (.int oi), .val (.int v4), .val (.int v5), .val (.int v6), .val (.ref a_POS), .val (.int (0 : Int32)), .val (.int (1 : Int32)), .unset, .unset, .unset] [(.int (-1 : Int32)), (.int v6)]))
              refine OFin.back (fun _ hr => XS.icmpNo X18.here hx rfl (hb hby at_86) rfl (feq hs13).1 hr) ?_
              show OFin p e below s _ _ Q (T18.setTop (mkF m 89 #[.val (.int fl), .val (.int si), .val (.int pi), .val (.int oi), .val (.int v4), .val (.int v5), .val (.int v6), .val (.ref a_POS), .val (.int (0 : Int32)), .val (.int (1 : Int32)), .unset, .unset, .unset] []))
              refine OFin.back (fun _ hr => XS.iconst X18.here hx rfl (hb hby at_89) hr) ?_
              show OFin p e below s _ _ Q (T18.setTop (mkF m 90 #[.val (.int fl), .val (.int si), .val (.int pi), .val (.int oi), .val (.int v4), .val (.int v5), .val (.int v6), .val (.ref a_POS), .val (.int (0 : Int32)), .val (.int (1 : Int32)), .unset, .unset, .unset] [(.int (1 : Int32))]))
              refine OFin.back (fun _ hr => XS.goto X18.here hx rfl (pc0 := 90) (pc' := 94) rfl (hb hby at_90) (by decide) (by decide) hr) ?_
              show OFin p e below s _ _ Q (T18.setTop (mkF m 94 #[.val (.int fl), .val (.int si), .val (.int pi), .val (.int oi), .val (.int v4), .val (.int v5), .val (.int v6), .val (.ref a_POS), .val (.int (0 : Int32)), .val (.int (1 : Int32)), .unset, .unset, .unset] [(.int (1 : Int32))]))
              refine OFin.back (fun _ hr => XS.istore X18.here hx rfl (hb hby at_94) rfl (l' := #[.val (.int fl), .val (.int si), .val (.int pi), .val (.int oi), .val (.int v4), .val (.int v5), .val (.int v6), .val (.ref a_POS), .val (.int (0 : Int32)), .val (.int (1 : Int32)), .val (.int (1 : Int32)), .unset, .unset]) rfl hr) ?_
              show OFin p e below s _ _ Q (T18.setTop (mkF m 96 #[.val (.int fl), .val (.int si), .val (.int pi), .val (.int oi), .val (.int v4), .val (.int v5), .val (.int v6), .val (.ref a_POS), .val (.int (0 : Int32)), .val (.int (1 : Int32)), .val (.int (1 : Int32)), .unset, .unset] []))
              refine OFin.back (fun _ hr => XS.iconst X18.here hx rfl (hb hby at_96) hr) ?_
              show OFin p e below s _ _ Q (T18.setTop (mkF m 97 #[.val (.int fl), .val (.int si), .val (.int pi), .val (.int oi), .val (.int v4), .val (.int v5), .val (.int v6), .val (.ref a_POS), .val (.int (0 : Int32)), .val (.int (1 : Int32)), .val (.int (1 : Int32)), .unset, .unset] [(.int (0 : Int32))]))
              refine OFin.back (fun _ hr => XS.istore X18.here hx rfl (hb hby at_97) rfl (l' := #[.val (.int fl), .val (.int si), .val (.int pi), .val (.int oi), .val (.int v4), .val (.int v5), .val (.int v6), .val (.ref a_POS), .val (.int (0 : Int32)), .val (.int (1 : Int32)), .val (.int (1 : Int32)), .val (.int (0 : Int32)), .unset]) rfl hr) ?_
              show OFin p e below s _ _ Q (T18.setTop (mkF m 99 #[.val (.int fl), .val (.int si), .val (.int pi), .val (.int oi), .val (.int v4), .val (.int v5), .val (.int v6), .val (.ref a_POS), .val (.int (0 : Int32)), .val (.int (1 : Int32)), .val (.int (1 : Int32)), .val (.int (0 : Int32)), .unset] []))
              refine OFin.back (fun _ hr => XS.iload X18.here hx rfl (hb hby at_99) rfl hr) ?_
              show OFin p e below s _ _ Q (T18.setTop (mkF m 101 #[.val (.int fl), .val (.int si), .val (.int pi), .val (.int oi), .val (.int v4), .val (.int v5), .val (.int v6), .val (.ref a_POS), .val (.int (0 : Int32)), .val (.int (1 : Int32)), .val (.int (1 : Int32)), .val (.int (0 : Int32)), .unset] [(.int (0 : Int32))]))
              refine OFin.back (fun _ hr => XS.ifYes X18.here hx rfl (pc0 := 101) (pc' := 110) rfl (hb hby at_101) rfl ((if0 _ _).trans (teq (by decide : (0 : Int32) = (0 : Int32))).1) (by decide) (by decide) hr) ?_
              show OFin p e below s _ _ Q (T18.setTop (mkF m 110 #[.val (.int fl), .val (.int si), .val (.int pi), .val (.int oi), .val (.int v4), .val (.int v5), .val (.int v6), .val (.ref a_POS), .val (.int (0 : Int32)), .val (.int (1 : Int32)), .val (.int (1 : Int32)), .val (.int (0 : Int32)), .unset] []))
              refine OFin.back (fun _ hr => XS.iload X18.here hx rfl (hb hby at_110) rfl hr) ?_
              show OFin p e below s _ _ Q (T18.setTop (mkF m 112 #[.val (.int fl), .val (.int si), .val (.int pi), .val (.int oi), .val (.int v4), .val (.int v5), .val (.int v6), .val (.ref a_POS), .val (.int (0 : Int32)), .val (.int (1 : Int32)), .val (.int (1 : Int32)), .val (.int (0 : Int32)), .unset] [(.int (1 : Int32))]))
              refine OFin.back (fun _ hr => XS.ifNo X18.here hx rfl (hb hby at_112) rfl ((if0 _ _).trans (feq (by decide : ¬ ((1 : Int32) = (0 : Int32)))).1) hr) ?_
              show OFin p e below s _ _ Q (T18.setTop (mkF m 115 #[.val (.int fl), .val (.int si), .val (.int pi), .val (.int oi), .val (.int v4), .val (.int v5), .val (.int v6), .val (.ref a_POS), .val (.int (0 : Int32)), .val (.int (1 : Int32)), .val (.int (1 : Int32)), .val (.int (0 : Int32)), .unset] []))
              refine OFin.back (fun _ hr => XS.iload X18.here hx rfl (hb hby at_115) rfl hr) ?_
              show OFin p e below s _ _ Q (T18.setTop (mkF m 117 #[.val (.int fl), .val (.int si), .val (.int pi), .val (.int oi), .val (.int v4), .val (.int v5), .val (.int v6), .val (.ref a_POS), .val (.int (0 : Int32)), .val (.int (1 : Int32)), .val (.int (1 : Int32)), .val (.int (0 : Int32)), .unset] [(.int (0 : Int32))]))
              refine OFin.back (fun _ hr => XS.iconst X18.here hx rfl (hb hby at_117) hr) ?_
              show OFin p e below s _ _ Q (T18.setTop (mkF m 118 #[.val (.int fl), .val (.int si), .val (.int pi), .val (.int oi), .val (.int v4), .val (.int v5), .val (.int v6), .val (.ref a_POS), .val (.int (0 : Int32)), .val (.int (1 : Int32)), .val (.int (1 : Int32)), .val (.int (0 : Int32)), .unset] [(.int (1 : Int32)), (.int (0 : Int32))]))
              refine OFin.back (fun _ hr => XS.iadd X18.here hx rfl (hb hby at_118) rfl hr) ?_
              show OFin p e below s _ _ Q (T18.setTop (mkF m 119 #[.val (.int fl), .val (.int si), .val (.int pi), .val (.int oi), .val (.int v4), .val (.int v5), .val (.int v6), .val (.ref a_POS), .val (.int (0 : Int32)), .val (.int (1 : Int32)), .val (.int (1 : Int32)), .val (.int (0 : Int32)), .unset] [(.int (1 : Int32))]))
              refine OFin.back (fun _ hr => XS.istore X18.here hx rfl (hb hby at_119) rfl (l' := #[.val (.int fl), .val (.int si), .val (.int pi), .val (.int oi), .val (.int v4), .val (.int v5), .val (.int v6), .val (.ref a_POS), .val (.int (0 : Int32)), .val (.int (1 : Int32)), .val (.int (1 : Int32)), .val (.int (1 : Int32)), .unset]) rfl hr) ?_
              show OFin p e below s _ _ Q (T18.setTop (mkF m 121 #[.val (.int fl), .val (.int si), .val (.int pi), .val (.int oi), .val (.int v4), .val (.int v5), .val (.int v6), .val (.ref a_POS), .val (.int (0 : Int32)), .val (.int (1 : Int32)), .val (.int (1 : Int32)), .val (.int (1 : Int32)), .unset] []))
              refine OFin.back (fun _ hr => XS.iload X18.here hx rfl (hb hby at_121) rfl hr) ?_
              show OFin p e below s _ _ Q (T18.setTop (mkF m 123 #[.val (.int fl), .val (.int si), .val (.int pi), .val (.int oi), .val (.int v4), .val (.int v5), .val (.int v6), .val (.ref a_POS), .val (.int (0 : Int32)), .val (.int (1 : Int32)), .val (.int (1 : Int32)), .val (.int (1 : Int32)), .unset] [(.int (1 : Int32))]))
              refine OFin.back (fun _ hr => XS.ifNo X18.here hx rfl (hb hby at_123) rfl ((if0 _ _).trans (feq (by decide : ¬ ((1 : Int32) = (0 : Int32)))).1) hr) ?_
              show OFin p e below s _ _ Q (T18.setTop (mkF m 126 #[.val (.int fl), .val (.int si), .val (.int pi), .val (.int oi), .val (.int v4), .val (.int v5), .val (.int v6), .val (.ref a_POS), .val (.int (0 : Int32)), .val (.int (1 : Int32)), .val (.int (1 : Int32)), .val (.int (1 : Int32)), .unset] []))
              refine OFin.back (fun _ hr => XS.iload X18.here hx rfl (hb hby at_126) rfl hr) ?_
              show OFin p e below s _ _ Q (T18.setTop (mkF m 128 #[.val (.int fl), .val (.int si), .val (.int pi), .val (.int oi), .val (.int v4), .val (.int v5), .val (.int v6), .val (.ref a_POS), .val (.int (0 : Int32)), .val (.int (1 : Int32)), .val (.int (1 : Int32)), .val (.int (1 : Int32)), .unset] [(.int (1 : Int32))]))
              refine OFin.back (fun _ hr => XS.iconst X18.here hx rfl (hb hby at_128) hr) ?_
              show OFin p e below s _ _ Q (T18.setTop (mkF m 129 #[.val (.int fl), .val (.int si), .val (.int pi), .val (.int oi), .val (.int v4), .val (.int v5), .val (.int v6), .val (.ref a_POS), .val (.int (0 : Int32)), .val (.int (1 : Int32)), .val (.int (1 : Int32)), .val (.int (1 : Int32)), .unset] [(.int (1 : Int32)), (.int (1 : Int32))]))
              refine OFin.back (fun _ hr => XS.iadd X18.here hx rfl (hb hby at_129) rfl hr) ?_
              show OFin p e below s _ _ Q (T18.setTop (mkF m 130 #[.val (.int fl), .val (.int si), .val (.int pi), .val (.int oi), .val (.int v4), .val (.int v5), .val (.int v6), .val (.ref a_POS), .val (.int (0 : Int32)), .val (.int (1 : Int32)), .val (.int (1 : Int32)), .val (.int (1 : Int32)), .unset] [(.int (2 : Int32))]))
              refine OFin.back (fun _ hr => XS.istore X18.here hx rfl (hb hby at_130) rfl (l' := #[.val (.int fl), .val (.int si), .val (.int pi), .val (.int oi), .val (.int v4), .val (.int v5), .val (.int v6), .val (.ref a_POS), .val (.int (0 : Int32)), .val (.int (1 : Int32)), .val (.int (1 : Int32)), .val (.int (2 : Int32)), .unset]) rfl hr) ?_
              show OFin p e below s _ _ Q (T18.setTop (mkF m 132 #[.val (.int fl), .val (.int si), .val (.int pi), .val (.int oi), .val (.int v4), .val (.int v5), .val (.int v6), .val (.ref a_POS), .val (.int (0 : Int32)), .val (.int (1 : Int32)), .val (.int (1 : Int32)), .val (.int (2 : Int32)), .unset] []))
              refine OFin.back (fun _ hr => XS.iload X18.here hx rfl (hb hby at_132) rfl hr) ?_
              show OFin p e below s _ _ Q (T18.setTop (mkF m 134 #[.val (.int fl), .val (.int si), .val (.int pi), .val (.int oi), .val (.int v4), .val (.int v5), .val (.int v6), .val (.ref a_POS), .val (.int (0 : Int32)), .val (.int (1 : Int32)), .val (.int (1 : Int32)), .val (.int (2 : Int32)), .unset] [(.int (0 : Int32))]))
              refine OFin.back (fun _ hr => XS.aload X18.here hx rfl (hb hby at_134) rfl rfl hr) ?_
              show OFin p e below s _ _ Q (T18.setTop (mkF m 136 #[.val (.int fl), .val (.int si), .val (.int pi), .val (.int oi), .val (.int v4), .val (.int v5), .val (.int v6), .val (.ref a_POS), .val (.int (0 : Int32)), .val (.int (1 : Int32)), .val (.int (1 : Int32)), .val (.int (2 : Int32)), .unset] [(.ref a_POS), (.int (0 : Int32))]))
              obtain ⟨cq19, kq19, q19a, q19b, q19c⟩ := isOf hZ e18 E_POS
              obtain ⟨_, _, ⟨T19, L19, k19, n19⟩, -, X19, ⟨Lc19, hQ19, l19, y19, z19⟩, st19⟩ := X18.virtualBack hx (y := (⟨"com/example/triplewright/triplewright/store/TripleOrder", "subjectColumn", "()I"⟩ : MethodName)) (z := (⟨"com/example/triplewright/triplewright/store/TripleOrder", "subjectColumn", "()I"⟩ : MethodName)) hown (mvT hZ (hw _ (List.mem_of_getElem? (i := 6) rfl))) (mvT hZ (hw _ (List.mem_of_getElem? (i := 7) rfl))) (notFace_of_selects (args := #[]) (mvT hZ (hw _ (List.mem_of_getElem? (i := 9) rfl)))) (mvT hZ (hw _ (List.mem_of_getElem? (i := 9) rfl))) (mvT hZ (hw _ (List.mem_of_getElem? (i := 8) rfl))) (by decide) (backOf (W := 1) (rm2 l Z a0 hw [] a_POS (2 : Int32) h0 n0 Z0 F_POS_subjectColumn) hZ (hw _ (List.mem_of_getElem? (i := 10) rfl)) (hw _ (List.mem_of_getElem? (i := 2) rfl)) (by decide) (by decide)) q19a q19c (g := (mkF m 136 #[.val (.int fl), .val (.int si), .val (.int pi), .val (.int oi), .val (.int v4), .val (.int v5), .val (.int v6), .val (.ref a_POS), .val (.int (0 : Int32)), .val (.int (1 : Int32)), .val (.int (1 : Int32)), .val (.int (2 : Int32)), .unset] [(.ref a_POS), (.int (0 : Int32))])) rfl (by rw [hml]; rfl) (Steps.refl _) (argsL := []) (rest := [(.int (0 : Int32))]) (lenOf pd0_1 rfl) rfl (by show 2 * 0 + _ ≤ _; exact Nat.le_of_eq rfl) (hb hby at_136) (fun _ _ => ⟨rfl, e18, (by decide : 0 + 0 ≤ _), (by decide : 0 + 0 ≤ _)⟩)
              dsimp only [Pt.U, Pt.locs, Pt.cells, Pt.slots] at X19 l19 y19 z19 st19 hQ19
              subst l19 y19 z19
              obtain ⟨rfl, N19q, e19⟩ := hQ19
              have N19 := Fr.app N18 N19q
              refine OFin.via st19 ?_
              show OFin p e below s _ _ Q (T19.setTop (mkF m 139 #[.val (.int fl), .val (.int si), .val (.int pi), .val (.int oi), .val (.int v4), .val (.int v5), .val (.int v6), .val (.ref a_POS), .val (.int (0 : Int32)), .val (.int (1 : Int32)), .val (.int (1 : Int32)), .val (.int (2 : Int32)), .unset] [(.int (2 : Int32)), (.int (0 : Int32))]))
              refine OFin.back (fun _ hr => XS.iload X19.here hx rfl (hb hby at_139) rfl hr) ?_
              show OFin p e below s _ _ Q (T19.setTop (mkF m 141 #[.val (.int fl), .val (.int si), .val (.int pi), .val (.int oi), .val (.int v4), .val (.int v5), .val (.int v6), .val (.ref a_POS), .val (.int (0 : Int32)), .val (.int (1 : Int32)), .val (.int (1 : Int32)), .val (.int (2 : Int32)), .unset] [(.int (2 : Int32)), (.int (2 : Int32)), (.int (0 : Int32))]))
              refine OFin.back (fun _ hr => XS.icmpYes X19.here hx rfl (pc0 := 141) (pc' := 148) rfl (hb hby at_141) rfl (flt (by decide : ¬ ((2 : Int32) < (2 : Int32)))).2.1 (by decide) (by decide) hr) ?_
              show OFin p e below s _ _ Q (T19.setTop (mkF m 148 #[.val (.int fl), .val (.int si), .val (.int pi), .val (.int oi), .val (.int v4), .val (.int v5), .val (.int v6), .val (.ref a_POS), .val (.int (0 : Int32)), .val (.int (1 : Int32)), .val (.int (1 : Int32)), .val (.int (2 : Int32)), .unset] [(.int (0 : Int32))]))
              refine OFin.back (fun _ hr => XS.iconst X19.here hx rfl (hb hby at_148) hr) ?_
              show OFin p e below s _ _ Q (T19.setTop (mkF m 149 #[.val (.int fl), .val (.int si), .val (.int pi), .val (.int oi), .val (.int v4), .val (.int v5), .val (.int v6), .val (.ref a_POS), .val (.int (0 : Int32)), .val (.int (1 : Int32)), .val (.int (1 : Int32)), .val (.int (2 : Int32)), .unset] [(.int (0 : Int32)), (.int (0 : Int32))]))
              refine OFin.back (fun _ hr => XS.icmpNo X19.here hx rfl (hb hby at_149) rfl (teq (by decide : (0 : Int32) = (0 : Int32))).2 hr) ?_
              show OFin p e below s _ _ Q (T19.setTop (mkF m 152 #[.val (.int fl), .val (.int si), .val (.int pi), .val (.int oi), .val (.int v4), .val (.int v5), .val (.int v6), .val (.ref a_POS), .val (.int (0 : Int32)), .val (.int (1 : Int32)), .val (.int (1 : Int32)), .val (.int (2 : Int32)), .unset] []))
              refine OFin.back (fun _ hr => XS.iload X19.here hx rfl (hb hby at_152) rfl hr) ?_
              show OFin p e below s _ _ Q (T19.setTop (mkF m 154 #[.val (.int fl), .val (.int si), .val (.int pi), .val (.int oi), .val (.int v4), .val (.int v5), .val (.int v6), .val (.ref a_POS), .val (.int (0 : Int32)), .val (.int (1 : Int32)), .val (.int (1 : Int32)), .val (.int (2 : Int32)), .unset] [(.int (1 : Int32))]))
              refine OFin.back (fun _ hr => XS.aload X19.here hx rfl (hb hby at_154) rfl rfl hr) ?_
              show OFin p e below s _ _ Q (T19.setTop (mkF m 156 #[.val (.int fl), .val (.int si), .val (.int pi), .val (.int oi), .val (.int v4), .val (.int v5), .val (.int v6), .val (.ref a_POS), .val (.int (0 : Int32)), .val (.int (1 : Int32)), .val (.int (1 : Int32)), .val (.int (2 : Int32)), .unset] [(.ref a_POS), (.int (1 : Int32))]))
              obtain ⟨cq20, kq20, q20a, q20b, q20c⟩ := isOf hZ e19 E_POS
              obtain ⟨_, _, ⟨T20, L20, k20, n20⟩, -, X20, ⟨Lc20, hQ20, l20, y20, z20⟩, st20⟩ := X19.virtualBack hx (y := (⟨"com/example/triplewright/triplewright/store/TripleOrder", "predicateColumn", "()I"⟩ : MethodName)) (z := (⟨"com/example/triplewright/triplewright/store/TripleOrder", "predicateColumn", "()I"⟩ : MethodName)) hown (mvT hZ (hw _ (List.mem_of_getElem? (i := 13) rfl))) (mvT hZ (hw _ (List.mem_of_getElem? (i := 14) rfl))) (notFace_of_selects (args := #[]) (mvT hZ (hw _ (List.mem_of_getElem? (i := 16) rfl)))) (mvT hZ (hw _ (List.mem_of_getElem? (i := 16) rfl))) (mvT hZ (hw _ (List.mem_of_getElem? (i := 15) rfl))) (by decide) (backOf (W := 1) (rm3 l Z a0 hw [] a_POS (0 : Int32) h0 n0 Z0 F_POS_predicateColumn) hZ (hw _ (List.mem_of_getElem? (i := 17) rfl)) (hw _ (List.mem_of_getElem? (i := 2) rfl)) (by decide) (by decide)) q20a q20c (g := (mkF m 156 #[.val (.int fl), .val (.int si), .val (.int pi), .val (.int oi), .val (.int v4), .val (.int v5), .val (.int v6), .val (.ref a_POS), .val (.int (0 : Int32)), .val (.int (1 : Int32)), .val (.int (1 : Int32)), .val (.int (2 : Int32)), .unset] [(.ref a_POS), (.int (1 : Int32))])) rfl (by rw [hml]; rfl) (Steps.refl _) (argsL := []) (rest := [(.int (1 : Int32))]) (lenOf pd0_1 rfl) rfl (by show 2 * 0 + _ ≤ _; exact Nat.le_of_eq rfl) (hb hby at_156) (fun _ _ => ⟨rfl, e19, (by decide : 0 + 0 ≤ _), (by decide : 0 + 0 ≤ _)⟩)
              dsimp only [Pt.U, Pt.locs, Pt.cells, Pt.slots] at X20 l20 y20 z20 st20 hQ20
              subst l20 y20 z20
              obtain ⟨rfl, N20q, e20⟩ := hQ20
              have N20 := Fr.app N19 N20q
              refine OFin.via st20 ?_
              show OFin p e below s _ _ Q (T20.setTop (mkF m 159 #[.val (.int fl), .val (.int si), .val (.int pi), .val (.int oi), .val (.int v4), .val (.int v5), .val (.int v6), .val (.ref a_POS), .val (.int (0 : Int32)), .val (.int (1 : Int32)), .val (.int (1 : Int32)), .val (.int (2 : Int32)), .unset] [(.int (0 : Int32)), (.int (1 : Int32))]))
              refine OFin.back (fun _ hr => XS.iload X20.here hx rfl (hb hby at_159) rfl hr) ?_
              show OFin p e below s _ _ Q (T20.setTop (mkF m 161 #[.val (.int fl), .val (.int si), .val (.int pi), .val (.int oi), .val (.int v4), .val (.int v5), .val (.int v6), .val (.ref a_POS), .val (.int (0 : Int32)), .val (.int (1 : Int32)), .val (.int (1 : Int32)), .val (.int (2 : Int32)), .unset] [(.int (2 : Int32)), (.int (0 : Int32)), (.int (1 : Int32))]))
              refine OFin.back (fun _ hr => XS.icmpNo X20.here hx rfl (hb hby at_161) rfl (tlt (by decide : (0 : Int32) < (2 : Int32))).2.1 hr) ?_
              show OFin p e below s _ _ Q (T20.setTop (mkF m 164 #[.val (.int fl), .val (.int si), .val (.int pi), .val (.int oi), .val (.int v4), .val (.int v5), .val (.int v6), .val (.ref a_POS), .val (.int (0 : Int32)), .val (.int (1 : Int32)), .val (.int (1 : Int32)), .val (.int (2 : Int32)), .unset] [(.int (1 : Int32))]))
              refine OFin.back (fun _ hr => XS.iconst X20.here hx rfl (hb hby at_164) hr) ?_
              show OFin p e below s _ _ Q (T20.setTop (mkF m 165 #[.val (.int fl), .val (.int si), .val (.int pi), .val (.int oi), .val (.int v4), .val (.int v5), .val (.int v6), .val (.ref a_POS), .val (.int (0 : Int32)), .val (.int (1 : Int32)), .val (.int (1 : Int32)), .val (.int (2 : Int32)), .unset] [(.int (1 : Int32)), (.int (1 : Int32))]))
              refine OFin.back (fun _ hr => XS.goto X20.here hx rfl (pc0 := 165) (pc' := 169) rfl (hb hby at_165) (by decide) (by decide) hr) ?_
              show OFin p e below s _ _ Q (T20.setTop (mkF m 169 #[.val (.int fl), .val (.int si), .val (.int pi), .val (.int oi), .val (.int v4), .val (.int v5), .val (.int v6), .val (.ref a_POS), .val (.int (0 : Int32)), .val (.int (1 : Int32)), .val (.int (1 : Int32)), .val (.int (2 : Int32)), .unset] [(.int (1 : Int32)), (.int (1 : Int32))]))
              refine OFin.back (fun _ hr => XS.icmpNo X20.here hx rfl (hb hby at_169) rfl (teq (by decide : (1 : Int32) = (1 : Int32))).2 hr) ?_
              show OFin p e below s _ _ Q (T20.setTop (mkF m 172 #[.val (.int fl), .val (.int si), .val (.int pi), .val (.int oi), .val (.int v4), .val (.int v5), .val (.int v6), .val (.ref a_POS), .val (.int (0 : Int32)), .val (.int (1 : Int32)), .val (.int (1 : Int32)), .val (.int (2 : Int32)), .unset] []))
              refine OFin.back (fun _ hr => XS.iload X20.here hx rfl (hb hby at_172) rfl hr) ?_
              show OFin p e below s _ _ Q (T20.setTop (mkF m 174 #[.val (.int fl), .val (.int si), .val (.int pi), .val (.int oi), .val (.int v4), .val (.int v5), .val (.int v6), .val (.ref a_POS), .val (.int (0 : Int32)), .val (.int (1 : Int32)), .val (.int (1 : Int32)), .val (.int (2 : Int32)), .unset] [(.int (1 : Int32))]))
              refine OFin.back (fun _ hr => XS.aload X20.here hx rfl (hb hby at_174) rfl rfl hr) ?_
              show OFin p e below s _ _ Q (T20.setTop (mkF m 176 #[.val (.int fl), .val (.int si), .val (.int pi), .val (.int oi), .val (.int v4), .val (.int v5), .val (.int v6), .val (.ref a_POS), .val (.int (0 : Int32)), .val (.int (1 : Int32)), .val (.int (1 : Int32)), .val (.int (2 : Int32)), .unset] [(.ref a_POS), (.int (1 : Int32))]))
              obtain ⟨cq21, kq21, q21a, q21b, q21c⟩ := isOf hZ e20 E_POS
              obtain ⟨_, _, ⟨T21, L21, k21, n21⟩, -, X21, ⟨Lc21, hQ21, l21, y21, z21⟩, st21⟩ := X20.virtualBack hx (y := (⟨"com/example/triplewright/triplewright/store/TripleOrder", "objectColumn", "()I"⟩ : MethodName)) (z := (⟨"com/example/triplewright/triplewright/store/TripleOrder", "objectColumn", "()I"⟩ : MethodName)) hown (mvT hZ (hw _ (List.mem_of_getElem? (i := 20) rfl))) (mvT hZ (hw _ (List.mem_of_getElem? (i := 21) rfl))) (notFace_of_selects (args := #[]) (mvT hZ (hw _ (List.mem_of_getElem? (i := 23) rfl)))) (mvT hZ (hw _ (List.mem_of_getElem? (i := 23) rfl))) (mvT hZ (hw _ (List.mem_of_getElem? (i := 22) rfl))) (by decide) (backOf (W := 1) (rm4 l Z a0 hw [] a_POS (1 : Int32) h0 n0 Z0 F_POS_objectColumn) hZ (hw _ (List.mem_of_getElem? (i := 24) rfl)) (hw _ (List.mem_of_getElem? (i := 2) rfl)) (by decide) (by decide)) q21a q21c (g := (mkF m 176 #[.val (.int fl), .val (.int si), .val (.int pi), .val (.int oi), .val (.int v4), .val (.int v5), .val (.int v6), .val (.ref a_POS), .val (.int (0 : Int32)), .val (.int (1 : Int32)), .val (.int (1 : Int32)), .val (.int (2 : Int32)), .unset] [(.ref a_POS), (.int (1 : Int32))])) rfl (by rw [hml]; rfl) (Steps.refl _) (argsL := []) (rest := [(.int (1 : Int32))]) (lenOf pd0_1 rfl) rfl (by show 2 * 0 + _ ≤ _; exact Nat.le_of_eq rfl) (hb hby at_176) (fun _ _ => ⟨rfl, e20, (by decide : 0 + 0 ≤ _), (by decide : 0 + 0 ≤ _)⟩)
              dsimp only [Pt.U, Pt.locs, Pt.cells, Pt.slots] at X21 l21 y21 z21 st21 hQ21
              subst l21 y21 z21
              obtain ⟨rfl, N21q, e21⟩ := hQ21
              have N21 := Fr.app N20 N21q
              refine OFin.via st21 ?_
              show OFin p e below s _ _ Q (T21.setTop (mkF m 179 #[.val (.int fl), .val (.int si), .val (.int pi), .val (.int oi), .val (.int v4), .val (.int v5), .val (.int v6), .val (.ref a_POS), .val (.int (0 : Int32)), .val (.int (1 : Int32)), .val (.int (1 : Int32)), .val (.int (2 : Int32)), .unset] [(.int (1 : Int32)), (.int (1 : Int32))]))
              refine OFin.back (fun _ hr => XS.iload X21.here hx rfl (hb hby at_179) rfl hr) ?_
              show OFin p e below s _ _ Q (T21.setTop (mkF m 181 #[.val (.int fl), .val (.int si), .val (.int pi), .val (.int oi), .val (.int v4), .val (.int v5), .val (.int v6), .val (.ref a_POS), .val (.int (0 : Int32)), .val (.int (1 : Int32)), .val (.int (1 : Int32)), .val (.int (2 : Int32)), .unset] [(.int (2 : Int32)), (.int (1 : Int32)), (.int (1 : Int32))]))
              refine OFin.back (fun _ hr => XS.icmpNo X21.here hx rfl (hb hby at_181) rfl (tlt (by decide : (1 : Int32) < (2 : Int32))).2.1 hr) ?_
              show OFin p e below s _ _ Q (T21.setTop (mkF m 184 #[.val (.int fl), .val (.int si), .val (.int pi), .val (.int oi), .val (.int v4), .val (.int v5), .val (.int v6), .val (.ref a_POS), .val (.int (0 : Int32)), .val (.int (1 : Int32)), .val (.int (1 : Int32)), .val (.int (2 : Int32)), .unset] [(.int (1 : Int32))]))
              refine OFin.back (fun _ hr => XS.iconst X21.here hx rfl (hb hby at_184) hr) ?_
              show OFin p e below s _ _ Q (T21.setTop (mkF m 185 #[.val (.int fl), .val (.int si), .val (.int pi), .val (.int oi), .val (.int v4), .val (.int v5), .val (.int v6), .val (.ref a_POS), .val (.int (0 : Int32)), .val (.int (1 : Int32)), .val (.int (1 : Int32)), .val (.int (2 : Int32)), .unset] [(.int (1 : Int32)), (.int (1 : Int32))]))
              refine OFin.back (fun _ hr => XS.goto X21.here hx rfl (pc0 := 185) (pc' := 189) rfl (hb hby at_185) (by decide) (by decide) hr) ?_
              show OFin p e below s _ _ Q (T21.setTop (mkF m 189 #[.val (.int fl), .val (.int si), .val (.int pi), .val (.int oi), .val (.int v4), .val (.int v5), .val (.int v6), .val (.ref a_POS), .val (.int (0 : Int32)), .val (.int (1 : Int32)), .val (.int (1 : Int32)), .val (.int (2 : Int32)), .unset] [(.int (1 : Int32)), (.int (1 : Int32))]))
              refine OFin.back (fun _ hr => XS.icmpNo X21.here hx rfl (hb hby at_189) rfl (teq (by decide : (1 : Int32) = (1 : Int32))).2 hr) ?_
              show OFin p e below s _ _ Q (T21.setTop (mkF m 192 #[.val (.int fl), .val (.int si), .val (.int pi), .val (.int oi), .val (.int v4), .val (.int v5), .val (.int v6), .val (.ref a_POS), .val (.int (0 : Int32)), .val (.int (1 : Int32)), .val (.int (1 : Int32)), .val (.int (2 : Int32)), .unset] []))
              refine OFin.back (fun _ hr => XS.iconst X21.here hx rfl (hb hby at_192) hr) ?_
              show OFin p e below s _ _ Q (T21.setTop (mkF m 193 #[.val (.int fl), .val (.int si), .val (.int pi), .val (.int oi), .val (.int v4), .val (.int v5), .val (.int v6), .val (.ref a_POS), .val (.int (0 : Int32)), .val (.int (1 : Int32)), .val (.int (1 : Int32)), .val (.int (2 : Int32)), .unset] [(.int (1 : Int32))]))
              refine OFin.back (fun _ hr => XS.goto X21.here hx rfl (pc0 := 193) (pc' := 197) rfl (hb hby at_193) (by decide) (by decide) hr) ?_
              show OFin p e below s _ _ Q (T21.setTop (mkF m 197 #[.val (.int fl), .val (.int si), .val (.int pi), .val (.int oi), .val (.int v4), .val (.int v5), .val (.int v6), .val (.ref a_POS), .val (.int (0 : Int32)), .val (.int (1 : Int32)), .val (.int (1 : Int32)), .val (.int (2 : Int32)), .unset] [(.int (1 : Int32))]))
              refine OFin.back (fun _ hr => XS.istore X21.here hx rfl (hb hby at_197) rfl (l' := #[.val (.int fl), .val (.int si), .val (.int pi), .val (.int oi), .val (.int v4), .val (.int v5), .val (.int v6), .val (.ref a_POS), .val (.int (0 : Int32)), .val (.int (1 : Int32)), .val (.int (1 : Int32)), .val (.int (2 : Int32)), .val (.int (1 : Int32))]) rfl hr) ?_
              show OFin p e below s _ _ Q (T21.setTop (mkF m 199 #[.val (.int fl), .val (.int si), .val (.int pi), .val (.int oi), .val (.int v4), .val (.int v5), .val (.int v6), .val (.ref a_POS), .val (.int (0 : Int32)), .val (.int (1 : Int32)), .val (.int (1 : Int32)), .val (.int (2 : Int32)), .val (.int (1 : Int32))] []))
              refine OFin.back (fun _ hr => XS.iload X21.here hx rfl (hb hby at_199) rfl hr) ?_
              show OFin p e below s _ _ Q (T21.setTop (mkF m 201 #[.val (.int fl), .val (.int si), .val (.int pi), .val (.int oi), .val (.int v4), .val (.int v5), .val (.int v6), .val (.ref a_POS), .val (.int (0 : Int32)), .val (.int (1 : Int32)), .val (.int (1 : Int32)), .val (.int (2 : Int32)), .val (.int (1 : Int32))] [(.int (2 : Int32))]))
              refine OFin.back (fun _ hr => XS.iconst X21.here hx rfl (hb hby at_201) hr) ?_
              show OFin p e below s _ _ Q (T21.setTop (mkF m 202 #[.val (.int fl), .val (.int si), .val (.int pi), .val (.int oi), .val (.int v4), .val (.int v5), .val (.int v6), .val (.ref a_POS), .val (.int (0 : Int32)), .val (.int (1 : Int32)), .val (.int (1 : Int32)), .val (.int (2 : Int32)), .val (.int (1 : Int32))] [(.int (3 : Int32)), (.int (2 : Int32))]))
              refine OFin.back (fun _ hr => XS.icmpYes X21.here hx rfl (pc0 := 202) (pc' := 224) rfl (hb hby at_202) rfl (feq (by decide : ¬ ((2 : Int32) = (3 : Int32)))).2 (by decide) (by decide) hr) ?_
              show OFin p e below s _ _ Q (T21.setTop (mkF m 224 #[.val (.int fl), .val (.int si), .val (.int pi), .val (.int oi), .val (.int v4), .val (.int v5), .val (.int v6), .val (.ref a_POS), .val (.int (0 : Int32)), .val (.int (1 : Int32)), .val (.int (1 : Int32)), .val (.int (2 : Int32)), .val (.int (1 : Int32))] []))
              refine OFin.back (fun _ hr => XS.iload X21.here hx rfl (hb hby at_224) rfl hr) ?_
              show OFin p e below s _ _ Q (T21.setTop (mkF m 226 #[.val (.int fl), .val (.int si), .val (.int pi), .val (.int oi), .val (.int v4), .val (.int v5), .val (.int v6), .val (.ref a_POS), .val (.int (0 : Int32)), .val (.int (1 : Int32)), .val (.int (1 : Int32)), .val (.int (2 : Int32)), .val (.int (1 : Int32))] [(.int (2 : Int32))]))
              refine OFin.back (fun _ hr => XS.ifYes X21.here hx rfl (pc0 := 226) (pc' := 248) rfl (hb hby at_226) rfl ((if0 _ _).trans (feq (by decide : ¬ ((2 : Int32) = (0 : Int32)))).2) (by decide) (by decide) hr) ?_
              show OFin p e below s _ _ Q (T21.setTop (mkF m 248 #[.val (.int fl), .val (.int si), .val (.int pi), .val (.int oi), .val (.int v4), .val (.int v5), .val (.int v6), .val (.ref a_POS), .val (.int (0 : Int32)), .val (.int (1 : Int32)), .val (.int (1 : Int32)), .val (.int (2 : Int32)), .val (.int (1 : Int32))] []))
              refine OFin.back (fun _ hr => XS.iload X21.here hx rfl (hb hby at_248) rfl hr) ?_
              show OFin p e below s _ _ Q (T21.setTop (mkF m 250 #[.val (.int fl), .val (.int si), .val (.int pi), .val (.int oi), .val (.int v4), .val (.int v5), .val (.int v6), .val (.ref a_POS), .val (.int (0 : Int32)), .val (.int (1 : Int32)), .val (.int (1 : Int32)), .val (.int (2 : Int32)), .val (.int (1 : Int32))] [(.int (1 : Int32))]))
              exact OFin.outN (t := .boolean) X21 hx Bd.returns (by simp) Bd.notSynchronized (hb hby at_250) (by decide) (by decide) e21 (by rw [hQ]; exact ⟨rfl, N21⟩)
        · -- not v4 = (-1 : Int32)
          by_cases hs22 : v5 = (-1 : Int32)
          · -- v5 = (-1 : Int32)
            by_cases hs23 : v6 = (-1 : Int32)
            · -- v6 = (-1 : Int32)
              refine OFin.back (fun _ hr => XS.iload X0.here hx rfl (hb hby at_39) rfl hr) ?_
              show OFin p e below s _ _ Q (s₁.setTop (mkF m 41 #[.val (.int fl), .val (.int si), .val (.int pi), .val (.int oi), .val (.int v4), .val (.int v5), .val (.int v6), .unset, .unset, .unset, .unset, .unset, .unset] [(.int v4)]))
              refine OFin.back (fun _ hr => XS.iload X0.here hx rfl (hb hby at_41) rfl hr) ?_
              show OFin p e below s _ _ Q (s₁.setTop (mkF m 43 #[.val (.int fl), .val (.int si), .val (.int pi), .val (.int oi), .val (.int v4), .val (.int v5), .val (.int v6), .unset, .unset, .unset, .unset, .unset, .unset] [(.int v5), (.int v4)]))
              refine OFin.back (fun _ hr => XS.iload X0.here hx rfl (hb hby at_43) rfl hr) ?_
              show OFin p e below s _ _ Q (s₁.setTop (mkF m 45 #[.val (.int fl), .val (.int si), .val (.int pi), .val (.int oi), .val (.int v4), .val (.int v5), .val (.int v6), .unset, .unset, .unset, .unset, .unset, .unset] [(.int v6), (.int v5), (.int v4)]))
              obtain ⟨_, _, ⟨T24, L24, k24, n24⟩, -, X24, ⟨Lc24, hQ24, l24, y24, z24⟩, st24⟩ := Jvm.LawKit.callS X0 hx (y := (⟨"com/example/triplewright/triplewright/store/TripleOrder", "serving", "(III)Lcom/example/triplewright/triplewright/store/TripleOrder;"⟩ : MethodName)) hown (mvT hZ (hw _ (List.mem_of_getElem? (i := 0) rfl))) (mvT hZ (hw _ (List.mem_of_getElem? (i := 1) rfl))) (mvT hZ (hw _ (List.mem_of_getElem? (i := 2) rfl))) (mvT hZ (hw _ (List.mem_of_getElem? (i := 3) rfl))) (by decide) (backOf (W := 0) (rm1 l Z a0 hw [] v4 v5 v6 a_SPO a_POS a_OSP h0 n0 Z0 S_SPO S_POS S_OSP) hZ (hw _ (List.mem_of_getElem? (i := 3) rfl)) (hw _ (List.mem_of_getElem? (i := 2) rfl)) (by decide) (by decide)) (g := (mkF m 45 #[.val (.int fl), .val (.int si), .val (.int pi), .val (.int oi), .val (.int v4), .val (.int v5), .val (.int v6), .unset, .unset, .unset, .unset, .unset, .unset] [(.int v6), (.int v5), (.int v4)])) rfl (by rw [hml]; rfl) (argsL := [(.int v4), (.int v5), (.int v6)]) (rest := []) (lenOf pd0_0 rfl) rfl (by show 2 * 0 + _ ≤ _; exact Nat.le_of_eq rfl) (hb hby at_45) (fun _ _ => ⟨rfl, e0, (by decide : 0 + 0 ≤ _), (by decide : 0 + 0 ≤ _)⟩)
              dsimp only [Pt.U, Pt.locs, Pt.cells, Pt.slots] at X24 l24 y24 z24 st24 hQ24
              subst l24 y24 z24
              obtain ⟨rfl, N24q, e24⟩ := hQ24
              have N24 := Fr.app N0 N24q
              refine OFin.back st24 ?_
              rw [show (own_srv v4 v5 v6 a_SPO a_POS a_OSP) = a_SPO from by simp [own_srv, hs1, hs22, hs23]]
              show OFin p e below s _ _ Q (T24.setTop (mkF m 48 #[.val (.int fl), .val (.int si), .val (.int pi), .val (.int oi), .val (.int v4), .val (.int v5), .val (.int v6), .unset, .unset, .unset, .unset, .unset, .unset] [(.ref a_SPO)]))
              refine OFin.back (fun _ hr => XS.astore X24.here hx rfl (hb hby at_48) rfl rfl (l' := #[.val (.int fl), .val (.int si), .val (.int pi), .val (.int oi), .val (.int v4), .val (.int v5), .val (.int v6), .val (.ref a_SPO), .unset, .unset, .unset, .unset, .unset]) rfl hr) ?_
              show OFin p e below s _ _ Q (T24.setTop (mkF m 50 #[.val (.int fl), .val (.int si), .val (.int pi), .val (.int oi), .val (.int v4), .val (.int v5), .val (.int v6), .val (.ref a_SPO), .unset, .unset, .unset, .unset, .unset] []))
              refine OFin.back (fun _ hr => XS.aload X24.here hx rfl (hb hby at_50) rfl rfl hr) ?_
              show OFin p e below s _ _ Q (T24.setTop (mkF m 52 #[.val (.int fl), .val (.int si), .val (.int pi), .val (.int oi), .val (.int v4), .val (.int v5), .val (.int v6), .val (.ref a_SPO), .unset, .unset, .unset, .unset, .unset] [(.ref a_SPO)]))
              refine OFin.back (fun _ hr => XS.ifnonnullYes X24.here hx rfl (pc0 := 52) (pc' := 57) rfl (hb hby at_52) rfl (by decide) (by decide) hr) ?_
              show OFin p e below s _ _ Q (T24.setTop (mkF m 57 #[.val (.int fl), .val (.int si), .val (.int pi), .val (.int oi), .val (.int v4), .val (.int v5), .val (.int v6), .val (.ref a_SPO), .unset, .unset, .unset, .unset, .unset] []))
              refine OFin.back (fun _ hr => XS.iload X24.here hx rfl (hb hby at_57) rfl hr) ?_
              show OFin p e below s _ _ Q (T24.setTop (mkF m 59 #[.val (.int fl), .val (.int si), .val (.int pi), .val (.int oi), .val (.int v4), .val (.int v5), .val (.int v6), .val (.ref a_SPO), .unset, .unset, .unset, .unset, .unset] [(.int v4)]))
              refine OFin.back (fun _ hr => XS.iconst X24.here hx rfl (hb hby at_59) hr) ?_
              show OFin p e below s _ _ Q (T24.setTop (mkF m 60 #[.val (.int fl), .val (.int si), .val (.int pi), .val (.int oi), .val (.int v4), .val (.int v5), .val (.int v6), .val (.ref a_SPO), .unset, .unset, .unset, .unset, .unset] [(.int (-1 : Int32)), (.int v4)]))
              refine OFin.back (fun _ hr => XS.icmpNo X24.here hx rfl (hb hby at_60) rfl (feq hs1).1 hr) ?_
              show OFin p e below s _ _ Q (T24.setTop (mkF m 63 #[.val (.int fl), .val (.int si), .val (.int pi), .val (.int oi), .val (.int v4), .val (.int v5), .val (.int v6), .val (.ref a_SPO), .unset, .unset, .unset, .unset, .unset] []))
              refine OFin.back (fun _ hr => XS.iconst X24.here hx rfl (hb hby at_63) hr) ?_
              show OFin p e below s _ _ Q (T24.setTop (mkF m 64 #[.val (.int fl), .val (.int si), .val (.int pi), .val (.int oi), .val (.int v4), .val (.int v5), .val (.int v6), .val (.ref a_SPO), .unset, .unset, .unset, .unset, .unset] [(.int (1 : Int32))]))
              refine OFin.back (fun _ hr => XS.goto X24.here hx rfl (pc0 := 64) (pc' := 68) rfl (hb hby at_64) (by decide) (by decide) hr) ?_
              show OFin p e below s _ _ Q (T24.setTop (mkF m 68 #[.val (.int fl), .val (.int si), .val (.int pi), .val (.int oi), .val (.int v4), .val (.int v5), .val (.int v6), .val (.ref a_SPO), .unset, .unset, .unset, .unset, .unset] [(.int (1 : Int32))]))
              refine OFin.back (fun _ hr => XS.istore X24.here hx rfl (hb hby at_68) rfl (l' := #[.val (.int fl), .val (.int si), .val (.int pi), .val (.int oi), .val (.int v4), .val (.int v5), .val (.int v6), .val (.ref a_SPO), .val (.int (1 : Int32)), .unset, .unset, .unset, .unset]) rfl hr) ?_
              show OFin p e below s _ _ Q (T24.setTop (mkF m 70 #[.val (.int fl), .val (.int si), .val (.int pi), .val (.int oi), .val (.int v4), .val (.int v5), .val (.int v6), .val (.ref a_SPO), .val (.int (1 : Int32)), .unset, .unset, .unset, .unset] []))
              refine OFin.back (fun _ hr => XS.iload X24.here hx rfl (hb hby at_70) rfl hr) ?_
              show OFin p e below s _ _ Q (T24.setTop (mkF m 72 #[.val (.int fl), .val (.int si), .val (.int pi), .val (.int oi), .val (.int v4), .val (.int v5), .val (.int v6), .val (.ref a_SPO), .val (.int (1 : Int32)), .unset, .unset, .unset, .unset] [(.int v5)]))
              refine OFin.back (fun _ hr => XS.iconst X24.here hx rfl (hb hby at_72) hr) ?_
              show OFin p e below s _ _ Q (T24.setTop (mkF m 73 #[.val (.int fl), .val (.int si), .val (.int pi), .val (.int oi), .val (.int v4), .val (.int v5), .val (.int v6), .val (.ref a_SPO), .val (.int (1 : Int32)), .unset, .unset, .unset, .unset] [(.int (-1 : Int32)), (.int v5)]))
              refine OFin.back (fun _ hr => XS.icmpYes X24.here hx rfl (pc0 := 73) (pc' := 80) rfl (hb hby at_73) rfl (teq hs22).1 (by decide) (by decide) hr) ?_
              show OFin p e below s _ _ Q (T24.setTop (mkF m 80 #[.val (.int fl), .val (.int si), .val (.int pi), .val (.int oi), .val (.int v4), .val (.int v5), .val (.int v6), .val (.ref a_SPO), .val (.int (1 : Int32)), .unset, .unset, .unset, .unset] []))
              refine OFin.back (fun _ hr => XS.iconst X24.here hx rfl (hb hby at_80) hr) ?_
              show OFin p e below s _ _ Q (T24.setTop (mkF m 81 #[.val (.int fl), .val (.int si), .val (.int pi), .val (.int oi), .val (.int v4), .val (.int v5), .val (.int v6), .val (.ref a_SPO), .val (.int (1 : Int32)), .unset, .unset, .unset, .unset] [(.int (0 : Int32))]))
              refine OFin.back (fun _ hr => XS.istore X24.here hx rfl (hb hby at_81) rfl (l' := #[.val (.int fl), .val (.int si), .val (.int pi), .val (.int oi), .val (.int v4), .val (.int v5), .val (.int v6), .val (.ref a_SPO), .val (.int (1 : Int32)), .val (.int (0 : Int32)), .unset, .unset, .unset]) rfl hr) ?_
              show OFin p e below s _ _ Q (T24.setTop (mkF m 83 #[.val (.int fl), .val (.int si), .val (.int pi), .val (.int oi), .val (.int v4), .val (.int v5), .val (.int v6), .val (.ref a_SPO), .val (.int (1 : Int32)), .val (.int (0 : Int32)), .unset, .unset, .unset] []))
              refine OFin.back (fun _ hr => XS.iload X24.here hx rfl (hb hby at_83) rfl hr) ?_
              show OFin p e below s _ _ Q (T24.setTop (mkF m 85 #[.val (.int fl), .val (.int si), .val (.int pi), .val (.int oi), .val (.int v4), .val (.int v5), .val (.int v6), .val (.ref a_SPO), .val (.int (1 : Int32)), .val (.int (0 : Int32)), .unset, .unset, .unset] [(.int v6)]))
              refine OFin.back (fun _ hr => XS.iconst X24.here hx rfl (hb hby at_85) hr) ?_
              show OFin p e below s _ _ Q (T24.setTop (mkF m 86 #[.val (.int fl), .val (.int si), .val (.int pi), .val (.int oi), .val (.int v4), .val (.int v5), .val (.int v6), .val (.ref a_SPO), .val (.int (1 : Int32)), .val (.int (0 : Int32)), .unset, .unset, .unset] [(.int (-1 : Int32)), (.int v6)]))
              refine OFin.back (fun _ hr => XS.icmpYes X24.here hx rfl (pc0 := 86) (pc' := 93) rfl (hb hby at_86) rfl (teq hs23).1 (by decide) (by decide) hr) ?_
              show OFin p e below s _ _ Q (T24.setTop (mkF m 93 #[.val (.int fl), .val (.int si), .val (.int pi), .val (.int oi), .val (.int v4), .val (.int v5), .val (.int v6), .val (.ref a_SPO), .val (.int (1 : Int32)), .val (.int (0 : Int32)), .unset, .unset, .unset] []))
              refine OFin.back (fun _ hr => XS.iconst X24.here hx rfl (hb hby at_93) hr) ?_
              show OFin p e below s _ _ Q (T24.setTop (mkF m 94 #[.val (.int fl), .val (.int si), .val (.int pi), .val (.int oi), .val (.int v4), .val (.int v5), .val (.int v6), .val (.ref a_SPO), .val (.int (1 : Int32)), .val (.int (0 : Int32)), .unset, .unset, .unset] [(.int (0 : Int32))]))
              refine OFin.back (fun _ hr => XS.istore X24.here hx rfl (hb hby at_94) rfl (l' := #[.val (.int fl), .val (.int si), .val (.int pi), .val (.int oi), .val (.int v4), .val (.int v5), .val (.int v6), .val (.ref a_SPO), .val (.int (1 : Int32)), .val (.int (0 : Int32)), .val (.int (0 : Int32)), .unset, .unset]) rfl hr) ?_
              show OFin p e below s _ _ Q (T24.setTop (mkF m 96 #[.val (.int fl), .val (.int si), .val (.int pi), .val (.int oi), .val (.int v4), .val (.int v5), .val (.int v6), .val (.ref a_SPO), .val (.int (1 : Int32)), .val (.int (0 : Int32)), .val (.int (0 : Int32)), .unset, .unset] []))
              refine OFin.back (fun _ hr => XS.iconst X24.here hx rfl (hb hby at_96) hr) ?_
              show OFin p e below s _ _ Q (T24.setTop (mkF m 97 #[.val (.int fl), .val (.int si), .val (.int pi), .val (.int oi), .val (.int v4), .val (.int v5), .val (.int v6), .val (.ref a_SPO), .val (.int (1 : Int32)), .val (.int (0 : Int32)), .val (.int (0 : Int32)), .unset, .unset] [(.int (0 : Int32))]))
              refine OFin.back (fun _ hr => XS.istore X24.here hx rfl (hb hby at_97) rfl (l' := #[.val (.int fl), .val (.int si), .val (.int pi), .val (.int oi), .val (.int v4), .val (.int v5), .val (.int v6), .val (.ref a_SPO), .val (.int (1 : Int32)), .val (.int (0 : Int32)), .val (.int (0 : Int32)), .val (.int (0 : Int32)), .unset]) rfl hr) ?_
              show OFin p e below s _ _ Q (T24.setTop (mkF m 99 #[.val (.int fl), .val (.int si), .val (.int pi), .val (.int oi), .val (.int v4), .val (.int v5), .val (.int v6), .val (.ref a_SPO), .val (.int (1 : Int32)), .val (.int (0 : Int32)), .val (.int (0 : Int32)), .val (.int (0 : Int32)), .unset] []))
              refine OFin.back (fun _ hr => XS.iload X24.here hx rfl (hb hby at_99) rfl hr) ?_
              show OFin p e below s _ _ Q (T24.setTop (mkF m 101 #[.val (.int fl), .val (.int si), .val (.int pi), .val (.int oi), .val (.int v4), .val (.int v5), .val (.int v6), .val (.ref a_SPO), .val (.int (1 : Int32)), .val (.int (0 : Int32)), .val (.int (0 : Int32)), .val (.int (0 : Int32)), .unset] [(.int (1 : Int32))]))
              refine OFin.back (fun _ hr => XS.ifNo X24.here hx rfl (hb hby at_101) rfl ((if0 _ _).trans (feq (by decide : ¬ ((1 : Int32) = (0 : Int32)))).1) hr) ?_
              show OFin p e below s _ _ Q (T24.setTop (mkF m 104 #[.val (.int fl), .val (.int si), .val (.int pi), .val (.int oi), .val (.int v4), .val (.int v5), .val (.int v6), .val (.ref a_SPO), .val (.int (1 : Int32)), .val (.int (0 : Int32)), .val (.int (0 : Int32)), .val (.int (0 : Int32)), .unset] []))
              refine OFin.back (fun _ hr => XS.iload X24.here hx rfl (hb hby at_104) rfl hr) ?_
              show OFin p e below s _ _ Q (T24.setTop (mkF m 106 #[.val (.int fl), .val (.int si), .val (.int pi), .val (.int oi), .val (.int v4), .val (.int v5), .val (.int v6), .val (.ref a_SPO), .val (.int (1 : Int32)), .val (.int (0 : Int32)), .val (.int (0 : Int32)), .val (.int (0 : Int32)), .unset] [(.int (0 : Int32))]))
              refine OFin.back (fun _ hr => XS.iconst X24.here hx rfl (hb hby at_106) hr) ?_
              show OFin p e below s _ _ Q (T24.setTop (mkF m 107 #[.val (.int fl), .val (.int si), .val (.int pi), .val (.int oi), .val (.int v4), .val (.int v5), .val (.int v6), .val (.ref a_SPO), .val (.int (1 : Int32)), .val (.int (0 : Int32)), .val (.int (0 : Int32)), .val (.int (0 : Int32)), .unset] [(.int (1 : Int32)), (.int (0 : Int32))]))
              refine OFin.back (fun _ hr => XS.iadd X24.here hx rfl (hb hby at_107) rfl hr) ?_
              show OFin p e below s _ _ Q (T24.setTop (mkF m 108 #[.val (.int fl), .val (.int si), .val (.int pi), .val (.int oi), .val (.int v4), .val (.int v5), .val (.int v6), .val (.ref a_SPO), .val (.int (1 : Int32)), .val (.int (0 : Int32)), .val (.int (0 : Int32)), .val (.int (0 : Int32)), .unset] [(.int (1 : Int32))]))
              refine OFin.back (fun _ hr => XS.istore X24.here hx rfl (hb hby at_108) rfl (l' := #[.val (.int fl), .val (.int si), .val (.int pi), .val (.int oi), .val (.int v4), .val (.int v5), .val (.int v6), .val (.ref a_SPO), .val (.int (1 : Int32)), .val (.int (0 : Int32)), .val (.int (0 : Int32)), .val (.int (1 : Int32)), .unset]) rfl hr) ?_
              show OFin p e below s _ _ Q (T24.setTop (mkF m 110 #[.val (.int fl), .val (.int si), .val (.int pi), .val (.int oi), .val (.int v4), .val (.int v5), .val (.int v6), .val (.ref a_SPO), .val (.int (1 : Int32)), .val (.int (0 : Int32)), .val (.int (0 : Int32)), .val (.int (1 : Int32)), .unset] []))
              refine OFin.back (fun _ hr => XS.iload X24.here hx rfl (hb hby at_110) rfl hr) ?_
              show OFin p e below s _ _ Q (T24.setTop (mkF m 112 #[.val (.int fl), .val (.int si), .val (.int pi), .val (.int oi), .val (.int v4), .val (.int v5), .val (.int v6), .val (.ref a_SPO), .val (.int (1 : Int32)), .val (.int (0 : Int32)), .val (.int (0 : Int32)), .val (.int (1 : Int32)), .unset] [(.int (0 : Int32))]))
              refine OFin.back (fun _ hr => XS.ifYes X24.here hx rfl (pc0 := 112) (pc' := 121) rfl (hb hby at_112) rfl ((if0 _ _).trans (teq (by decide : (0 : Int32) = (0 : Int32))).1) (by decide) (by decide) hr) ?_
              show OFin p e below s _ _ Q (T24.setTop (mkF m 121 #[.val (.int fl), .val (.int si), .val (.int pi), .val (.int oi), .val (.int v4), .val (.int v5), .val (.int v6), .val (.ref a_SPO), .val (.int (1 : Int32)), .val (.int (0 : Int32)), .val (.int (0 : Int32)), .val (.int (1 : Int32)), .unset] []))
              refine OFin.back (fun _ hr => XS.iload X24.here hx rfl (hb hby at_121) rfl hr) ?_
              show OFin p e below s _ _ Q (T24.setTop (mkF m 123 #[.val (.int fl), .val (.int si), .val (.int pi), .val (.int oi), .val (.int v4), .val (.int v5), .val (.int v6), .val (.ref a_SPO), .val (.int (1 : Int32)), .val (.int (0 : Int32)), .val (.int (0 : Int32)), .val (.int (1 : Int32)), .unset] [(.int (0 : Int32))]))
              refine OFin.back (fun _ hr => XS.ifYes X24.here hx rfl (pc0 := 123) (pc' := 132) rfl (hb hby at_123) rfl ((if0 _ _).trans (teq (by decide : (0 : Int32) = (0 : Int32))).1) (by decide) (by decide) hr) ?_
              show OFin p e below s _ _ Q (T24.setTop (mkF m 132 #[.val (.int fl), .val (.int si), .val (.int pi), .val (.int oi), .val (.int v4), .val (.int v5), .val (.int v6), .val (.ref a_SPO), .val (.int (1 : Int32)), .val (.int (0 : Int32)), .val (.int (0 : Int32)), .val (.int (1 : Int32)), .unset] []))
              refine OFin.back (fun _ hr => XS.iload X24.here hx rfl (hb hby at_132) rfl hr) ?_
              show OFin p e below s _ _ Q (T24.setTop (mkF m 134 #[.val (.int fl), .val (.int si), .val (.int pi), .val (.int oi), .val (.int v4), .val (.int v5), .val (.int v6), .val (.ref a_SPO), .val (.int (1 : Int32)), .val (.int (0 : Int32)), .val (.int (0 : Int32)), .val (.int (1 : Int32)), .unset] [(.int (1 : Int32))]))
              refine OFin.back (fun _ hr => XS.aload X24.here hx rfl (hb hby at_134) rfl rfl hr) ?_
              show OFin p e below s _ _ Q (T24.setTop (mkF m 136 #[.val (.int fl), .val (.int si), .val (.int pi), .val (.int oi), .val (.int v4), .val (.int v5), .val (.int v6), .val (.ref a_SPO), .val (.int (1 : Int32)), .val (.int (0 : Int32)), .val (.int (0 : Int32)), .val (.int (1 : Int32)), .unset] [(.ref a_SPO), (.int (1 : Int32))]))
              obtain ⟨cq25, kq25, q25a, q25b, q25c⟩ := isOf hZ e24 E_SPO
              obtain ⟨_, _, ⟨T25, L25, k25, n25⟩, -, X25, ⟨Lc25, hQ25, l25, y25, z25⟩, st25⟩ := X24.virtualBack hx (y := (⟨"com/example/triplewright/triplewright/store/TripleOrder", "subjectColumn", "()I"⟩ : MethodName)) (z := (⟨"com/example/triplewright/triplewright/store/TripleOrder", "subjectColumn", "()I"⟩ : MethodName)) hown (mvT hZ (hw _ (List.mem_of_getElem? (i := 6) rfl))) (mvT hZ (hw _ (List.mem_of_getElem? (i := 7) rfl))) (notFace_of_selects (args := #[]) (mvT hZ (hw _ (List.mem_of_getElem? (i := 9) rfl)))) (mvT hZ (hw _ (List.mem_of_getElem? (i := 9) rfl))) (mvT hZ (hw _ (List.mem_of_getElem? (i := 8) rfl))) (by decide) (backOf (W := 1) (rm2 l Z a0 hw [] a_SPO (0 : Int32) h0 n0 Z0 F_SPO_subjectColumn) hZ (hw _ (List.mem_of_getElem? (i := 10) rfl)) (hw _ (List.mem_of_getElem? (i := 2) rfl)) (by decide) (by decide)) q25a q25c (g := (mkF m 136 #[.val (.int fl), .val (.int si), .val (.int pi), .val (.int oi), .val (.int v4), .val (.int v5), .val (.int v6), .val (.ref a_SPO), .val (.int (1 : Int32)), .val (.int (0 : Int32)), .val (.int (0 : Int32)), .val (.int (1 : Int32)), .unset] [(.ref a_SPO), (.int (1 : Int32))])) rfl (by rw [hml]; rfl) (Steps.refl _) (argsL := []) (rest := [(.int (1 : Int32))]) (lenOf pd0_1 rfl) rfl (by show 2 * 0 + _ ≤ _; exact Nat.le_of_eq rfl) (hb hby at_136) (fun _ _ => ⟨rfl, e24, (by decide : 0 + 0 ≤ _), (by decide : 0 + 0 ≤ _)⟩)
              dsimp only [Pt.U, Pt.locs, Pt.cells, Pt.slots] at X25 l25 y25 z25 st25 hQ25
              subst l25 y25 z25
              obtain ⟨rfl, N25q, e25⟩ := hQ25
              have N25 := Fr.app N24 N25q
              refine OFin.via st25 ?_
              show OFin p e below s _ _ Q (T25.setTop (mkF m 139 #[.val (.int fl), .val (.int si), .val (.int pi), .val (.int oi), .val (.int v4), .val (.int v5), .val (.int v6), .val (.ref a_SPO), .val (.int (1 : Int32)), .val (.int (0 : Int32)), .val (.int (0 : Int32)), .val (.int (1 : Int32)), .unset] [(.int (0 : Int32)), (.int (1 : Int32))]))
              refine OFin.back (fun _ hr => XS.iload X25.here hx rfl (hb hby at_139) rfl hr) ?_
              show OFin p e below s _ _ Q (T25.setTop (mkF m 141 #[.val (.int fl), .val (.int si), .val (.int pi), .val (.int oi), .val (.int v4), .val (.int v5), .val (.int v6), .val (.ref a_SPO), .val (.int (1 : Int32)), .val (.int (0 : Int32)), .val (.int (0 : Int32)), .val (.int (1 : Int32)), .unset] [(.int (1 : Int32)), (.int (0 : Int32)), (.int (1 : Int32))]))
              refine OFin.back (fun _ hr => XS.icmpNo X25.here hx rfl (hb hby at_141) rfl (tlt (by decide : (0 : Int32) < (1 : Int32))).2.1 hr) ?_
              show OFin p e below s _ _ Q (T25.setTop (mkF m 144 #[.val (.int fl), .val (.int si), .val (.int pi), .val (.int oi), .val (.int v4), .val (.int v5), .val (.int v6), .val (.ref a_SPO), .val (.int (1 : Int32)), .val (.int (0 : Int32)), .val (.int (0 : Int32)), .val (.int (1 : Int32)), .unset] [(.int (1 : Int32))]))
              refine OFin.back (fun _ hr => XS.iconst X25.here hx rfl (hb hby at_144) hr) ?_
              show OFin p e below s _ _ Q (T25.setTop (mkF m 145 #[.val (.int fl), .val (.int si), .val (.int pi), .val (.int oi), .val (.int v4), .val (.int v5), .val (.int v6), .val (.ref a_SPO), .val (.int (1 : Int32)), .val (.int (0 : Int32)), .val (.int (0 : Int32)), .val (.int (1 : Int32)), .unset] [(.int (1 : Int32)), (.int (1 : Int32))]))
              refine OFin.back (fun _ hr => XS.goto X25.here hx rfl (pc0 := 145) (pc' := 149) rfl (hb hby at_145) (by decide) (by decide) hr) ?_
              show OFin p e below s _ _ Q (T25.setTop (mkF m 149 #[.val (.int fl), .val (.int si), .val (.int pi), .val (.int oi), .val (.int v4), .val (.int v5), .val (.int v6), .val (.ref a_SPO), .val (.int (1 : Int32)), .val (.int (0 : Int32)), .val (.int (0 : Int32)), .val (.int (1 : Int32)), .unset] [(.int (1 : Int32)), (.int (1 : Int32))]))
              refine OFin.back (fun _ hr => XS.icmpNo X25.here hx rfl (hb hby at_149) rfl (teq (by decide : (1 : Int32) = (1 : Int32))).2 hr) ?_
              show OFin p e below s _ _ Q (T25.setTop (mkF m 152 #[.val (.int fl), .val (.int si), .val (.int pi), .val (.int oi), .val (.int v4), .val (.int v5), .val (.int v6), .val (.ref a_SPO), .val (.int (1 : Int32)), .val (.int (0 : Int32)), .val (.int (0 : Int32)), .val (.int (1 : Int32)), .unset] []))
              refine OFin.back (fun _ hr => XS.iload X25.here hx rfl (hb hby at_152) rfl hr) ?_
              show OFin p e below s _ _ Q (T25.setTop (mkF m 154 #[.val (.int fl), .val (.int si), .val (.int pi), .val (.int oi), .val (.int v4), .val (.int v5), .val (.int v6), .val (.ref a_SPO), .val (.int (1 : Int32)), .val (.int (0 : Int32)), .val (.int (0 : Int32)), .val (.int (1 : Int32)), .unset] [(.int (0 : Int32))]))
              refine OFin.back (fun _ hr => XS.aload X25.here hx rfl (hb hby at_154) rfl rfl hr) ?_
              show OFin p e below s _ _ Q (T25.setTop (mkF m 156 #[.val (.int fl), .val (.int si), .val (.int pi), .val (.int oi), .val (.int v4), .val (.int v5), .val (.int v6), .val (.ref a_SPO), .val (.int (1 : Int32)), .val (.int (0 : Int32)), .val (.int (0 : Int32)), .val (.int (1 : Int32)), .unset] [(.ref a_SPO), (.int (0 : Int32))]))
              obtain ⟨cq26, kq26, q26a, q26b, q26c⟩ := isOf hZ e25 E_SPO
              obtain ⟨_, _, ⟨T26, L26, k26, n26⟩, -, X26, ⟨Lc26, hQ26, l26, y26, z26⟩, st26⟩ := X25.virtualBack hx (y := (⟨"com/example/triplewright/triplewright/store/TripleOrder", "predicateColumn", "()I"⟩ : MethodName)) (z := (⟨"com/example/triplewright/triplewright/store/TripleOrder", "predicateColumn", "()I"⟩ : MethodName)) hown (mvT hZ (hw _ (List.mem_of_getElem? (i := 13) rfl))) (mvT hZ (hw _ (List.mem_of_getElem? (i := 14) rfl))) (notFace_of_selects (args := #[]) (mvT hZ (hw _ (List.mem_of_getElem? (i := 16) rfl)))) (mvT hZ (hw _ (List.mem_of_getElem? (i := 16) rfl))) (mvT hZ (hw _ (List.mem_of_getElem? (i := 15) rfl))) (by decide) (backOf (W := 1) (rm3 l Z a0 hw [] a_SPO (1 : Int32) h0 n0 Z0 F_SPO_predicateColumn) hZ (hw _ (List.mem_of_getElem? (i := 17) rfl)) (hw _ (List.mem_of_getElem? (i := 2) rfl)) (by decide) (by decide)) q26a q26c (g := (mkF m 156 #[.val (.int fl), .val (.int si), .val (.int pi), .val (.int oi), .val (.int v4), .val (.int v5), .val (.int v6), .val (.ref a_SPO), .val (.int (1 : Int32)), .val (.int (0 : Int32)), .val (.int (0 : Int32)), .val (.int (1 : Int32)), .unset] [(.ref a_SPO), (.int (0 : Int32))])) rfl (by rw [hml]; rfl) (Steps.refl _) (argsL := []) (rest := [(.int (0 : Int32))]) (lenOf pd0_1 rfl) rfl (by show 2 * 0 + _ ≤ _; exact Nat.le_of_eq rfl) (hb hby at_156) (fun _ _ => ⟨rfl, e25, (by decide : 0 + 0 ≤ _), (by decide : 0 + 0 ≤ _)⟩)
              dsimp only [Pt.U, Pt.locs, Pt.cells, Pt.slots] at X26 l26 y26 z26 st26 hQ26
              subst l26 y26 z26
              obtain ⟨rfl, N26q, e26⟩ := hQ26
              have N26 := Fr.app N25 N26q
              refine OFin.via st26 ?_
              show OFin p e below s _ _ Q (T26.setTop (mkF m 159 #[.val (.int fl), .val (.int si), .val (.int pi), .val (.int oi), .val (.int v4), .val (.int v5), .val (.int v6), .val (.ref a_SPO), .val (.int (1 : Int32)), .val (.int (0 : Int32)), .val (.int (0 : Int32)), .val (.int (1 : Int32)), .unset] [(.int (1 : Int32)), (.int (0 : Int32))]))
              refine OFin.back (fun _ hr => XS.iload X26.here hx rfl (hb hby at_159) rfl hr) ?_
              show OFin p e below s _ _ Q (T26.setTop (mkF m 161 #[.val (.int fl), .val (.int si), .val (.int pi), .val (.int oi), .val (.int v4), .val (.int v5), .val (.int v6), .val (.ref a_SPO), .val (.int (1 : Int32)), .val (.int (0 : Int32)), .val (.int (0 : Int32)), .val (.int (1 : Int32)), .unset] [(.int (1 : Int32)), (.int (1 : Int32)), (.int (0 : Int32))]))
              refine OFin.back (fun _ hr => XS.icmpYes X26.here hx rfl (pc0 := 161) (pc' := 168) rfl (hb hby at_161) rfl (flt (by decide : ¬ ((1 : Int32) < (1 : Int32)))).2.1 (by decide) (by decide) hr) ?_
              show OFin p e below s _ _ Q (T26.setTop (mkF m 168 #[.val (.int fl), .val (.int si), .val (.int pi), .val (.int oi), .val (.int v4), .val (.int v5), .val (.int v6), .val (.ref a_SPO), .val (.int (1 : Int32)), .val (.int (0 : Int32)), .val (.int (0 : Int32)), .val (.int (1 : Int32)), .unset] [(.int (0 : Int32))]))
              refine OFin.back (fun _ hr => XS.iconst X26.here hx rfl (hb hby at_168) hr) ?_
              show OFin p e below s _ _ Q (T26.setTop (mkF m 169 #[.val (.int fl), .val (.int si), .val (.int pi), .val (.int oi), .val (.int v4), .val (.int v5), .val (.int v6), .val (.ref a_SPO), .val (.int (1 : Int32)), .val (.int (0 : Int32)), .val (.int (0 : Int32)), .val (.int (1 : Int32)), .unset] [(.int (0 : Int32)), (.int (0 : Int32))]))
              refine OFin.back (fun _ hr => XS.icmpNo X26.here hx rfl (hb hby at_169) rfl (teq (by decide : (0 : Int32) = (0 : Int32))).2 hr) ?_
              show OFin p e below s _ _ Q (T26.setTop (mkF m 172 #[.val (.int fl), .val (.int si), .val (.int pi), .val (.int oi), .val (.int v4), .val (.int v5), .val (.int v6), .val (.ref a_SPO), .val (.int (1 : Int32)), .val (.int (0 : Int32)), .val (.int (0 : Int32)), .val (.int (1 : Int32)), .unset] []))
              refine OFin.back (fun _ hr => XS.iload X26.here hx rfl (hb hby at_172) rfl hr) ?_
              show OFin p e below s _ _ Q (T26.setTop (mkF m 174 #[.val (.int fl), .val (.int si), .val (.int pi), .val (.int oi), .val (.int v4), .val (.int v5), .val (.int v6), .val (.ref a_SPO), .val (.int (1 : Int32)), .val (.int (0 : Int32)), .val (.int (0 : Int32)), .val (.int (1 : Int32)), .unset] [(.int (0 : Int32))]))
              refine OFin.back (fun _ hr => XS.aload X26.here hx rfl (hb hby at_174) rfl rfl hr) ?_
              show OFin p e below s _ _ Q (T26.setTop (mkF m 176 #[.val (.int fl), .val (.int si), .val (.int pi), .val (.int oi), .val (.int v4), .val (.int v5), .val (.int v6), .val (.ref a_SPO), .val (.int (1 : Int32)), .val (.int (0 : Int32)), .val (.int (0 : Int32)), .val (.int (1 : Int32)), .unset] [(.ref a_SPO), (.int (0 : Int32))]))
              obtain ⟨cq27, kq27, q27a, q27b, q27c⟩ := isOf hZ e26 E_SPO
              obtain ⟨_, _, ⟨T27, L27, k27, n27⟩, -, X27, ⟨Lc27, hQ27, l27, y27, z27⟩, st27⟩ := X26.virtualBack hx (y := (⟨"com/example/triplewright/triplewright/store/TripleOrder", "objectColumn", "()I"⟩ : MethodName)) (z := (⟨"com/example/triplewright/triplewright/store/TripleOrder", "objectColumn", "()I"⟩ : MethodName)) hown (mvT hZ (hw _ (List.mem_of_getElem? (i := 20) rfl))) (mvT hZ (hw _ (List.mem_of_getElem? (i := 21) rfl))) (notFace_of_selects (args := #[]) (mvT hZ (hw _ (List.mem_of_getElem? (i := 23) rfl)))) (mvT hZ (hw _ (List.mem_of_getElem? (i := 23) rfl))) (mvT hZ (hw _ (List.mem_of_getElem? (i := 22) rfl))) (by decide) (backOf (W := 1) (rm4 l Z a0 hw [] a_SPO (2 : Int32) h0 n0 Z0 F_SPO_objectColumn) hZ (hw _ (List.mem_of_getElem? (i := 24) rfl)) (hw _ (List.mem_of_getElem? (i := 2) rfl)) (by decide) (by decide)) q27a q27c (g := (mkF m 176 #[.val (.int fl), .val (.int si), .val (.int pi), .val (.int oi), .val (.int v4), .val (.int v5), .val (.int v6), .val (.ref a_SPO), .val (.int (1 : Int32)), .val (.int (0 : Int32)), .val (.int (0 : Int32)), .val (.int (1 : Int32)), .unset] [(.ref a_SPO), (.int (0 : Int32))])) rfl (by rw [hml]; rfl) (Steps.refl _) (argsL := []) (rest := [(.int (0 : Int32))]) (lenOf pd0_1 rfl) rfl (by show 2 * 0 + _ ≤ _; exact Nat.le_of_eq rfl) (hb hby at_176) (fun _ _ => ⟨rfl, e26, (by decide : 0 + 0 ≤ _), (by decide : 0 + 0 ≤ _)⟩)
              dsimp only [Pt.U, Pt.locs, Pt.cells, Pt.slots] at X27 l27 y27 z27 st27 hQ27
              subst l27 y27 z27
              obtain ⟨rfl, N27q, e27⟩ := hQ27
              have N27 := Fr.app N26 N27q
              refine OFin.via st27 ?_
              show OFin p e below s _ _ Q (T27.setTop (mkF m 179 #[.val (.int fl), .val (.int si), .val (.int pi), .val (.int oi), .val (.int v4), .val (.int v5), .val (.int v6), .val (.ref a_SPO), .val (.int (1 : Int32)), .val (.int (0 : Int32)), .val (.int (0 : Int32)), .val (.int (1 : Int32)), .unset] [(.int (2 : Int32)), (.int (0 : Int32))]))
              refine OFin.back (fun _ hr => XS.iload X27.here hx rfl (hb hby at_179) rfl hr) ?_
              show OFin p e below s _ _ Q (T27.setTop (mkF m 181 #[.val (.int fl), .val (.int si), .val (.int pi), .val (.int oi), .val (.int v4), .val (.int v5), .val (.int v6), .val (.ref a_SPO), .val (.int (1 : Int32)), .val (.int (0 : Int32)), .val (.int (0 : Int32)), .val (.int (1 : Int32)), .unset] [(.int (1 : Int32)), (.int (2 : Int32)), (.int (0 : Int32))]))
              refine OFin.back (fun _ hr => XS.icmpYes X27.here hx rfl (pc0 := 181) (pc' := 188) rfl (hb hby at_181) rfl (flt (by decide : ¬ ((2 : Int32) < (1 : Int32)))).2.1 (by decide) (by decide) hr) ?_
              show OFin p e below s _ _ Q (T27.setTop (mkF m 188 #[.val (.int fl), .val (.int si), .val (.int pi), .val (.int oi), .val (.int v4), .val (.int v5), .val (.int v6), .val (.ref a_SPO), .val (.int (1 : Int32)), .val (.int (0 : Int32)), .val (.int (0 : Int32)), .val (.int (1 : Int32)), .unset] [(.int (0 : Int32))]))
              refine OFin.back (fun _ hr => XS.iconst X27.here hx rfl (hb hby at_188) hr) ?_
              show OFin p e below s _ _ Q (T27.setTop (mkF m 189 #[.val (.int fl), .val (.int si), .val (.int pi), .val (.int oi), .val (.int v4), .val (.int v5), .val (.int v6), .val (.ref a_SPO), .val (.int (1 : Int32)), .val (.int (0 : Int32)), .val (.int (0 : Int32)), .val (.int (1 : Int32)), .unset] [(.int (0 : Int32)), (.int (0 : Int32))]))
              refine OFin.back (fun _ hr => XS.icmpNo X27.here hx rfl (hb hby at_189) rfl (teq (by decide : (0 : Int32) = (0 : Int32))).2 hr) ?_
              show OFin p e below s _ _ Q (T27.setTop (mkF m 192 #[.val (.int fl), .val (.int si), .val (.int pi), .val (.int oi), .val (.int v4), .val (.int v5), .val (.int v6), .val (.ref a_SPO), .val (.int (1 : Int32)), .val (.int (0 : Int32)), .val (.int (0 : Int32)), .val (.int (1 : Int32)), .unset] []))
              refine OFin.back (fun _ hr => XS.iconst X27.here hx rfl (hb hby at_192) hr) ?_
              show OFin p e below s _ _ Q (T27.setTop (mkF m 193 #[.val (.int fl), .val (.int si), .val (.int pi), .val (.int oi), .val (.int v4), .val (.int v5), .val (.int v6), .val (.ref a_SPO), .val (.int (1 : Int32)), .val (.int (0 : Int32)), .val (.int (0 : Int32)), .val (.int (1 : Int32)), .unset] [(.int (1 : Int32))]))
              refine OFin.back (fun _ hr => XS.goto X27.here hx rfl (pc0 := 193) (pc' := 197) rfl (hb hby at_193) (by decide) (by decide) hr) ?_
              show OFin p e below s _ _ Q (T27.setTop (mkF m 197 #[.val (.int fl), .val (.int si), .val (.int pi), .val (.int oi), .val (.int v4), .val (.int v5), .val (.int v6), .val (.ref a_SPO), .val (.int (1 : Int32)), .val (.int (0 : Int32)), .val (.int (0 : Int32)), .val (.int (1 : Int32)), .unset] [(.int (1 : Int32))]))
              refine OFin.back (fun _ hr => XS.istore X27.here hx rfl (hb hby at_197) rfl (l' := #[.val (.int fl), .val (.int si), .val (.int pi), .val (.int oi), .val (.int v4), .val (.int v5), .val (.int v6), .val (.ref a_SPO), .val (.int (1 : Int32)), .val (.int (0 : Int32)), .val (.int (0 : Int32)), .val (.int (1 : Int32)), .val (.int (1 : Int32))]) rfl hr) ?_
              show OFin p e below s _ _ Q (T27.setTop (mkF m 199 #[.val (.int fl), .val (.int si), .val (.int pi), .val (.int oi), .val (.int v4), .val (.int v5), .val (.int v6), .val (.ref a_SPO), .val (.int (1 : Int32)), .val (.int (0 : Int32)), .val (.int (0 : Int32)), .val (.int (1 : Int32)), .val (.int (1 : Int32))] []))
              refine OFin.back (fun _ hr => XS.iload X27.here hx rfl (hb hby at_199) rfl hr) ?_
              show OFin p e below s _ _ Q (T27.setTop (mkF m 201 #[.val (.int fl), .val (.int si), .val (.int pi), .val (.int oi), .val (.int v4), .val (.int v5), .val (.int v6), .val (.ref a_SPO), .val (.int (1 : Int32)), .val (.int (0 : Int32)), .val (.int (0 : Int32)), .val (.int (1 : Int32)), .val (.int (1 : Int32))] [(.int (1 : Int32))]))
              refine OFin.back (fun _ hr => XS.iconst X27.here hx rfl (hb hby at_201) hr) ?_
              show OFin p e below s _ _ Q (T27.setTop (mkF m 202 #[.val (.int fl), .val (.int si), .val (.int pi), .val (.int oi), .val (.int v4), .val (.int v5), .val (.int v6), .val (.ref a_SPO), .val (.int (1 : Int32)), .val (.int (0 : Int32)), .val (.int (0 : Int32)), .val (.int (1 : Int32)), .val (.int (1 : Int32))] [(.int (3 : Int32)), (.int (1 : Int32))]))
              refine OFin.back (fun _ hr => XS.icmpYes X27.here hx rfl (pc0 := 202) (pc' := 224) rfl (hb hby at_202) rfl (feq (by decide : ¬ ((1 : Int32) = (3 : Int32)))).2 (by decide) (by decide) hr) ?_
              show OFin p e below s _ _ Q (T27.setTop (mkF m 224 #[.val (.int fl), .val (.int si), .val (.int pi), .val (.int oi), .val (.int v4), .val (.int v5), .val (.int v6), .val (.ref a_SPO), .val (.int (1 : Int32)), .val (.int (0 : Int32)), .val (.int (0 : Int32)), .val (.int (1 : Int32)), .val (.int (1 : Int32))] []))
              refine OFin.back (fun _ hr => XS.iload X27.here hx rfl (hb hby at_224) rfl hr) ?_
              show OFin p e below s _ _ Q (T27.setTop (mkF m 226 #[.val (.int fl), .val (.int si), .val (.int pi), .val (.int oi), .val (.int v4), .val (.int v5), .val (.int v6), .val (.ref a_SPO), .val (.int (1 : Int32)), .val (.int (0 : Int32)), .val (.int (0 : Int32)), .val (.int (1 : Int32)), .val (.int (1 : Int32))] [(.int (1 : Int32))]))
              refine OFin.back (fun _ hr => XS.ifYes X27.here hx rfl (pc0 := 226) (pc' := 248) rfl (hb hby at_226) rfl ((if0 _ _).trans (feq (by decide : ¬ ((1 : Int32) = (0 : Int32)))).2) (by decide) (by decide) hr) ?_
              show OFin p e below s _ _ Q (T27.setTop (mkF m 248 #[.val (.int fl), .val (.int si), .val (.int pi), .val (.int oi), .val (.int v4), .val (.int v5), .val (.int v6), .val (.ref a_SPO), .val (.int (1 : Int32)), .val (.int (0 : Int32)), .val (.int (0 : Int32)), .val (.int (1 : Int32)), .val (.int (1 : Int32))] []))
              refine OFin.back (fun _ hr => XS.iload X27.here hx rfl (hb hby at_248) rfl hr) ?_
              show OFin p e below s _ _ Q (T27.setTop (mkF m 250 #[.val (.int fl), .val (.int si), .val (.int pi), .val (.int oi), .val (.int v4), .val (.int v5), .val (.int v6), .val (.ref a_SPO), .val (.int (1 : Int32)), .val (.int (0 : Int32)), .val (.int (0 : Int32)), .val (.int (1 : Int32)), .val (.int (1 : Int32))] [(.int (1 : Int32))]))
              exact OFin.outN (t := .boolean) X27 hx Bd.returns (by simp) Bd.notSynchronized (hb hby at_250) (by decide) (by decide) e27 (by rw [hQ]; exact ⟨rfl, N27⟩)
            · -- not v6 = (-1 : Int32)
              refine OFin.back (fun _ hr => XS.iload X0.here hx rfl (hb hby at_39) rfl hr) ?_
              show OFin p e below s _ _ Q (s₁.setTop (mkF m 41 #[.val (.int fl), .val (.int si), .val (.int pi), .val (.int oi), .val (.int v4), .val (.int v5), .val (.int v6), .unset, .unset, .unset, .unset, .unset, .unset] [(.int v4)]))
              refine OFin.back (fun _ hr => XS.iload X0.here hx rfl (hb hby at_41) rfl hr) ?_
              show OFin p e below s _ _ Q (s₁.setTop (mkF m 43 #[.val (.int fl), .val (.int si), .val (.int pi), .val (.int oi), .val (.int v4), .val (.int v5), .val (.int v6), .unset, .unset, .unset, .unset, .unset, .unset] [(.int v5), (.int v4)]))
              refine OFin.back (fun _ hr => XS.iload X0.here hx rfl (hb hby at_43) rfl hr) ?_
              show OFin p e below s _ _ Q (s₁.setTop (mkF m 45 #[.val (.int fl), .val (.int si), .val (.int pi), .val (.int oi), .val (.int v4), .val (.int v5), .val (.int v6), .unset, .unset, .unset, .unset, .unset, .unset] [(.int v6), (.int v5), (.int v4)]))
              obtain ⟨_, _, ⟨T28, L28, k28, n28⟩, -, X28, ⟨Lc28, hQ28, l28, y28, z28⟩, st28⟩ := Jvm.LawKit.callS X0 hx (y := (⟨"com/example/triplewright/triplewright/store/TripleOrder", "serving", "(III)Lcom/example/triplewright/triplewright/store/TripleOrder;"⟩ : MethodName)) hown (mvT hZ (hw _ (List.mem_of_getElem? (i := 0) rfl))) (mvT hZ (hw _ (List.mem_of_getElem? (i := 1) rfl))) (mvT hZ (hw _ (List.mem_of_getElem? (i := 2) rfl))) (mvT hZ (hw _ (List.mem_of_getElem? (i := 3) rfl))) (by decide) (backOf (W := 0) (rm1 l Z a0 hw [] v4 v5 v6 a_SPO a_POS a_OSP h0 n0 Z0 S_SPO S_POS S_OSP) hZ (hw _ (List.mem_of_getElem? (i := 3) rfl)) (hw _ (List.mem_of_getElem? (i := 2) rfl)) (by decide) (by decide)) (g := (mkF m 45 #[.val (.int fl), .val (.int si), .val (.int pi), .val (.int oi), .val (.int v4), .val (.int v5), .val (.int v6), .unset, .unset, .unset, .unset, .unset, .unset] [(.int v6), (.int v5), (.int v4)])) rfl (by rw [hml]; rfl) (argsL := [(.int v4), (.int v5), (.int v6)]) (rest := []) (lenOf pd0_0 rfl) rfl (by show 2 * 0 + _ ≤ _; exact Nat.le_of_eq rfl) (hb hby at_45) (fun _ _ => ⟨rfl, e0, (by decide : 0 + 0 ≤ _), (by decide : 0 + 0 ≤ _)⟩)
              dsimp only [Pt.U, Pt.locs, Pt.cells, Pt.slots] at X28 l28 y28 z28 st28 hQ28
              subst l28 y28 z28
              obtain ⟨rfl, N28q, e28⟩ := hQ28
              have N28 := Fr.app N0 N28q
              refine OFin.back st28 ?_
              rw [show (own_srv v4 v5 v6 a_SPO a_POS a_OSP) = a_OSP from by simp [own_srv, hs1, hs22, hs23]]
              show OFin p e below s _ _ Q (T28.setTop (mkF m 48 #[.val (.int fl), .val (.int si), .val (.int pi), .val (.int oi), .val (.int v4), .val (.int v5), .val (.int v6), .unset, .unset, .unset, .unset, .unset, .unset] [(.ref a_OSP)]))
              refine OFin.back (fun _ hr => XS.astore X28.here hx rfl (hb hby at_48) rfl rfl (l' := #[.val (.int fl), .val (.int si), .val (.int pi), .val (.int oi), .val (.int v4), .val (.int v5), .val (.int v6), .val (.ref a_OSP), .unset, .unset, .unset, .unset, .unset]) rfl hr) ?_
              show OFin p e below s _ _ Q (T28.setTop (mkF m 50 #[.val (.int fl), .val (.int si), .val (.int pi), .val (.int oi), .val (.int v4), .val (.int v5), .val (.int v6), .val (.ref a_OSP), .unset, .unset, .unset, .unset, .unset] []))
              refine OFin.back (fun _ hr => XS.aload X28.here hx rfl (hb hby at_50) rfl rfl hr) ?_
              show OFin p e below s _ _ Q (T28.setTop (mkF m 52 #[.val (.int fl), .val (.int si), .val (.int pi), .val (.int oi), .val (.int v4), .val (.int v5), .val (.int v6), .val (.ref a_OSP), .unset, .unset, .unset, .unset, .unset] [(.ref a_OSP)]))
              refine OFin.back (fun _ hr => XS.ifnonnullYes X28.here hx rfl (pc0 := 52) (pc' := 57) rfl (hb hby at_52) rfl (by decide) (by decide) hr) ?_
              show OFin p e below s _ _ Q (T28.setTop (mkF m 57 #[.val (.int fl), .val (.int si), .val (.int pi), .val (.int oi), .val (.int v4), .val (.int v5), .val (.int v6), .val (.ref a_OSP), .unset, .unset, .unset, .unset, .unset] []))
              refine OFin.back (fun _ hr => XS.iload X28.here hx rfl (hb hby at_57) rfl hr) ?_
              show OFin p e below s _ _ Q (T28.setTop (mkF m 59 #[.val (.int fl), .val (.int si), .val (.int pi), .val (.int oi), .val (.int v4), .val (.int v5), .val (.int v6), .val (.ref a_OSP), .unset, .unset, .unset, .unset, .unset] [(.int v4)]))
              refine OFin.back (fun _ hr => XS.iconst X28.here hx rfl (hb hby at_59) hr) ?_
              show OFin p e below s _ _ Q (T28.setTop (mkF m 60 #[.val (.int fl), .val (.int si), .val (.int pi), .val (.int oi), .val (.int v4), .val (.int v5), .val (.int v6), .val (.ref a_OSP), .unset, .unset, .unset, .unset, .unset] [(.int (-1 : Int32)), (.int v4)]))
              refine OFin.back (fun _ hr => XS.icmpNo X28.here hx rfl (hb hby at_60) rfl (feq hs1).1 hr) ?_
              show OFin p e below s _ _ Q (T28.setTop (mkF m 63 #[.val (.int fl), .val (.int si), .val (.int pi), .val (.int oi), .val (.int v4), .val (.int v5), .val (.int v6), .val (.ref a_OSP), .unset, .unset, .unset, .unset, .unset] []))
              refine OFin.back (fun _ hr => XS.iconst X28.here hx rfl (hb hby at_63) hr) ?_
              show OFin p e below s _ _ Q (T28.setTop (mkF m 64 #[.val (.int fl), .val (.int si), .val (.int pi), .val (.int oi), .val (.int v4), .val (.int v5), .val (.int v6), .val (.ref a_OSP), .unset, .unset, .unset, .unset, .unset] [(.int (1 : Int32))]))
              refine OFin.back (fun _ hr => XS.goto X28.here hx rfl (pc0 := 64) (pc' := 68) rfl (hb hby at_64) (by decide) (by decide) hr) ?_
              show OFin p e below s _ _ Q (T28.setTop (mkF m 68 #[.val (.int fl), .val (.int si), .val (.int pi), .val (.int oi), .val (.int v4), .val (.int v5), .val (.int v6), .val (.ref a_OSP), .unset, .unset, .unset, .unset, .unset] [(.int (1 : Int32))]))
              refine OFin.back (fun _ hr => XS.istore X28.here hx rfl (hb hby at_68) rfl (l' := #[.val (.int fl), .val (.int si), .val (.int pi), .val (.int oi), .val (.int v4), .val (.int v5), .val (.int v6), .val (.ref a_OSP), .val (.int (1 : Int32)), .unset, .unset, .unset, .unset]) rfl hr) ?_
              show OFin p e below s _ _ Q (T28.setTop (mkF m 70 #[.val (.int fl), .val (.int si), .val (.int pi), .val (.int oi), .val (.int v4), .val (.int v5), .val (.int v6), .val (.ref a_OSP), .val (.int (1 : Int32)), .unset, .unset, .unset, .unset] []))
              refine OFin.back (fun _ hr => XS.iload X28.here hx rfl (hb hby at_70) rfl hr) ?_
              show OFin p e below s _ _ Q (T28.setTop (mkF m 72 #[.val (.int fl), .val (.int si), .val (.int pi), .val (.int oi), .val (.int v4), .val (.int v5), .val (.int v6), .val (.ref a_OSP), .val (.int (1 : Int32)), .unset, .unset, .unset, .unset] [(.int v5)]))
              refine OFin.back (fun _ hr => XS.iconst X28.here hx rfl (hb hby at_72) hr) ?_
              show OFin p e below s _ _ Q (T28.setTop (mkF m 73 #[.val (.int fl), .val (.int si), .val (.int pi), .val (.int oi), .val (.int v4), .val (.int v5), .val (.int v6), .val (.ref a_OSP), .val (.int (1 : Int32)), .unset, .unset, .unset, .unset] [(.int (-1 : Int32)), (.int v5)]))
              refine OFin.back (fun _ hr => XS.icmpYes X28.here hx rfl (pc0 := 73) (pc' := 80) rfl (hb hby at_73) rfl (teq hs22).1 (by decide) (by decide) hr) ?_
              show OFin p e below s _ _ Q (T28.setTop (mkF m 80 #[.val (.int fl), .val (.int si), .val (.int pi), .val (.int oi), .val (.int v4), .val (.int v5), .val (.int v6), .val (.ref a_OSP), .val (.int (1 : Int32)), .unset, .unset, .unset, .unset] []))
              refine OFin.back (fun _ hr => XS.iconst X28.here hx rfl (hb hby at_80) hr) ?_
              show OFin p e below s _ _ Q (T28.setTop (mkF m 81 #[.val (.int fl), .val (.int si), .val (.int pi), .val (.int oi), .val (.int v4), .val (.int v5), .val (.int v6), .val (.ref a_OSP), .val (.int (1 : Int32)), .unset, .unset, .unset, .unset] [(.int (0 : Int32))]))
              refine OFin.back (fun _ hr => XS.istore X28.here hx rfl (hb hby at_81) rfl (l' := #[.val (.int fl), .val (.int si), .val (.int pi), .val (.int oi), .val (.int v4), .val (.int v5), .val (.int v6), .val (.ref a_OSP), .val (.int (1 : Int32)), .val (.int (0 : Int32)), .unset, .unset, .unset]) rfl hr) ?_
              show OFin p e below s _ _ Q (T28.setTop (mkF m 83 #[.val (.int fl), .val (.int si), .val (.int pi), .val (.int oi), .val (.int v4), .val (.int v5), .val (.int v6), .val (.ref a_OSP), .val (.int (1 : Int32)), .val (.int (0 : Int32)), .unset, .unset, .unset] []))
              refine OFin.back (fun _ hr => XS.iload X28.here hx rfl (hb hby at_83) rfl hr) ?_
              show OFin p e below s _ _ Q (T28.setTop (mkF m 85 #[.val (.int fl), .val (.int si), .val (.int pi), .val (.int oi), .val (.int v4), .val (.int v5), .val (.int v6), .val (.ref a_OSP), .val (.int (1 : Int32)), .val (.int (0 : Int32)), .unset, .unset, .unset] [(.int v6)]))
              refine OFin.back (fun _ hr => XS.iconst X28.here hx rfl (hb hby at_85) hr) ?_
              show OFin p e below s _ _ Q (T28.setTop (mkF m 86 #[.val (.int fl), .val (.int si), .val (.int pi), .val (.int oi), .val (.int v4), .val (.int v5), .val (.int v6), .val (.ref a_OSP), .val (.int (1 : Int32)), .val (.int (0 : Int32)), .unset, .unset, .unset] [(.int (-1 : Int32)), (.int v6)]))
              refine OFin.back (fun _ hr => XS.icmpNo X28.here hx rfl (hb hby at_86) rfl (feq hs23).1 hr) ?_
              show OFin p e below s _ _ Q (T28.setTop (mkF m 89 #[.val (.int fl), .val (.int si), .val (.int pi), .val (.int oi), .val (.int v4), .val (.int v5), .val (.int v6), .val (.ref a_OSP), .val (.int (1 : Int32)), .val (.int (0 : Int32)), .unset, .unset, .unset] []))
              refine OFin.back (fun _ hr => XS.iconst X28.here hx rfl (hb hby at_89) hr) ?_
              show OFin p e below s _ _ Q (T28.setTop (mkF m 90 #[.val (.int fl), .val (.int si), .val (.int pi), .val (.int oi), .val (.int v4), .val (.int v5), .val (.int v6), .val (.ref a_OSP), .val (.int (1 : Int32)), .val (.int (0 : Int32)), .unset, .unset, .unset] [(.int (1 : Int32))]))
              refine OFin.back (fun _ hr => XS.goto X28.here hx rfl (pc0 := 90) (pc' := 94) rfl (hb hby at_90) (by decide) (by decide) hr) ?_
              show OFin p e below s _ _ Q (T28.setTop (mkF m 94 #[.val (.int fl), .val (.int si), .val (.int pi), .val (.int oi), .val (.int v4), .val (.int v5), .val (.int v6), .val (.ref a_OSP), .val (.int (1 : Int32)), .val (.int (0 : Int32)), .unset, .unset, .unset] [(.int (1 : Int32))]))
              refine OFin.back (fun _ hr => XS.istore X28.here hx rfl (hb hby at_94) rfl (l' := #[.val (.int fl), .val (.int si), .val (.int pi), .val (.int oi), .val (.int v4), .val (.int v5), .val (.int v6), .val (.ref a_OSP), .val (.int (1 : Int32)), .val (.int (0 : Int32)), .val (.int (1 : Int32)), .unset, .unset]) rfl hr) ?_
              show OFin p e below s _ _ Q (T28.setTop (mkF m 96 #[.val (.int fl), .val (.int si), .val (.int pi), .val (.int oi), .val (.int v4), .val (.int v5), .val (.int v6), .val (.ref a_OSP), .val (.int (1 : Int32)), .val (.int (0 : Int32)), .val (.int (1 : Int32)), .unset, .unset] []))
              refine OFin.back (fun _ hr => XS.iconst X28.here hx rfl (hb hby at_96) hr) ?_
              show OFin p e below s _ _ Q (T28.setTop (mkF m 97 #[.val (.int fl), .val (.int si), .val (.int pi), .val (.int oi), .val (.int v4), .val (.int v5), .val (.int v6), .val (.ref a_OSP), .val (.int (1 : Int32)), .val (.int (0 : Int32)), .val (.int (1 : Int32)), .unset, .unset] [(.int (0 : Int32))]))
              refine OFin.back (fun _ hr => XS.istore X28.here hx rfl (hb hby at_97) rfl (l' := #[.val (.int fl), .val (.int si), .val (.int pi), .val (.int oi), .val (.int v4), .val (.int v5), .val (.int v6), .val (.ref a_OSP), .val (.int (1 : Int32)), .val (.int (0 : Int32)), .val (.int (1 : Int32)), .val (.int (0 : Int32)), .unset]) rfl hr) ?_
              show OFin p e below s _ _ Q (T28.setTop (mkF m 99 #[.val (.int fl), .val (.int si), .val (.int pi), .val (.int oi), .val (.int v4), .val (.int v5), .val (.int v6), .val (.ref a_OSP), .val (.int (1 : Int32)), .val (.int (0 : Int32)), .val (.int (1 : Int32)), .val (.int (0 : Int32)), .unset] []))
              refine OFin.back (fun _ hr => XS.iload X28.here hx rfl (hb hby at_99) rfl hr) ?_
              show OFin p e below s _ _ Q (T28.setTop (mkF m 101 #[.val (.int fl), .val (.int si), .val (.int pi), .val (.int oi), .val (.int v4), .val (.int v5), .val (.int v6), .val (.ref a_OSP), .val (.int (1 : Int32)), .val (.int (0 : Int32)), .val (.int (1 : Int32)), .val (.int (0 : Int32)), .unset] [(.int (1 : Int32))]))
              refine OFin.back (fun _ hr => XS.ifNo X28.here hx rfl (hb hby at_101) rfl ((if0 _ _).trans (feq (by decide : ¬ ((1 : Int32) = (0 : Int32)))).1) hr) ?_
              show OFin p e below s _ _ Q (T28.setTop (mkF m 104 #[.val (.int fl), .val (.int si), .val (.int pi), .val (.int oi), .val (.int v4), .val (.int v5), .val (.int v6), .val (.ref a_OSP), .val (.int (1 : Int32)), .val (.int (0 : Int32)), .val (.int (1 : Int32)), .val (.int (0 : Int32)), .unset] []))
              refine OFin.back (fun _ hr => XS.iload X28.here hx rfl (hb hby at_104) rfl hr) ?_
              show OFin p e below s _ _ Q (T28.setTop (mkF m 106 #[.val (.int fl), .val (.int si), .val (.int pi), .val (.int oi), .val (.int v4), .val (.int v5), .val (.int v6), .val (.ref a_OSP), .val (.int (1 : Int32)), .val (.int (0 : Int32)), .val (.int (1 : Int32)), .val (.int (0 : Int32)), .unset] [(.int (0 : Int32))]))
              refine OFin.back (fun _ hr => XS.iconst X28.here hx rfl (hb hby at_106) hr) ?_
              show OFin p e below s _ _ Q (T28.setTop (mkF m 107 #[.val (.int fl), .val (.int si), .val (.int pi), .val (.int oi), .val (.int v4), .val (.int v5), .val (.int v6), .val (.ref a_OSP), .val (.int (1 : Int32)), .val (.int (0 : Int32)), .val (.int (1 : Int32)), .val (.int (0 : Int32)), .unset] [(.int (1 : Int32)), (.int (0 : Int32))]))
              refine OFin.back (fun _ hr => XS.iadd X28.here hx rfl (hb hby at_107) rfl hr) ?_
              show OFin p e below s _ _ Q (T28.setTop (mkF m 108 #[.val (.int fl), .val (.int si), .val (.int pi), .val (.int oi), .val (.int v4), .val (.int v5), .val (.int v6), .val (.ref a_OSP), .val (.int (1 : Int32)), .val (.int (0 : Int32)), .val (.int (1 : Int32)), .val (.int (0 : Int32)), .unset] [(.int (1 : Int32))]))
              refine OFin.back (fun _ hr => XS.istore X28.here hx rfl (hb hby at_108) rfl (l' := #[.val (.int fl), .val (.int si), .val (.int pi), .val (.int oi), .val (.int v4), .val (.int v5), .val (.int v6), .val (.ref a_OSP), .val (.int (1 : Int32)), .val (.int (0 : Int32)), .val (.int (1 : Int32)), .val (.int (1 : Int32)), .unset]) rfl hr) ?_
              show OFin p e below s _ _ Q (T28.setTop (mkF m 110 #[.val (.int fl), .val (.int si), .val (.int pi), .val (.int oi), .val (.int v4), .val (.int v5), .val (.int v6), .val (.ref a_OSP), .val (.int (1 : Int32)), .val (.int (0 : Int32)), .val (.int (1 : Int32)), .val (.int (1 : Int32)), .unset] []))
              refine OFin.back (fun _ hr => XS.iload X28.here hx rfl (hb hby at_110) rfl hr) ?_
              show OFin p e below s _ _ Q (T28.setTop (mkF m 112 #[.val (.int fl), .val (.int si), .val (.int pi), .val (.int oi), .val (.int v4), .val (.int v5), .val (.int v6), .val (.ref a_OSP), .val (.int (1 : Int32)), .val (.int (0 : Int32)), .val (.int (1 : Int32)), .val (.int (1 : Int32)), .unset] [(.int (0 : Int32))]))
              refine OFin.back (fun _ hr => XS.ifYes X28.here hx rfl (pc0 := 112) (pc' := 121) rfl (hb hby at_112) rfl ((if0 _ _).trans (teq (by decide : (0 : Int32) = (0 : Int32))).1) (by decide) (by decide) hr) ?_
              show OFin p e below s _ _ Q (T28.setTop (mkF m 121 #[.val (.int fl), .val (.int si), .val (.int pi), .val (.int oi), .val (.int v4), .val (.int v5), .val (.int v6), .val (.ref a_OSP), .val (.int (1 : Int32)), .val (.int (0 : Int32)), .val (.int (1 : Int32)), .val (.int (1 : Int32)), .unset] []))
              refine OFin.back (fun _ hr => XS.iload X28.here hx rfl (hb hby at_121) rfl hr) ?_
              show OFin p e below s _ _ Q (T28.setTop (mkF m 123 #[.val (.int fl), .val (.int si), .val (.int pi), .val (.int oi), .val (.int v4), .val (.int v5), .val (.int v6), .val (.ref a_OSP), .val (.int (1 : Int32)), .val (.int (0 : Int32)), .val (.int (1 : Int32)), .val (.int (1 : Int32)), .unset] [(.int (1 : Int32))]))
              refine OFin.back (fun _ hr => XS.ifNo X28.here hx rfl (hb hby at_123) rfl ((if0 _ _).trans (feq (by decide : ¬ ((1 : Int32) = (0 : Int32)))).1) hr) ?_
              show OFin p e below s _ _ Q (T28.setTop (mkF m 126 #[.val (.int fl), .val (.int si), .val (.int pi), .val (.int oi), .val (.int v4), .val (.int v5), .val (.int v6), .val (.ref a_OSP), .val (.int (1 : Int32)), .val (.int (0 : Int32)), .val (.int (1 : Int32)), .val (.int (1 : Int32)), .unset] []))
              refine OFin.back (fun _ hr => XS.iload X28.here hx rfl (hb hby at_126) rfl hr) ?_
              show OFin p e below s _ _ Q (T28.setTop (mkF m 128 #[.val (.int fl), .val (.int si), .val (.int pi), .val (.int oi), .val (.int v4), .val (.int v5), .val (.int v6), .val (.ref a_OSP), .val (.int (1 : Int32)), .val (.int (0 : Int32)), .val (.int (1 : Int32)), .val (.int (1 : Int32)), .unset] [(.int (1 : Int32))]))
              refine OFin.back (fun _ hr => XS.iconst X28.here hx rfl (hb hby at_128) hr) ?_
              show OFin p e below s _ _ Q (T28.setTop (mkF m 129 #[.val (.int fl), .val (.int si), .val (.int pi), .val (.int oi), .val (.int v4), .val (.int v5), .val (.int v6), .val (.ref a_OSP), .val (.int (1 : Int32)), .val (.int (0 : Int32)), .val (.int (1 : Int32)), .val (.int (1 : Int32)), .unset] [(.int (1 : Int32)), (.int (1 : Int32))]))
              refine OFin.back (fun _ hr => XS.iadd X28.here hx rfl (hb hby at_129) rfl hr) ?_
              show OFin p e below s _ _ Q (T28.setTop (mkF m 130 #[.val (.int fl), .val (.int si), .val (.int pi), .val (.int oi), .val (.int v4), .val (.int v5), .val (.int v6), .val (.ref a_OSP), .val (.int (1 : Int32)), .val (.int (0 : Int32)), .val (.int (1 : Int32)), .val (.int (1 : Int32)), .unset] [(.int (2 : Int32))]))
              refine OFin.back (fun _ hr => XS.istore X28.here hx rfl (hb hby at_130) rfl (l' := #[.val (.int fl), .val (.int si), .val (.int pi), .val (.int oi), .val (.int v4), .val (.int v5), .val (.int v6), .val (.ref a_OSP), .val (.int (1 : Int32)), .val (.int (0 : Int32)), .val (.int (1 : Int32)), .val (.int (2 : Int32)), .unset]) rfl hr) ?_
              show OFin p e below s _ _ Q (T28.setTop (mkF m 132 #[.val (.int fl), .val (.int si), .val (.int pi), .val (.int oi), .val (.int v4), .val (.int v5), .val (.int v6), .val (.ref a_OSP), .val (.int (1 : Int32)), .val (.int (0 : Int32)), .val (.int (1 : Int32)), .val (.int (2 : Int32)), .unset] []))
              refine OFin.back (fun _ hr => XS.iload X28.here hx rfl (hb hby at_132) rfl hr) ?_
              show OFin p e below s _ _ Q (T28.setTop (mkF m 134 #[.val (.int fl), .val (.int si), .val (.int pi), .val (.int oi), .val (.int v4), .val (.int v5), .val (.int v6), .val (.ref a_OSP), .val (.int (1 : Int32)), .val (.int (0 : Int32)), .val (.int (1 : Int32)), .val (.int (2 : Int32)), .unset] [(.int (1 : Int32))]))
              refine OFin.back (fun _ hr => XS.aload X28.here hx rfl (hb hby at_134) rfl rfl hr) ?_
              show OFin p e below s _ _ Q (T28.setTop (mkF m 136 #[.val (.int fl), .val (.int si), .val (.int pi), .val (.int oi), .val (.int v4), .val (.int v5), .val (.int v6), .val (.ref a_OSP), .val (.int (1 : Int32)), .val (.int (0 : Int32)), .val (.int (1 : Int32)), .val (.int (2 : Int32)), .unset] [(.ref a_OSP), (.int (1 : Int32))]))
              obtain ⟨cq29, kq29, q29a, q29b, q29c⟩ := isOf hZ e28 E_OSP
              obtain ⟨_, _, ⟨T29, L29, k29, n29⟩, -, X29, ⟨Lc29, hQ29, l29, y29, z29⟩, st29⟩ := X28.virtualBack hx (y := (⟨"com/example/triplewright/triplewright/store/TripleOrder", "subjectColumn", "()I"⟩ : MethodName)) (z := (⟨"com/example/triplewright/triplewright/store/TripleOrder", "subjectColumn", "()I"⟩ : MethodName)) hown (mvT hZ (hw _ (List.mem_of_getElem? (i := 6) rfl))) (mvT hZ (hw _ (List.mem_of_getElem? (i := 7) rfl))) (notFace_of_selects (args := #[]) (mvT hZ (hw _ (List.mem_of_getElem? (i := 9) rfl)))) (mvT hZ (hw _ (List.mem_of_getElem? (i := 9) rfl))) (mvT hZ (hw _ (List.mem_of_getElem? (i := 8) rfl))) (by decide) (backOf (W := 1) (rm2 l Z a0 hw [] a_OSP (1 : Int32) h0 n0 Z0 F_OSP_subjectColumn) hZ (hw _ (List.mem_of_getElem? (i := 10) rfl)) (hw _ (List.mem_of_getElem? (i := 2) rfl)) (by decide) (by decide)) q29a q29c (g := (mkF m 136 #[.val (.int fl), .val (.int si), .val (.int pi), .val (.int oi), .val (.int v4), .val (.int v5), .val (.int v6), .val (.ref a_OSP), .val (.int (1 : Int32)), .val (.int (0 : Int32)), .val (.int (1 : Int32)), .val (.int (2 : Int32)), .unset] [(.ref a_OSP), (.int (1 : Int32))])) rfl (by rw [hml]; rfl) (Steps.refl _) (argsL := []) (rest := [(.int (1 : Int32))]) (lenOf pd0_1 rfl) rfl (by show 2 * 0 + _ ≤ _; exact Nat.le_of_eq rfl) (hb hby at_136) (fun _ _ => ⟨rfl, e28, (by decide : 0 + 0 ≤ _), (by decide : 0 + 0 ≤ _)⟩)
              dsimp only [Pt.U, Pt.locs, Pt.cells, Pt.slots] at X29 l29 y29 z29 st29 hQ29
              subst l29 y29 z29
              obtain ⟨rfl, N29q, e29⟩ := hQ29
              have N29 := Fr.app N28 N29q
              refine OFin.via st29 ?_
              show OFin p e below s _ _ Q (T29.setTop (mkF m 139 #[.val (.int fl), .val (.int si), .val (.int pi), .val (.int oi), .val (.int v4), .val (.int v5), .val (.int v6), .val (.ref a_OSP), .val (.int (1 : Int32)), .val (.int (0 : Int32)), .val (.int (1 : Int32)), .val (.int (2 : Int32)), .unset] [(.int (1 : Int32)), (.int (1 : Int32))]))
              refine OFin.back (fun _ hr => XS.iload X29.here hx rfl (hb hby at_139) rfl hr) ?_
              show OFin p e below s _ _ Q (T29.setTop (mkF m 141 #[.val (.int fl), .val (.int si), .val (.int pi), .val (.int oi), .val (.int v4), .val (.int v5), .val (.int v6), .val (.ref a_OSP), .val (.int (1 : Int32)), .val (.int (0 : Int32)), .val (.int (1 : Int32)), .val (.int (2 : Int32)), .unset] [(.int (2 : Int32)), (.int (1 : Int32)), (.int (1 : Int32))]))
              refine OFin.back (fun _ hr => XS.icmpNo X29.here hx rfl (hb hby at_141) rfl (tlt (by decide : (1 : Int32) < (2 : Int32))).2.1 hr) ?_
              show OFin p e below s _ _ Q (T29.setTop (mkF m 144 #[.val (.int fl), .val (.int si), .val (.int pi), .val (.int oi), .val (.int v4), .val (.int v5), .val (.int v6), .val (.ref a_OSP), .val (.int (1 : Int32)), .val (.int (0 : Int32)), .val (.int (1 : Int32)), .val (.int (2 : Int32)), .unset] [(.int (1 : Int32))]))
              refine OFin.back (fun _ hr => XS.iconst X29.here hx rfl (hb hby at_144) hr) ?_
              show OFin p e below s _ _ Q (T29.setTop (mkF m 145 #[.val (.int fl), .val (.int si), .val (.int pi), .val (.int oi), .val (.int v4), .val (.int v5), .val (.int v6), .val (.ref a_OSP), .val (.int (1 : Int32)), .val (.int (0 : Int32)), .val (.int (1 : Int32)), .val (.int (2 : Int32)), .unset] [(.int (1 : Int32)), (.int (1 : Int32))]))
              refine OFin.back (fun _ hr => XS.goto X29.here hx rfl (pc0 := 145) (pc' := 149) rfl (hb hby at_145) (by decide) (by decide) hr) ?_
              show OFin p e below s _ _ Q (T29.setTop (mkF m 149 #[.val (.int fl), .val (.int si), .val (.int pi), .val (.int oi), .val (.int v4), .val (.int v5), .val (.int v6), .val (.ref a_OSP), .val (.int (1 : Int32)), .val (.int (0 : Int32)), .val (.int (1 : Int32)), .val (.int (2 : Int32)), .unset] [(.int (1 : Int32)), (.int (1 : Int32))]))
              refine OFin.back (fun _ hr => XS.icmpNo X29.here hx rfl (hb hby at_149) rfl (teq (by decide : (1 : Int32) = (1 : Int32))).2 hr) ?_
              show OFin p e below s _ _ Q (T29.setTop (mkF m 152 #[.val (.int fl), .val (.int si), .val (.int pi), .val (.int oi), .val (.int v4), .val (.int v5), .val (.int v6), .val (.ref a_OSP), .val (.int (1 : Int32)), .val (.int (0 : Int32)), .val (.int (1 : Int32)), .val (.int (2 : Int32)), .unset] []))
              refine OFin.back (fun _ hr => XS.iload X29.here hx rfl (hb hby at_152) rfl hr) ?_
              show OFin p e below s _ _ Q (T29.setTop (mkF m 154 #[.val (.int fl), .val (.int si), .val (.int pi), .val (.int oi), .val (.int v4), .val (.int v5), .val (.int v6), .val (.ref a_OSP), .val (.int (1 : Int32)), .val (.int (0 : Int32)), .val (.int (1 : Int32)), .val (.int (2 : Int32)), .unset] [(.int (0 : Int32))]))
              refine OFin.back (fun _ hr => XS.aload X29.here hx rfl (hb hby at_154) rfl rfl hr) ?_
              show OFin p e below s _ _ Q (T29.setTop (mkF m 156 #[.val (.int fl), .val (.int si), .val (.int pi), .val (.int oi), .val (.int v4), .val (.int v5), .val (.int v6), .val (.ref a_OSP), .val (.int (1 : Int32)), .val (.int (0 : Int32)), .val (.int (1 : Int32)), .val (.int (2 : Int32)), .unset] [(.ref a_OSP), (.int (0 : Int32))]))
              obtain ⟨cq30, kq30, q30a, q30b, q30c⟩ := isOf hZ e29 E_OSP
              obtain ⟨_, _, ⟨T30, L30, k30, n30⟩, -, X30, ⟨Lc30, hQ30, l30, y30, z30⟩, st30⟩ := X29.virtualBack hx (y := (⟨"com/example/triplewright/triplewright/store/TripleOrder", "predicateColumn", "()I"⟩ : MethodName)) (z := (⟨"com/example/triplewright/triplewright/store/TripleOrder", "predicateColumn", "()I"⟩ : MethodName)) hown (mvT hZ (hw _ (List.mem_of_getElem? (i := 13) rfl))) (mvT hZ (hw _ (List.mem_of_getElem? (i := 14) rfl))) (notFace_of_selects (args := #[]) (mvT hZ (hw _ (List.mem_of_getElem? (i := 16) rfl)))) (mvT hZ (hw _ (List.mem_of_getElem? (i := 16) rfl))) (mvT hZ (hw _ (List.mem_of_getElem? (i := 15) rfl))) (by decide) (backOf (W := 1) (rm3 l Z a0 hw [] a_OSP (2 : Int32) h0 n0 Z0 F_OSP_predicateColumn) hZ (hw _ (List.mem_of_getElem? (i := 17) rfl)) (hw _ (List.mem_of_getElem? (i := 2) rfl)) (by decide) (by decide)) q30a q30c (g := (mkF m 156 #[.val (.int fl), .val (.int si), .val (.int pi), .val (.int oi), .val (.int v4), .val (.int v5), .val (.int v6), .val (.ref a_OSP), .val (.int (1 : Int32)), .val (.int (0 : Int32)), .val (.int (1 : Int32)), .val (.int (2 : Int32)), .unset] [(.ref a_OSP), (.int (0 : Int32))])) rfl (by rw [hml]; rfl) (Steps.refl _) (argsL := []) (rest := [(.int (0 : Int32))]) (lenOf pd0_1 rfl) rfl (by show 2 * 0 + _ ≤ _; exact Nat.le_of_eq rfl) (hb hby at_156) (fun _ _ => ⟨rfl, e29, (by decide : 0 + 0 ≤ _), (by decide : 0 + 0 ≤ _)⟩)
              dsimp only [Pt.U, Pt.locs, Pt.cells, Pt.slots] at X30 l30 y30 z30 st30 hQ30
              subst l30 y30 z30
              obtain ⟨rfl, N30q, e30⟩ := hQ30
              have N30 := Fr.app N29 N30q
              refine OFin.via st30 ?_
              show OFin p e below s _ _ Q (T30.setTop (mkF m 159 #[.val (.int fl), .val (.int si), .val (.int pi), .val (.int oi), .val (.int v4), .val (.int v5), .val (.int v6), .val (.ref a_OSP), .val (.int (1 : Int32)), .val (.int (0 : Int32)), .val (.int (1 : Int32)), .val (.int (2 : Int32)), .unset] [(.int (2 : Int32)), (.int (0 : Int32))]))
              refine OFin.back (fun _ hr => XS.iload X30.here hx rfl (hb hby at_159) rfl hr) ?_
              show OFin p e below s _ _ Q (T30.setTop (mkF m 161 #[.val (.int fl), .val (.int si), .val (.int pi), .val (.int oi), .val (.int v4), .val (.int v5), .val (.int v6), .val (.ref a_OSP), .val (.int (1 : Int32)), .val (.int (0 : Int32)), .val (.int (1 : Int32)), .val (.int (2 : Int32)), .unset] [(.int (2 : Int32)), (.int (2 : Int32)), (.int (0 : Int32))]))
              refine OFin.back (fun _ hr => XS.icmpYes X30.here hx rfl (pc0 := 161) (pc' := 168) rfl (hb hby at_161) rfl (flt (by decide : ¬ ((2 : Int32) < (2 : Int32)))).2.1 (by decide) (by decide) hr) ?_
              show OFin p e below s _ _ Q (T30.setTop (mkF m 168 #[.val (.int fl), .val (.int si), .val (.int pi), .val (.int oi), .val (.int v4), .val (.int v5), .val (.int v6), .val (.ref a_OSP), .val (.int (1 : Int32)), .val (.int (0 : Int32)), .val (.int (1 : Int32)), .val (.int (2 : Int32)), .unset] [(.int (0 : Int32))]))
              refine OFin.back (fun _ hr => XS.iconst X30.here hx rfl (hb hby at_168) hr) ?_
              show OFin p e below s _ _ Q (T30.setTop (mkF m 169 #[.val (.int fl), .val (.int si), .val (.int pi), .val (.int oi), .val (.int v4), .val (.int v5), .val (.int v6), .val (.ref a_OSP), .val (.int (1 : Int32)), .val (.int (0 : Int32)), .val (.int (1 : Int32)), .val (.int (2 : Int32)), .unset] [(.int (0 : Int32)), (.int (0 : Int32))]))
              refine OFin.back (fun _ hr => XS.icmpNo X30.here hx rfl (hb hby at_169) rfl (teq (by decide : (0 : Int32) = (0 : Int32))).2 hr) ?_
              show OFin p e below s _ _ Q (T30.setTop (mkF m 172 #[.val (.int fl), .val (.int si), .val (.int pi), .val (.int oi), .val (.int v4), .val (.int v5), .val (.int v6), .val (.ref a_OSP), .val (.int (1 : Int32)), .val (.int (0 : Int32)), .val (.int (1 : Int32)), .val (.int (2 : Int32)), .unset] []))
              refine OFin.back (fun _ hr => XS.iload X30.here hx rfl (hb hby at_172) rfl hr) ?_
              show OFin p e below s _ _ Q (T30.setTop (mkF m 174 #[.val (.int fl), .val (.int si), .val (.int pi), .val (.int oi), .val (.int v4), .val (.int v5), .val (.int v6), .val (.ref a_OSP), .val (.int (1 : Int32)), .val (.int (0 : Int32)), .val (.int (1 : Int32)), .val (.int (2 : Int32)), .unset] [(.int (1 : Int32))]))
              refine OFin.back (fun _ hr => XS.aload X30.here hx rfl (hb hby at_174) rfl rfl hr) ?_
              show OFin p e below s _ _ Q (T30.setTop (mkF m 176 #[.val (.int fl), .val (.int si), .val (.int pi), .val (.int oi), .val (.int v4), .val (.int v5), .val (.int v6), .val (.ref a_OSP), .val (.int (1 : Int32)), .val (.int (0 : Int32)), .val (.int (1 : Int32)), .val (.int (2 : Int32)), .unset] [(.ref a_OSP), (.int (1 : Int32))]))
              obtain ⟨cq31, kq31, q31a, q31b, q31c⟩ := isOf hZ e30 E_OSP
              obtain ⟨_, _, ⟨T31, L31, k31, n31⟩, -, X31, ⟨Lc31, hQ31, l31, y31, z31⟩, st31⟩ := X30.virtualBack hx (y := (⟨"com/example/triplewright/triplewright/store/TripleOrder", "objectColumn", "()I"⟩ : MethodName)) (z := (⟨"com/example/triplewright/triplewright/store/TripleOrder", "objectColumn", "()I"⟩ : MethodName)) hown (mvT hZ (hw _ (List.mem_of_getElem? (i := 20) rfl))) (mvT hZ (hw _ (List.mem_of_getElem? (i := 21) rfl))) (notFace_of_selects (args := #[]) (mvT hZ (hw _ (List.mem_of_getElem? (i := 23) rfl)))) (mvT hZ (hw _ (List.mem_of_getElem? (i := 23) rfl))) (mvT hZ (hw _ (List.mem_of_getElem? (i := 22) rfl))) (by decide) (backOf (W := 1) (rm4 l Z a0 hw [] a_OSP (0 : Int32) h0 n0 Z0 F_OSP_objectColumn) hZ (hw _ (List.mem_of_getElem? (i := 24) rfl)) (hw _ (List.mem_of_getElem? (i := 2) rfl)) (by decide) (by decide)) q31a q31c (g := (mkF m 176 #[.val (.int fl), .val (.int si), .val (.int pi), .val (.int oi), .val (.int v4), .val (.int v5), .val (.int v6), .val (.ref a_OSP), .val (.int (1 : Int32)), .val (.int (0 : Int32)), .val (.int (1 : Int32)), .val (.int (2 : Int32)), .unset] [(.ref a_OSP), (.int (1 : Int32))])) rfl (by rw [hml]; rfl) (Steps.refl _) (argsL := []) (rest := [(.int (1 : Int32))]) (lenOf pd0_1 rfl) rfl (by show 2 * 0 + _ ≤ _; exact Nat.le_of_eq rfl) (hb hby at_176) (fun _ _ => ⟨rfl, e30, (by decide : 0 + 0 ≤ _), (by decide : 0 + 0 ≤ _)⟩)
              dsimp only [Pt.U, Pt.locs, Pt.cells, Pt.slots] at X31 l31 y31 z31 st31 hQ31
              subst l31 y31 z31
              obtain ⟨rfl, N31q, e31⟩ := hQ31
              have N31 := Fr.app N30 N31q
              refine OFin.via st31 ?_
              show OFin p e below s _ _ Q (T31.setTop (mkF m 179 #[.val (.int fl), .val (.int si), .val (.int pi), .val (.int oi), .val (.int v4), .val (.int v5), .val (.int v6), .val (.ref a_OSP), .val (.int (1 : Int32)), .val (.int (0 : Int32)), .val (.int (1 : Int32)), .val (.int (2 : Int32)), .unset] [(.int (0 : Int32)), (.int (1 : Int32))]))
              refine OFin.back (fun _ hr => XS.iload X31.here hx rfl (hb hby at_179) rfl hr) ?_
              show OFin p e below s _ _ Q (T31.setTop (mkF m 181 #[.val (.int fl), .val (.int si), .val (.int pi), .val (.int oi), .val (.int v4), .val (.int v5), .val (.int v6), .val (.ref a_OSP), .val (.int (1 : Int32)), .val (.int (0 : Int32)), .val (.int (1 : Int32)), .val (.int (2 : Int32)), .unset] [(.int (2 : Int32)), (.int (0 : Int32)), (.int (1 : Int32))]))
              refine OFin.back (fun _ hr => XS.icmpNo X31.here hx rfl (hb hby at_181) rfl (tlt (by decide : (0 : Int32) < (2 : Int32))).2.1 hr) ?_
              show OFin p e below s _ _ Q (T31.setTop (mkF m 184 #[.val (.int fl), .val (.int si), .val (.int pi), .val (.int oi), .val (.int v4), .val (.int v5), .val (.int v6), .val (.ref a_OSP), .val (.int (1 : Int32)), .val (.int (0 : Int32)), .val (.int (1 : Int32)), .val (.int (2 : Int32)), .unset] [(.int (1 : Int32))]))
              refine OFin.back (fun _ hr => XS.iconst X31.here hx rfl (hb hby at_184) hr) ?_
              show OFin p e below s _ _ Q (T31.setTop (mkF m 185 #[.val (.int fl), .val (.int si), .val (.int pi), .val (.int oi), .val (.int v4), .val (.int v5), .val (.int v6), .val (.ref a_OSP), .val (.int (1 : Int32)), .val (.int (0 : Int32)), .val (.int (1 : Int32)), .val (.int (2 : Int32)), .unset] [(.int (1 : Int32)), (.int (1 : Int32))]))
              refine OFin.back (fun _ hr => XS.goto X31.here hx rfl (pc0 := 185) (pc' := 189) rfl (hb hby at_185) (by decide) (by decide) hr) ?_
              show OFin p e below s _ _ Q (T31.setTop (mkF m 189 #[.val (.int fl), .val (.int si), .val (.int pi), .val (.int oi), .val (.int v4), .val (.int v5), .val (.int v6), .val (.ref a_OSP), .val (.int (1 : Int32)), .val (.int (0 : Int32)), .val (.int (1 : Int32)), .val (.int (2 : Int32)), .unset] [(.int (1 : Int32)), (.int (1 : Int32))]))
              refine OFin.back (fun _ hr => XS.icmpNo X31.here hx rfl (hb hby at_189) rfl (teq (by decide : (1 : Int32) = (1 : Int32))).2 hr) ?_
              show OFin p e below s _ _ Q (T31.setTop (mkF m 192 #[.val (.int fl), .val (.int si), .val (.int pi), .val (.int oi), .val (.int v4), .val (.int v5), .val (.int v6), .val (.ref a_OSP), .val (.int (1 : Int32)), .val (.int (0 : Int32)), .val (.int (1 : Int32)), .val (.int (2 : Int32)), .unset] []))
              refine OFin.back (fun _ hr => XS.iconst X31.here hx rfl (hb hby at_192) hr) ?_
              show OFin p e below s _ _ Q (T31.setTop (mkF m 193 #[.val (.int fl), .val (.int si), .val (.int pi), .val (.int oi), .val (.int v4), .val (.int v5), .val (.int v6), .val (.ref a_OSP), .val (.int (1 : Int32)), .val (.int (0 : Int32)), .val (.int (1 : Int32)), .val (.int (2 : Int32)), .unset] [(.int (1 : Int32))]))
              refine OFin.back (fun _ hr => XS.goto X31.here hx rfl (pc0 := 193) (pc' := 197) rfl (hb hby at_193) (by decide) (by decide) hr) ?_
              show OFin p e below s _ _ Q (T31.setTop (mkF m 197 #[.val (.int fl), .val (.int si), .val (.int pi), .val (.int oi), .val (.int v4), .val (.int v5), .val (.int v6), .val (.ref a_OSP), .val (.int (1 : Int32)), .val (.int (0 : Int32)), .val (.int (1 : Int32)), .val (.int (2 : Int32)), .unset] [(.int (1 : Int32))]))
              refine OFin.back (fun _ hr => XS.istore X31.here hx rfl (hb hby at_197) rfl (l' := #[.val (.int fl), .val (.int si), .val (.int pi), .val (.int oi), .val (.int v4), .val (.int v5), .val (.int v6), .val (.ref a_OSP), .val (.int (1 : Int32)), .val (.int (0 : Int32)), .val (.int (1 : Int32)), .val (.int (2 : Int32)), .val (.int (1 : Int32))]) rfl hr) ?_
              show OFin p e below s _ _ Q (T31.setTop (mkF m 199 #[.val (.int fl), .val (.int si), .val (.int pi), .val (.int oi), .val (.int v4), .val (.int v5), .val (.int v6), .val (.ref a_OSP), .val (.int (1 : Int32)), .val (.int (0 : Int32)), .val (.int (1 : Int32)), .val (.int (2 : Int32)), .val (.int (1 : Int32))] []))
              refine OFin.back (fun _ hr => XS.iload X31.here hx rfl (hb hby at_199) rfl hr) ?_
              show OFin p e below s _ _ Q (T31.setTop (mkF m 201 #[.val (.int fl), .val (.int si), .val (.int pi), .val (.int oi), .val (.int v4), .val (.int v5), .val (.int v6), .val (.ref a_OSP), .val (.int (1 : Int32)), .val (.int (0 : Int32)), .val (.int (1 : Int32)), .val (.int (2 : Int32)), .val (.int (1 : Int32))] [(.int (2 : Int32))]))
              refine OFin.back (fun _ hr => XS.iconst X31.here hx rfl (hb hby at_201) hr) ?_
              show OFin p e below s _ _ Q (T31.setTop (mkF m 202 #[.val (.int fl), .val (.int si), .val (.int pi), .val (.int oi), .val (.int v4), .val (.int v5), .val (.int v6), .val (.ref a_OSP), .val (.int (1 : Int32)), .val (.int (0 : Int32)), .val (.int (1 : Int32)), .val (.int (2 : Int32)), .val (.int (1 : Int32))] [(.int (3 : Int32)), (.int (2 : Int32))]))
              refine OFin.back (fun _ hr => XS.icmpYes X31.here hx rfl (pc0 := 202) (pc' := 224) rfl (hb hby at_202) rfl (feq (by decide : ¬ ((2 : Int32) = (3 : Int32)))).2 (by decide) (by decide) hr) ?_
              show OFin p e below s _ _ Q (T31.setTop (mkF m 224 #[.val (.int fl), .val (.int si), .val (.int pi), .val (.int oi), .val (.int v4), .val (.int v5), .val (.int v6), .val (.ref a_OSP), .val (.int (1 : Int32)), .val (.int (0 : Int32)), .val (.int (1 : Int32)), .val (.int (2 : Int32)), .val (.int (1 : Int32))] []))
              refine OFin.back (fun _ hr => XS.iload X31.here hx rfl (hb hby at_224) rfl hr) ?_
              show OFin p e below s _ _ Q (T31.setTop (mkF m 226 #[.val (.int fl), .val (.int si), .val (.int pi), .val (.int oi), .val (.int v4), .val (.int v5), .val (.int v6), .val (.ref a_OSP), .val (.int (1 : Int32)), .val (.int (0 : Int32)), .val (.int (1 : Int32)), .val (.int (2 : Int32)), .val (.int (1 : Int32))] [(.int (2 : Int32))]))
              refine OFin.back (fun _ hr => XS.ifYes X31.here hx rfl (pc0 := 226) (pc' := 248) rfl (hb hby at_226) rfl ((if0 _ _).trans (feq (by decide : ¬ ((2 : Int32) = (0 : Int32)))).2) (by decide) (by decide) hr) ?_
              show OFin p e below s _ _ Q (T31.setTop (mkF m 248 #[.val (.int fl), .val (.int si), .val (.int pi), .val (.int oi), .val (.int v4), .val (.int v5), .val (.int v6), .val (.ref a_OSP), .val (.int (1 : Int32)), .val (.int (0 : Int32)), .val (.int (1 : Int32)), .val (.int (2 : Int32)), .val (.int (1 : Int32))] []))
              refine OFin.back (fun _ hr => XS.iload X31.here hx rfl (hb hby at_248) rfl hr) ?_
              show OFin p e below s _ _ Q (T31.setTop (mkF m 250 #[.val (.int fl), .val (.int si), .val (.int pi), .val (.int oi), .val (.int v4), .val (.int v5), .val (.int v6), .val (.ref a_OSP), .val (.int (1 : Int32)), .val (.int (0 : Int32)), .val (.int (1 : Int32)), .val (.int (2 : Int32)), .val (.int (1 : Int32))] [(.int (1 : Int32))]))
              exact OFin.outN (t := .boolean) X31 hx Bd.returns (by simp) Bd.notSynchronized (hb hby at_250) (by decide) (by decide) e31 (by rw [hQ]; exact ⟨rfl, N31⟩)
          · -- not v5 = (-1 : Int32)
            by_cases hs32 : v6 = (-1 : Int32)
            · -- v6 = (-1 : Int32)
              refine OFin.back (fun _ hr => XS.iload X0.here hx rfl (hb hby at_39) rfl hr) ?_
              show OFin p e below s _ _ Q (s₁.setTop (mkF m 41 #[.val (.int fl), .val (.int si), .val (.int pi), .val (.int oi), .val (.int v4), .val (.int v5), .val (.int v6), .unset, .unset, .unset, .unset, .unset, .unset] [(.int v4)]))
              refine OFin.back (fun _ hr => XS.iload X0.here hx rfl (hb hby at_41) rfl hr) ?_
              show OFin p e below s _ _ Q (s₁.setTop (mkF m 43 #[.val (.int fl), .val (.int si), .val (.int pi), .val (.int oi), .val (.int v4), .val (.int v5), .val (.int v6), .unset, .unset, .unset, .unset, .unset, .unset] [(.int v5), (.int v4)]))
              refine OFin.back (fun _ hr => XS.iload X0.here hx rfl (hb hby at_43) rfl hr) ?_
              show OFin p e below s _ _ Q (s₁.setTop (mkF m 45 #[.val (.int fl), .val (.int si), .val (.int pi), .val (.int oi), .val (.int v4), .val (.int v5), .val (.int v6), .unset, .unset, .unset, .unset, .unset, .unset] [(.int v6), (.int v5), (.int v4)]))
              obtain ⟨_, _, ⟨T33, L33, k33, n33⟩, -, X33, ⟨Lc33, hQ33, l33, y33, z33⟩, st33⟩ := Jvm.LawKit.callS X0 hx (y := (⟨"com/example/triplewright/triplewright/store/TripleOrder", "serving", "(III)Lcom/example/triplewright/triplewright/store/TripleOrder;"⟩ : MethodName)) hown (mvT hZ (hw _ (List.mem_of_getElem? (i := 0) rfl))) (mvT hZ (hw _ (List.mem_of_getElem? (i := 1) rfl))) (mvT hZ (hw _ (List.mem_of_getElem? (i := 2) rfl))) (mvT hZ (hw _ (List.mem_of_getElem? (i := 3) rfl))) (by decide) (backOf (W := 0) (rm1 l Z a0 hw [] v4 v5 v6 a_SPO a_POS a_OSP h0 n0 Z0 S_SPO S_POS S_OSP) hZ (hw _ (List.mem_of_getElem? (i := 3) rfl)) (hw _ (List.mem_of_getElem? (i := 2) rfl)) (by decide) (by decide)) (g := (mkF m 45 #[.val (.int fl), .val (.int si), .val (.int pi), .val (.int oi), .val (.int v4), .val (.int v5), .val (.int v6), .unset, .unset, .unset, .unset, .unset, .unset] [(.int v6), (.int v5), (.int v4)])) rfl (by rw [hml]; rfl) (argsL := [(.int v4), (.int v5), (.int v6)]) (rest := []) (lenOf pd0_0 rfl) rfl (by show 2 * 0 + _ ≤ _; exact Nat.le_of_eq rfl) (hb hby at_45) (fun _ _ => ⟨rfl, e0, (by decide : 0 + 0 ≤ _), (by decide : 0 + 0 ≤ _)⟩)
              dsimp only [Pt.U, Pt.locs, Pt.cells, Pt.slots] at X33 l33 y33 z33 st33 hQ33
              subst l33 y33 z33
              obtain ⟨rfl, N33q, e33⟩ := hQ33
              have N33 := Fr.app N0 N33q
              refine OFin.back st33 ?_
              rw [show (own_srv v4 v5 v6 a_SPO a_POS a_OSP) = a_SPO from by simp [own_srv, hs1, hs22, hs32]]
              show OFin p e below s _ _ Q (T33.setTop (mkF m 48 #[.val (.int fl), .val (.int si), .val (.int pi), .val (.int oi), .val (.int v4), .val (.int v5), .val (.int v6), .unset, .unset, .unset, .unset, .unset, .unset] [(.ref a_SPO)]))
              refine OFin.back (fun _ hr => XS.astore X33.here hx rfl (hb hby at_48) rfl rfl (l' := #[.val (.int fl), .val (.int si), .val (.int pi), .val (.int oi), .val (.int v4), .val (.int v5), .val (.int v6), .val (.ref a_SPO), .unset, .unset, .unset, .unset, .unset]) rfl hr) ?_
              show OFin p e below s _ _ Q (T33.setTop (mkF m 50 #[.val (.int fl), .val (.int si), .val (.int pi), .val (.int oi), .val (.int v4), .val (.int v5), .val (.int v6), .val (.ref a_SPO), .unset, .unset, .unset, .unset, .unset] []))
              refine OFin.back (fun _ hr => XS.aload X33.here hx rfl (hb hby at_50) rfl rfl hr) ?_
              show OFin p e below s _ _ Q (T33.setTop (mkF m 52 #[.val (.int fl), .val (.int si), .val (.int pi), .val (.int oi), .val (.int v4), .val (.int v5), .val (.int v6), .val (.ref a_SPO), .unset, .unset, .unset, .unset, .unset] [(.ref a_SPO)]))
              refine OFin.back (fun _ hr => XS.ifnonnullYes X33.here hx rfl (pc0 := 52) (pc' := 57) rfl (hb hby at_52) rfl (by decide) (by decide) hr) ?_
              show OFin p e below s _ _ Q (T33.setTop (mkF m 57 #[.val (.int fl), .val (.int si), .val (.int pi), .val (.int oi), .val (.int v4), .val (.int v5), .val (.int v6), .val (.ref a_SPO), .unset, .unset, .unset, .unset, .unset] []))
              refine OFin.back (fun _ hr => XS.iload X33.here hx rfl (hb hby at_57) rfl hr) ?_
              show OFin p e below s _ _ Q (T33.setTop (mkF m 59 #[.val (.int fl), .val (.int si), .val (.int pi), .val (.int oi), .val (.int v4), .val (.int v5), .val (.int v6), .val (.ref a_SPO), .unset, .unset, .unset, .unset, .unset] [(.int v4)]))
              refine OFin.back (fun _ hr => XS.iconst X33.here hx rfl (hb hby at_59) hr) ?_
              show OFin p e below s _ _ Q (T33.setTop (mkF m 60 #[.val (.int fl), .val (.int si), .val (.int pi), .val (.int oi), .val (.int v4), .val (.int v5), .val (.int v6), .val (.ref a_SPO), .unset, .unset, .unset, .unset, .unset] [(.int (-1 : Int32)), (.int v4)]))
              refine OFin.back (fun _ hr => XS.icmpNo X33.here hx rfl (hb hby at_60) rfl (feq hs1).1 hr) ?_
              show OFin p e below s _ _ Q (T33.setTop (mkF m 63 #[.val (.int fl), .val (.int si), .val (.int pi), .val (.int oi), .val (.int v4), .val (.int v5), .val (.int v6), .val (.ref a_SPO), .unset, .unset, .unset, .unset, .unset] []))
              refine OFin.back (fun _ hr => XS.iconst X33.here hx rfl (hb hby at_63) hr) ?_
              show OFin p e below s _ _ Q (T33.setTop (mkF m 64 #[.val (.int fl), .val (.int si), .val (.int pi), .val (.int oi), .val (.int v4), .val (.int v5), .val (.int v6), .val (.ref a_SPO), .unset, .unset, .unset, .unset, .unset] [(.int (1 : Int32))]))
              refine OFin.back (fun _ hr => XS.goto X33.here hx rfl (pc0 := 64) (pc' := 68) rfl (hb hby at_64) (by decide) (by decide) hr) ?_
              show OFin p e below s _ _ Q (T33.setTop (mkF m 68 #[.val (.int fl), .val (.int si), .val (.int pi), .val (.int oi), .val (.int v4), .val (.int v5), .val (.int v6), .val (.ref a_SPO), .unset, .unset, .unset, .unset, .unset] [(.int (1 : Int32))]))
              refine OFin.back (fun _ hr => XS.istore X33.here hx rfl (hb hby at_68) rfl (l' := #[.val (.int fl), .val (.int si), .val (.int pi), .val (.int oi), .val (.int v4), .val (.int v5), .val (.int v6), .val (.ref a_SPO), .val (.int (1 : Int32)), .unset, .unset, .unset, .unset]) rfl hr) ?_
              show OFin p e below s _ _ Q (T33.setTop (mkF m 70 #[.val (.int fl), .val (.int si), .val (.int pi), .val (.int oi), .val (.int v4), .val (.int v5), .val (.int v6), .val (.ref a_SPO), .val (.int (1 : Int32)), .unset, .unset, .unset, .unset] []))
              refine OFin.back (fun _ hr => XS.iload X33.here hx rfl (hb hby at_70) rfl hr) ?_
              show OFin p e below s _ _ Q (T33.setTop (mkF m 72 #[.val (.int fl), .val (.int si), .val (.int pi), .val (.int oi), .val (.int v4), .val (.int v5), .val (.int v6), .val (.ref a_SPO), .val (.int (1 : Int32)), .unset, .unset, .unset, .unset] [(.int v5)]))
              refine OFin.back (fun _ hr => XS.iconst X33.here hx rfl (hb hby at_72) hr) ?_
              show OFin p e below s _ _ Q (T33.setTop (mkF m 73 #[.val (.int fl), .val (.int si), .val (.int pi), .val (.int oi), .val (.int v4), .val (.int v5), .val (.int v6), .val (.ref a_SPO), .val (.int (1 : Int32)), .unset, .unset, .unset, .unset] [(.int (-1 : Int32)), (.int v5)]))
              refine OFin.back (fun _ hr => XS.icmpNo X33.here hx rfl (hb hby at_73) rfl (feq hs22).1 hr) ?_
              show OFin p e below s _ _ Q (T33.setTop (mkF m 76 #[.val (.int fl), .val (.int si), .val (.int pi), .val (.int oi), .val (.int v4), .val (.int v5), .val (.int v6), .val (.ref a_SPO), .val (.int (1 : Int32)), .unset, .unset, .unset, .unset] []))
              refine OFin.back (fun _ hr => XS.iconst X33.here hx rfl (hb hby at_76) hr) ?_
              show OFin p e below s _ _ Q (T33.setTop (mkF m 77 #[.val (.int fl), .val (.int si), .val (.int pi), .val (.int oi), .val (.int v4), .val (.int v5), .val (.int v6), .val (.ref a_SPO), .val (.int (1 : Int32)), .unset, .unset, .unset, .unset] [(.int (1 : Int32))]))
              refine OFin.back (fun _ hr => XS.goto X33.here hx rfl (pc0 := 77) (pc' := 81) rfl (hb hby at_77) (by decide) (by decide) hr) ?_
              show OFin p e below s _ _ Q (T33.setTop (mkF m 81 #[.val (.int fl), .val (.int si), .val (.int pi), .val (.int oi), .val (.int v4), .val (.int v5), .val (.int v6), .val (.ref a_SPO), .val (.int (1 : Int32)), .unset, .unset, .unset, .unset] [(.int (1 : Int32))]))
              refine OFin.back (fun _ hr => XS.istore X33.here hx rfl (hb hby at_81) rfl (l' := #[.val (.int fl), .val (.int si), .val (.int pi), .val (.int oi), .val (.int v4), .val (.int v5), .val (.int v6), .val (.ref a_SPO), .val (.int (1 : Int32)), .val (.int (1 : Int32)), .unset, .unset, .unset]) rfl hr) ?_
              show OFin p e below s _ _ Q (T33.setTop (mkF m 83 #[.val (.int fl), .val (.int si), .val (.int pi), .val (.int oi), .val (.int v4), .val (.int v5), .val (.int v6), .val (.ref a_SPO), .val (.int (1 : Int32)), .val (.int (1 : Int32)), .unset, .unset, .unset] []))
              refine OFin.back (fun _ hr => XS.iload X33.here hx rfl (hb hby at_83) rfl hr) ?_
              show OFin p e below s _ _ Q (T33.setTop (mkF m 85 #[.val (.int fl), .val (.int si), .val (.int pi), .val (.int oi), .val (.int v4), .val (.int v5), .val (.int v6), .val (.ref a_SPO), .val (.int (1 : Int32)), .val (.int (1 : Int32)), .unset, .unset, .unset] [(.int v6)]))
              refine OFin.back (fun _ hr => XS.iconst X33.here hx rfl (hb hby at_85) hr) ?_
              show OFin p e below s _ _ Q (T33.setTop (mkF m 86 #[.val (.int fl), .val (.int si), .val (.int pi), .val (.int oi), .val (.int v4), .val (.int v5), .val (.int v6), .val (.ref a_SPO), .val (.int (1 : Int32)), .val (.int (1 : Int32)), .unset, .unset, .unset] [(.int (-1 : Int32)), (.int v6)]))
              refine OFin.back (fun _ hr => XS.icmpYes X33.here hx rfl (pc0 := 86) (pc' := 93) rfl (hb hby at_86) rfl (teq hs32).1 (by decide) (by decide) hr) ?_
              show OFin p e below s _ _ Q (T33.setTop (mkF m 93 #[.val (.int fl), .val (.int si), .val (.int pi), .val (.int oi), .val (.int v4), .val (.int v5), .val (.int v6), .val (.ref a_SPO), .val (.int (1 : Int32)), .val (.int (1 : Int32)), .unset, .unset, .unset] []))
              refine OFin.back (fun _ hr => XS.iconst X33.here hx rfl (hb hby at_93) hr) ?_
              show OFin p e below s _ _ Q (T33.setTop (mkF m 94 #[.val (.int fl), .val (.int si), .val (.int pi), .val (.int oi), .val (.int v4), .val (.int v5), .val (.int v6), .val (.ref a_SPO), .val (.int (1 : Int32)), .val (.int (1 : Int32)), .unset, .unset, .unset] [(.int (0 : Int32))]))
              refine OFin.back (fun _ hr => XS.istore X33.here hx rfl (hb hby at_94) rfl (l' := #[.val (.int fl), .val (.int si), .val (.int pi), .val (.int oi), .val (.int v4), .val (.int v5), .val (.int v6), .val (.ref a_SPO), .val (.int (1 : Int32)), .val (.int (1 : Int32)), .val (.int (0 : Int32)), .unset, .unset]) rfl hr) ?_
              show OFin p e below s _ _ Q (T33.setTop (mkF m 96 #[.val (.int fl), .val (.int si), .val (.int pi), .val (.int oi), .val (.int v4), .val (.int v5), .val (.int v6), .val (.ref a_SPO), .val (.int (1 : Int32)), .val (.int (1 : Int32)), .val (.int (0 : Int32)), .unset, .unset] []))
              refine OFin.back (fun _ hr => XS.iconst X33.here hx rfl (hb hby at_96) hr) ?_
              show OFin p e below s _ _ Q (T33.setTop (mkF m 97 #[.val (.int fl), .val (.int si), .val (.int pi), .val (.int oi), .val (.int v4), .val (.int v5), .val (.int v6), .val (.ref a_SPO), .val (.int (1 : Int32)), .val (.int (1 : Int32)), .val (.int (0 : Int32)), .unset, .unset] [(.int (0 : Int32))]))
              refine OFin.back (fun _ hr => XS.istore X33.here hx rfl (hb hby at_97) rfl (l' := #[.val (.int fl), .val (.int si), .val (.int pi), .val (.int oi), .val (.int v4), .val (.int v5), .val (.int v6), .val (.ref a_SPO), .val (.int (1 : Int32)), .val (.int (1 : Int32)), .val (.int (0 : Int32)), .val (.int (0 : Int32)), .unset]) rfl hr) ?_
              show OFin p e below s _ _ Q (T33.setTop (mkF m 99 #[.val (.int fl), .val (.int si), .val (.int pi), .val (.int oi), .val (.int v4), .val (.int v5), .val (.int v6), .val (.ref a_SPO), .val (.int (1 : Int32)), .val (.int (1 : Int32)), .val (.int (0 : Int32)), .val (.int (0 : Int32)), .unset] []))
              refine OFin.back (fun _ hr => XS.iload X33.here hx rfl (hb hby at_99) rfl hr) ?_
              show OFin p e below s _ _ Q (T33.setTop (mkF m 101 #[.val (.int fl), .val (.int si), .val (.int pi), .val (.int oi), .val (.int v4), .val (.int v5), .val (.int v6), .val (.ref a_SPO), .val (.int (1 : Int32)), .val (.int (1 : Int32)), .val (.int (0 : Int32)), .val (.int (0 : Int32)), .unset] [(.int (1 : Int32))]))
              refine OFin.back (fun _ hr => XS.ifNo X33.here hx rfl (hb hby at_101) rfl ((if0 _ _).trans (feq (by decide : ¬ ((1 : Int32) = (0 : Int32)))).1) hr) ?_
              show OFin p e below s _ _ Q (T33.setTop (mkF m 104 #[.val (.int fl), .val (.int si), .val (.int pi), .val (.int oi), .val (.int v4), .val (.int v5), .val (.int v6), .val (.ref a_SPO), .val (.int (1 : Int32)), .val (.int (1 : Int32)), .val (.int (0 : Int32)), .val (.int (0 : Int32)), .unset] []))
              refine OFin.back (fun _ hr => XS.iload X33.here hx rfl (hb hby at_104) rfl hr) ?_
              show OFin p e below s _ _ Q (T33.setTop (mkF m 106 #[.val (.int fl), .val (.int si), .val (.int pi), .val (.int oi), .val (.int v4), .val (.int v5), .val (.int v6), .val (.ref a_SPO), .val (.int (1 : Int32)), .val (.int (1 : Int32)), .val (.int (0 : Int32)), .val (.int (0 : Int32)), .unset] [(.int (0 : Int32))]))
              refine OFin.back (fun _ hr => XS.iconst X33.here hx rfl (hb hby at_106) hr) ?_
              show OFin p e below s _ _ Q (T33.setTop (mkF m 107 #[.val (.int fl), .val (.int si), .val (.int pi), .val (.int oi), .val (.int v4), .val (.int v5), .val (.int v6), .val (.ref a_SPO), .val (.int (1 : Int32)), .val (.int (1 : Int32)), .val (.int (0 : Int32)), .val (.int (0 : Int32)), .unset] [(.int (1 : Int32)), (.int (0 : Int32))]))
              refine OFin.back (fun _ hr => XS.iadd X33.here hx rfl (hb hby at_107) rfl hr) ?_
              show OFin p e below s _ _ Q (T33.setTop (mkF m 108 #[.val (.int fl), .val (.int si), .val (.int pi), .val (.int oi), .val (.int v4), .val (.int v5), .val (.int v6), .val (.ref a_SPO), .val (.int (1 : Int32)), .val (.int (1 : Int32)), .val (.int (0 : Int32)), .val (.int (0 : Int32)), .unset] [(.int (1 : Int32))]))
              refine OFin.back (fun _ hr => XS.istore X33.here hx rfl (hb hby at_108) rfl (l' := #[.val (.int fl), .val (.int si), .val (.int pi), .val (.int oi), .val (.int v4), .val (.int v5), .val (.int v6), .val (.ref a_SPO), .val (.int (1 : Int32)), .val (.int (1 : Int32)), .val (.int (0 : Int32)), .val (.int (1 : Int32)), .unset]) rfl hr) ?_
              show OFin p e below s _ _ Q (T33.setTop (mkF m 110 #[.val (.int fl), .val (.int si), .val (.int pi), .val (.int oi), .val (.int v4), .val (.int v5), .val (.int v6), .val (.ref a_SPO), .val (.int (1 : Int32)), .val (.int (1 : Int32)), .val (.int (0 : Int32)), .val (.int (1 : Int32)), .unset] []))
              refine OFin.back (fun _ hr => XS.iload X33.here hx rfl (hb hby at_110) rfl hr) ?_
              show OFin p e below s _ _ Q (T33.setTop (mkF m 112 #[.val (.int fl), .val (.int si), .val (.int pi), .val (.int oi), .val (.int v4), .val (.int v5), .val (.int v6), .val (.ref a_SPO), .val (.int (1 : Int32)), .val (.int (1 : Int32)), .val (.int (0 : Int32)), .val (.int (1 : Int32)), .unset] [(.int (1 : Int32))]))
              refine OFin.back (fun _ hr => XS.ifNo X33.here hx rfl (hb hby at_112) rfl ((if0 _ _).trans (feq (by decide : ¬ ((1 : Int32) = (0 : Int32)))).1) hr) ?_
              show OFin p e below s _ _ Q (T33.setTop (mkF m 115 #[.val (.int fl), .val (.int si), .val (.int pi), .val (.int oi), .val (.int v4), .val (.int v5), .val (.int v6), .val (.ref a_SPO), .val (.int (1 : Int32)), .val (.int (1 : Int32)), .val (.int (0 : Int32)), .val (.int (1 : Int32)), .unset] []))
              refine OFin.back (fun _ hr => XS.iload X33.here hx rfl (hb hby at_115) rfl hr) ?_
              show OFin p e below s _ _ Q (T33.setTop (mkF m 117 #[.val (.int fl), .val (.int si), .val (.int pi), .val (.int oi), .val (.int v4), .val (.int v5), .val (.int v6), .val (.ref a_SPO), .val (.int (1 : Int32)), .val (.int (1 : Int32)), .val (.int (0 : Int32)), .val (.int (1 : Int32)), .unset] [(.int (1 : Int32))]))
              refine OFin.back (fun _ hr => XS.iconst X33.here hx rfl (hb hby at_117) hr) ?_
              show OFin p e below s _ _ Q (T33.setTop (mkF m 118 #[.val (.int fl), .val (.int si), .val (.int pi), .val (.int oi), .val (.int v4), .val (.int v5), .val (.int v6), .val (.ref a_SPO), .val (.int (1 : Int32)), .val (.int (1 : Int32)), .val (.int (0 : Int32)), .val (.int (1 : Int32)), .unset] [(.int (1 : Int32)), (.int (1 : Int32))]))
              refine OFin.back (fun _ hr => XS.iadd X33.here hx rfl (hb hby at_118) rfl hr) ?_
              show OFin p e below s _ _ Q (T33.setTop (mkF m 119 #[.val (.int fl), .val (.int si), .val (.int pi), .val (.int oi), .val (.int v4), .val (.int v5), .val (.int v6), .val (.ref a_SPO), .val (.int (1 : Int32)), .val (.int (1 : Int32)), .val (.int (0 : Int32)), .val (.int (1 : Int32)), .unset] [(.int (2 : Int32))]))
              refine OFin.back (fun _ hr => XS.istore X33.here hx rfl (hb hby at_119) rfl (l' := #[.val (.int fl), .val (.int si), .val (.int pi), .val (.int oi), .val (.int v4), .val (.int v5), .val (.int v6), .val (.ref a_SPO), .val (.int (1 : Int32)), .val (.int (1 : Int32)), .val (.int (0 : Int32)), .val (.int (2 : Int32)), .unset]) rfl hr) ?_
              show OFin p e below s _ _ Q (T33.setTop (mkF m 121 #[.val (.int fl), .val (.int si), .val (.int pi), .val (.int oi), .val (.int v4), .val (.int v5), .val (.int v6), .val (.ref a_SPO), .val (.int (1 : Int32)), .val (.int (1 : Int32)), .val (.int (0 : Int32)), .val (.int (2 : Int32)), .unset] []))
              refine OFin.back (fun _ hr => XS.iload X33.here hx rfl (hb hby at_121) rfl hr) ?_
              show OFin p e below s _ _ Q (T33.setTop (mkF m 123 #[.val (.int fl), .val (.int si), .val (.int pi), .val (.int oi), .val (.int v4), .val (.int v5), .val (.int v6), .val (.ref a_SPO), .val (.int (1 : Int32)), .val (.int (1 : Int32)), .val (.int (0 : Int32)), .val (.int (2 : Int32)), .unset] [(.int (0 : Int32))]))
              refine OFin.back (fun _ hr => XS.ifYes X33.here hx rfl (pc0 := 123) (pc' := 132) rfl (hb hby at_123) rfl ((if0 _ _).trans (teq (by decide : (0 : Int32) = (0 : Int32))).1) (by decide) (by decide) hr) ?_
              show OFin p e below s _ _ Q (T33.setTop (mkF m 132 #[.val (.int fl), .val (.int si), .val (.int pi), .val (.int oi), .val (.int v4), .val (.int v5), .val (.int v6), .val (.ref a_SPO), .val (.int (1 : Int32)), .val (.int (1 : Int32)), .val (.int (0 : Int32)), .val (.int (2 : Int32)), .unset] []))
              refine OFin.back (fun _ hr => XS.iload X33.here hx rfl (hb hby at_132) rfl hr) ?_
              show OFin p e below s _ _ Q (T33.setTop (mkF m 134 #[.val (.int fl), .val (.int si), .val (.int pi), .val (.int oi), .val (.int v4), .val (.int v5), .val (.int v6), .val (.ref a_SPO), .val (.int (1 : Int32)), .val (.int (1 : Int32)), .val (.int (0 : Int32)), .val (.int (2 : Int32)), .unset] [(.int (1 : Int32))]))
              refine OFin.back (fun _ hr => XS.aload X33.here hx rfl (hb hby at_134) rfl rfl hr) ?_
              show OFin p e below s _ _ Q (T33.setTop (mkF m 136 #[.val (.int fl), .val (.int si), .val (.int pi), .val (.int oi), .val (.int v4), .val (.int v5), .val (.int v6), .val (.ref a_SPO), .val (.int (1 : Int32)), .val (.int (1 : Int32)), .val (.int (0 : Int32)), .val (.int (2 : Int32)), .unset] [(.ref a_SPO), (.int (1 : Int32))]))
              obtain ⟨cq34, kq34, q34a, q34b, q34c⟩ := isOf hZ e33 E_SPO
              obtain ⟨_, _, ⟨T34, L34, k34, n34⟩, -, X34, ⟨Lc34, hQ34, l34, y34, z34⟩, st34⟩ := X33.virtualBack hx (y := (⟨"com/example/triplewright/triplewright/store/TripleOrder", "subjectColumn", "()I"⟩ : MethodName)) (z := (⟨"com/example/triplewright/triplewright/store/TripleOrder", "subjectColumn", "()I"⟩ : MethodName)) hown (mvT hZ (hw _ (List.mem_of_getElem? (i := 6) rfl))) (mvT hZ (hw _ (List.mem_of_getElem? (i := 7) rfl))) (notFace_of_selects (args := #[]) (mvT hZ (hw _ (List.mem_of_getElem? (i := 9) rfl)))) (mvT hZ (hw _ (List.mem_of_getElem? (i := 9) rfl))) (mvT hZ (hw _ (List.mem_of_getElem? (i := 8) rfl))) (by decide) (backOf (W := 1) (rm2 l Z a0 hw [] a_SPO (0 : Int32) h0 n0 Z0 F_SPO_subjectColumn) hZ (hw _ (List.mem_of_getElem? (i := 10) rfl)) (hw _ (List.mem_of_getElem? (i := 2) rfl)) (by decide) (by decide)) q34a q34c (g := (mkF m 136 #[.val (.int fl), .val (.int si), .val (.int pi), .val (.int oi), .val (.int v4), .val (.int v5), .val (.int v6), .val (.ref a_SPO), .val (.int (1 : Int32)), .val (.int (1 : Int32)), .val (.int (0 : Int32)), .val (.int (2 : Int32)), .unset] [(.ref a_SPO), (.int (1 : Int32))])) rfl (by rw [hml]; rfl) (Steps.refl _) (argsL := []) (rest := [(.int (1 : Int32))]) (lenOf pd0_1 rfl) rfl (by show 2 * 0 + _ ≤ _; exact Nat.le_of_eq rfl) (hb hby at_136) (fun _ _ => ⟨rfl, e33, (by decide : 0 + 0 ≤ _), (by decide : 0 + 0 ≤ _)⟩)
              dsimp only [Pt.U, Pt.locs, Pt.cells, Pt.slots] at X34 l34 y34 z34 st34 hQ34
              subst l34 y34 z34
              obtain ⟨rfl, N34q, e34⟩ := hQ34
              have N34 := Fr.app N33 N34q
              refine OFin.via st34 ?_
              show OFin p e below s _ _ Q (T34.setTop (mkF m 139 #[.val (.int fl), .val (.int si), .val (.int pi), .val (.int oi), .val (.int v4), .val (.int v5), .val (.int v6), .val (.ref a_SPO), .val (.int (1 : Int32)), .val (.int (1 : Int32)), .val (.int (0 : Int32)), .val (.int (2 : Int32)), .unset] [(.int (0 : Int32)), (.int (1 : Int32))]))
              refine OFin.back (fun _ hr => XS.iload X34.here hx rfl (hb hby at_139) rfl hr) ?_
              show OFin p e below s _ _ Q (T34.setTop (mkF m 141 #[.val (.int fl), .val (.int si), .val (.int pi), .val (.int oi), .val (.int v4), .val (.int v5), .val (.int v6), .val (.ref a_SPO), .val (.int (1 : Int32)), .val (.int (1 : Int32)), .val (.int (0 : Int32)), .val (.int (2 : Int32)), .unset] [(.int (2 : Int32)), (.int (0 : Int32)), (.int (1 : Int32))]))
              refine OFin.back (fun _ hr => XS.icmpNo X34.here hx rfl (hb hby at_141) rfl (tlt (by decide : (0 : Int32) < (2 : Int32))).2.1 hr) ?_
              show OFin p e below s _ _ Q (T34.setTop (mkF m 144 #[.val (.int fl), .val (.int si), .val (.int pi), .val (.int oi), .val (.int v4), .val (.int v5), .val (.int v6), .val (.ref a_SPO), .val (.int (1 : Int32)), .val (.int (1 : Int32)), .val (.int (0 : Int32)), .val (.int (2 : Int32)), .unset] [(.int (1 : Int32))]))
              refine OFin.back (fun _ hr => XS.iconst X34.here hx rfl (hb hby at_144) hr) ?_
              show OFin p e below s _ _ Q (T34.setTop (mkF m 145 #[.val (.int fl), .val (.int si), .val (.int pi), .val (.int oi), .val (.int v4), .val (.int v5), .val (.int v6), .val (.ref a_SPO), .val (.int (1 : Int32)), .val (.int (1 : Int32)), .val (.int (0 : Int32)), .val (.int (2 : Int32)), .unset] [(.int (1 : Int32)), (.int (1 : Int32))]))
              refine OFin.back (fun _ hr => XS.goto X34.here hx rfl (pc0 := 145) (pc' := 149) rfl (hb hby at_145) (by decide) (by decide) hr) ?_
              show OFin p e below s _ _ Q (T34.setTop (mkF m 149 #[.val (.int fl), .val (.int si), .val (.int pi), .val (.int oi), .val (.int v4), .val (.int v5), .val (.int v6), .val (.ref a_SPO), .val (.int (1 : Int32)), .val (.int (1 : Int32)), .val (.int (0 : Int32)), .val (.int (2 : Int32)), .unset] [(.int (1 : Int32)), (.int (1 : Int32))]))
              refine OFin.back (fun _ hr => XS.icmpNo X34.here hx rfl (hb hby at_149) rfl (teq (by decide : (1 : Int32) = (1 : Int32))).2 hr) ?_
              show OFin p e below s _ _ Q (T34.setTop (mkF m 152 #[.val (.int fl), .val (.int si), .val (.int pi), .val (.int oi), .val (.int v4), .val (.int v5), .val (.int v6), .val (.ref a_SPO), .val (.int (1 : Int32)), .val (.int (1 : Int32)), .val (.int (0 : Int32)), .val (.int (2 : Int32)), .unset] []))
              refine OFin.back (fun _ hr => XS.iload X34.here hx rfl (hb hby at_152) rfl hr) ?_
              show OFin p e below s _ _ Q (T34.setTop (mkF m 154 #[.val (.int fl), .val (.int si), .val (.int pi), .val (.int oi), .val (.int v4), .val (.int v5), .val (.int v6), .val (.ref a_SPO), .val (.int (1 : Int32)), .val (.int (1 : Int32)), .val (.int (0 : Int32)), .val (.int (2 : Int32)), .unset] [(.int (1 : Int32))]))
              refine OFin.back (fun _ hr => XS.aload X34.here hx rfl (hb hby at_154) rfl rfl hr) ?_
              show OFin p e below s _ _ Q (T34.setTop (mkF m 156 #[.val (.int fl), .val (.int si), .val (.int pi), .val (.int oi), .val (.int v4), .val (.int v5), .val (.int v6), .val (.ref a_SPO), .val (.int (1 : Int32)), .val (.int (1 : Int32)), .val (.int (0 : Int32)), .val (.int (2 : Int32)), .unset] [(.ref a_SPO), (.int (1 : Int32))]))
              obtain ⟨cq35, kq35, q35a, q35b, q35c⟩ := isOf hZ e34 E_SPO
              obtain ⟨_, _, ⟨T35, L35, k35, n35⟩, -, X35, ⟨Lc35, hQ35, l35, y35, z35⟩, st35⟩ := X34.virtualBack hx (y := (⟨"com/example/triplewright/triplewright/store/TripleOrder", "predicateColumn", "()I"⟩ : MethodName)) (z := (⟨"com/example/triplewright/triplewright/store/TripleOrder", "predicateColumn", "()I"⟩ : MethodName)) hown (mvT hZ (hw _ (List.mem_of_getElem? (i := 13) rfl))) (mvT hZ (hw _ (List.mem_of_getElem? (i := 14) rfl))) (notFace_of_selects (args := #[]) (mvT hZ (hw _ (List.mem_of_getElem? (i := 16) rfl)))) (mvT hZ (hw _ (List.mem_of_getElem? (i := 16) rfl))) (mvT hZ (hw _ (List.mem_of_getElem? (i := 15) rfl))) (by decide) (backOf (W := 1) (rm3 l Z a0 hw [] a_SPO (1 : Int32) h0 n0 Z0 F_SPO_predicateColumn) hZ (hw _ (List.mem_of_getElem? (i := 17) rfl)) (hw _ (List.mem_of_getElem? (i := 2) rfl)) (by decide) (by decide)) q35a q35c (g := (mkF m 156 #[.val (.int fl), .val (.int si), .val (.int pi), .val (.int oi), .val (.int v4), .val (.int v5), .val (.int v6), .val (.ref a_SPO), .val (.int (1 : Int32)), .val (.int (1 : Int32)), .val (.int (0 : Int32)), .val (.int (2 : Int32)), .unset] [(.ref a_SPO), (.int (1 : Int32))])) rfl (by rw [hml]; rfl) (Steps.refl _) (argsL := []) (rest := [(.int (1 : Int32))]) (lenOf pd0_1 rfl) rfl (by show 2 * 0 + _ ≤ _; exact Nat.le_of_eq rfl) (hb hby at_156) (fun _ _ => ⟨rfl, e34, (by decide : 0 + 0 ≤ _), (by decide : 0 + 0 ≤ _)⟩)
              dsimp only [Pt.U, Pt.locs, Pt.cells, Pt.slots] at X35 l35 y35 z35 st35 hQ35
              subst l35 y35 z35
              obtain ⟨rfl, N35q, e35⟩ := hQ35
              have N35 := Fr.app N34 N35q
              refine OFin.via st35 ?_
              show OFin p e below s _ _ Q (T35.setTop (mkF m 159 #[.val (.int fl), .val (.int si), .val (.int pi), .val (.int oi), .val (.int v4), .val (.int v5), .val (.int v6), .val (.ref a_SPO), .val (.int (1 : Int32)), .val (.int (1 : Int32)), .val (.int (0 : Int32)), .val (.int (2 : Int32)), .unset] [(.int (1 : Int32)), (.int (1 : Int32))]))
              refine OFin.back (fun _ hr => XS.iload X35.here hx rfl (hb hby at_159) rfl hr) ?_
              show OFin p e below s _ _ Q (T35.setTop (mkF m 161 #[.val (.int fl), .val (.int si), .val (.int pi), .val (.int oi), .val (.int v4), .val (.int v5), .val (.int v6), .val (.ref a_SPO), .val (.int (1 : Int32)), .val (.int (1 : Int32)), .val (.int (0 : Int32)), .val (.int (2 : Int32)), .unset] [(.int (2 : Int32)), (.int (1 : Int32)), (.int (1 : Int32))]))
              refine OFin.back (fun _ hr => XS.icmpNo X35.here hx rfl (hb hby at_161) rfl (tlt (by decide : (1 : Int32) < (2 : Int32))).2.1 hr) ?_
              show OFin p e below s _ _ Q (T35.setTop (mkF m 164 #[.val (.int fl), .val (.int si), .val (.int pi), .val (.int oi), .val (.int v4), .val (.int v5), .val (.int v6), .val (.ref a_SPO), .val (.int (1 : Int32)), .val (.int (1 : Int32)), .val (.int (0 : Int32)), .val (.int (2 : Int32)), .unset] [(.int (1 : Int32))]))
              refine OFin.back (fun _ hr => XS.iconst X35.here hx rfl (hb hby at_164) hr) ?_
              show OFin p e below s _ _ Q (T35.setTop (mkF m 165 #[.val (.int fl), .val (.int si), .val (.int pi), .val (.int oi), .val (.int v4), .val (.int v5), .val (.int v6), .val (.ref a_SPO), .val (.int (1 : Int32)), .val (.int (1 : Int32)), .val (.int (0 : Int32)), .val (.int (2 : Int32)), .unset] [(.int (1 : Int32)), (.int (1 : Int32))]))
              refine OFin.back (fun _ hr => XS.goto X35.here hx rfl (pc0 := 165) (pc' := 169) rfl (hb hby at_165) (by decide) (by decide) hr) ?_
              show OFin p e below s _ _ Q (T35.setTop (mkF m 169 #[.val (.int fl), .val (.int si), .val (.int pi), .val (.int oi), .val (.int v4), .val (.int v5), .val (.int v6), .val (.ref a_SPO), .val (.int (1 : Int32)), .val (.int (1 : Int32)), .val (.int (0 : Int32)), .val (.int (2 : Int32)), .unset] [(.int (1 : Int32)), (.int (1 : Int32))]))
              refine OFin.back (fun _ hr => XS.icmpNo X35.here hx rfl (hb hby at_169) rfl (teq (by decide : (1 : Int32) = (1 : Int32))).2 hr) ?_
              show OFin p e below s _ _ Q (T35.setTop (mkF m 172 #[.val (.int fl), .val (.int si), .val (.int pi), .val (.int oi), .val (.int v4), .val (.int v5), .val (.int v6), .val (.ref a_SPO), .val (.int (1 : Int32)), .val (.int (1 : Int32)), .val (.int (0 : Int32)), .val (.int (2 : Int32)), .unset] []))
              refine OFin.back (fun _ hr => XS.iload X35.here hx rfl (hb hby at_172) rfl hr) ?_
              show OFin p e below s _ _ Q (T35.setTop (mkF m 174 #[.val (.int fl), .val (.int si), .val (.int pi), .val (.int oi), .val (.int v4), .val (.int v5), .val (.int v6), .val (.ref a_SPO), .val (.int (1 : Int32)), .val (.int (1 : Int32)), .val (.int (0 : Int32)), .val (.int (2 : Int32)), .unset] [(.int (0 : Int32))]))
              refine OFin.back (fun _ hr => XS.aload X35.here hx rfl (hb hby at_174) rfl rfl hr) ?_
              show OFin p e below s _ _ Q (T35.setTop (mkF m 176 #[.val (.int fl), .val (.int si), .val (.int pi), .val (.int oi), .val (.int v4), .val (.int v5), .val (.int v6), .val (.ref a_SPO), .val (.int (1 : Int32)), .val (.int (1 : Int32)), .val (.int (0 : Int32)), .val (.int (2 : Int32)), .unset] [(.ref a_SPO), (.int (0 : Int32))]))
              obtain ⟨cq36, kq36, q36a, q36b, q36c⟩ := isOf hZ e35 E_SPO
              obtain ⟨_, _, ⟨T36, L36, k36, n36⟩, -, X36, ⟨Lc36, hQ36, l36, y36, z36⟩, st36⟩ := X35.virtualBack hx (y := (⟨"com/example/triplewright/triplewright/store/TripleOrder", "objectColumn", "()I"⟩ : MethodName)) (z := (⟨"com/example/triplewright/triplewright/store/TripleOrder", "objectColumn", "()I"⟩ : MethodName)) hown (mvT hZ (hw _ (List.mem_of_getElem? (i := 20) rfl))) (mvT hZ (hw _ (List.mem_of_getElem? (i := 21) rfl))) (notFace_of_selects (args := #[]) (mvT hZ (hw _ (List.mem_of_getElem? (i := 23) rfl)))) (mvT hZ (hw _ (List.mem_of_getElem? (i := 23) rfl))) (mvT hZ (hw _ (List.mem_of_getElem? (i := 22) rfl))) (by decide) (backOf (W := 1) (rm4 l Z a0 hw [] a_SPO (2 : Int32) h0 n0 Z0 F_SPO_objectColumn) hZ (hw _ (List.mem_of_getElem? (i := 24) rfl)) (hw _ (List.mem_of_getElem? (i := 2) rfl)) (by decide) (by decide)) q36a q36c (g := (mkF m 176 #[.val (.int fl), .val (.int si), .val (.int pi), .val (.int oi), .val (.int v4), .val (.int v5), .val (.int v6), .val (.ref a_SPO), .val (.int (1 : Int32)), .val (.int (1 : Int32)), .val (.int (0 : Int32)), .val (.int (2 : Int32)), .unset] [(.ref a_SPO), (.int (0 : Int32))])) rfl (by rw [hml]; rfl) (Steps.refl _) (argsL := []) (rest := [(.int (0 : Int32))]) (lenOf pd0_1 rfl) rfl (by show 2 * 0 + _ ≤ _; exact Nat.le_of_eq rfl) (hb hby at_176) (fun _ _ => ⟨rfl, e35, (by decide : 0 + 0 ≤ _), (by decide : 0 + 0 ≤ _)⟩)
              dsimp only [Pt.U, Pt.locs, Pt.cells, Pt.slots] at X36 l36 y36 z36 st36 hQ36
              subst l36 y36 z36
              obtain ⟨rfl, N36q, e36⟩ := hQ36
              have N36 := Fr.app N35 N36q
              refine OFin.via st36 ?_
              show OFin p e below s _ _ Q (T36.setTop (mkF m 179 #[.val (.int fl), .val (.int si), .val (.int pi), .val (.int oi), .val (.int v4), .val (.int v5), .val (.int v6), .val (.ref a_SPO), .val (.int (1 : Int32)), .val (.int (1 : Int32)), .val (.int (0 : Int32)), .val (.int (2 : Int32)), .unset] [(.int (2 : Int32)), (.int (0 : Int32))]))
              refine OFin.back (fun _ hr => XS.iload X36.here hx rfl (hb hby at_179) rfl hr) ?_
              show OFin p e below s _ _ Q (T36.setTop (mkF m 181 #[.val (.int fl), .val (.int si), .val (.int pi), .val (.int oi), .val (.int v4), .val (.int v5), .val (.int v6), .val (.ref a_SPO), .val (.int (1 : Int32)), .val (.int (1 : Int32)), .val (.int (0 : Int32)), .val (.int (2 : Int32)), .unset] [(.int (2 : Int32)), (.int (2 : Int32)), (.int (0 : Int32))]))
              refine OFin.back (fun _ hr => XS.icmpYes X36.here hx rfl (pc0 := 181) (pc' := 188) rfl (hb hby at_181) rfl (flt (by decide : ¬ ((2 : Int32) < (2 : Int32)))).2.1 (by decide) (by decide) hr) ?_
              show OFin p e below s _ _ Q (T36.setTop (mkF m 188 #[.val (.int fl), .val (.int si), .val (.int pi), .val (.int oi), .val (.int v4), .val (.int v5), .val (.int v6), .val (.ref a_SPO), .val (.int (1 : Int32)), .val (.int (1 : Int32)), .val (.int (0 : Int32)), .val (.int (2 : Int32)), .unset] [(.int (0 : Int32))]))
              refine OFin.back (fun _ hr => XS.iconst X36.here hx rfl (hb hby at_188) hr) ?_
              show OFin p e below s _ _ Q (T36.setTop (mkF m 189 #[.val (.int fl), .val (.int si), .val (.int pi), .val (.int oi), .val (.int v4), .val (.int v5), .val (.int v6), .val (.ref a_SPO), .val (.int (1 : Int32)), .val (.int (1 : Int32)), .val (.int (0 : Int32)), .val (.int (2 : Int32)), .unset] [(.int (0 : Int32)), (.int (0 : Int32))]))
              refine OFin.back (fun _ hr => XS.icmpNo X36.here hx rfl (hb hby at_189) rfl (teq (by decide : (0 : Int32) = (0 : Int32))).2 hr) ?_
              show OFin p e below s _ _ Q (T36.setTop (mkF m 192 #[.val (.int fl), .val (.int si), .val (.int pi), .val (.int oi), .val (.int v4), .val (.int v5), .val (.int v6), .val (.ref a_SPO), .val (.int (1 : Int32)), .val (.int (1 : Int32)), .val (.int (0 : Int32)), .val (.int (2 : Int32)), .unset] []))
              refine OFin.back (fun _ hr => XS.iconst X36.here hx rfl (hb hby at_192) hr) ?_
              show OFin p e below s _ _ Q (T36.setTop (mkF m 193 #[.val (.int fl), .val (.int si), .val (.int pi), .val (.int oi), .val (.int v4), .val (.int v5), .val (.int v6), .val (.ref a_SPO), .val (.int (1 : Int32)), .val (.int (1 : Int32)), .val (.int (0 : Int32)), .val (.int (2 : Int32)), .unset] [(.int (1 : Int32))]))
              refine OFin.back (fun _ hr => XS.goto X36.here hx rfl (pc0 := 193) (pc' := 197) rfl (hb hby at_193) (by decide) (by decide) hr) ?_
              show OFin p e below s _ _ Q (T36.setTop (mkF m 197 #[.val (.int fl), .val (.int si), .val (.int pi), .val (.int oi), .val (.int v4), .val (.int v5), .val (.int v6), .val (.ref a_SPO), .val (.int (1 : Int32)), .val (.int (1 : Int32)), .val (.int (0 : Int32)), .val (.int (2 : Int32)), .unset] [(.int (1 : Int32))]))
              refine OFin.back (fun _ hr => XS.istore X36.here hx rfl (hb hby at_197) rfl (l' := #[.val (.int fl), .val (.int si), .val (.int pi), .val (.int oi), .val (.int v4), .val (.int v5), .val (.int v6), .val (.ref a_SPO), .val (.int (1 : Int32)), .val (.int (1 : Int32)), .val (.int (0 : Int32)), .val (.int (2 : Int32)), .val (.int (1 : Int32))]) rfl hr) ?_
              show OFin p e below s _ _ Q (T36.setTop (mkF m 199 #[.val (.int fl), .val (.int si), .val (.int pi), .val (.int oi), .val (.int v4), .val (.int v5), .val (.int v6), .val (.ref a_SPO), .val (.int (1 : Int32)), .val (.int (1 : Int32)), .val (.int (0 : Int32)), .val (.int (2 : Int32)), .val (.int (1 : Int32))] []))
              refine OFin.back (fun _ hr => XS.iload X36.here hx rfl (hb hby at_199) rfl hr) ?_
              show OFin p e below s _ _ Q (T36.setTop (mkF m 201 #[.val (.int fl), .val (.int si), .val (.int pi), .val (.int oi), .val (.int v4), .val (.int v5), .val (.int v6), .val (.ref a_SPO), .val (.int (1 : Int32)), .val (.int (1 : Int32)), .val (.int (0 : Int32)), .val (.int (2 : Int32)), .val (.int (1 : Int32))] [(.int (2 : Int32))]))
              refine OFin.back (fun _ hr => XS.iconst X36.here hx rfl (hb hby at_201) hr) ?_
              show OFin p e below s _ _ Q (T36.setTop (mkF m 202 #[.val (.int fl), .val (.int si), .val (.int pi), .val (.int oi), .val (.int v4), .val (.int v5), .val (.int v6), .val (.ref a_SPO), .val (.int (1 : Int32)), .val (.int (1 : Int32)), .val (.int (0 : Int32)), .val (.int (2 : Int32)), .val (.int (1 : Int32))] [(.int (3 : Int32)), (.int (2 : Int32))]))
              refine OFin.back (fun _ hr => XS.icmpYes X36.here hx rfl (pc0 := 202) (pc' := 224) rfl (hb hby at_202) rfl (feq (by decide : ¬ ((2 : Int32) = (3 : Int32)))).2 (by decide) (by decide) hr) ?_
              show OFin p e below s _ _ Q (T36.setTop (mkF m 224 #[.val (.int fl), .val (.int si), .val (.int pi), .val (.int oi), .val (.int v4), .val (.int v5), .val (.int v6), .val (.ref a_SPO), .val (.int (1 : Int32)), .val (.int (1 : Int32)), .val (.int (0 : Int32)), .val (.int (2 : Int32)), .val (.int (1 : Int32))] []))
              refine OFin.back (fun _ hr => XS.iload X36.here hx rfl (hb hby at_224) rfl hr) ?_
              show OFin p e below s _ _ Q (T36.setTop (mkF m 226 #[.val (.int fl), .val (.int si), .val (.int pi), .val (.int oi), .val (.int v4), .val (.int v5), .val (.int v6), .val (.ref a_SPO), .val (.int (1 : Int32)), .val (.int (1 : Int32)), .val (.int (0 : Int32)), .val (.int (2 : Int32)), .val (.int (1 : Int32))] [(.int (2 : Int32))]))
              refine OFin.back (fun _ hr => XS.ifYes X36.here hx rfl (pc0 := 226) (pc' := 248) rfl (hb hby at_226) rfl ((if0 _ _).trans (feq (by decide : ¬ ((2 : Int32) = (0 : Int32)))).2) (by decide) (by decide) hr) ?_
              show OFin p e below s _ _ Q (T36.setTop (mkF m 248 #[.val (.int fl), .val (.int si), .val (.int pi), .val (.int oi), .val (.int v4), .val (.int v5), .val (.int v6), .val (.ref a_SPO), .val (.int (1 : Int32)), .val (.int (1 : Int32)), .val (.int (0 : Int32)), .val (.int (2 : Int32)), .val (.int (1 : Int32))] []))
              refine OFin.back (fun _ hr => XS.iload X36.here hx rfl (hb hby at_248) rfl hr) ?_
              show OFin p e below s _ _ Q (T36.setTop (mkF m 250 #[.val (.int fl), .val (.int si), .val (.int pi), .val (.int oi), .val (.int v4), .val (.int v5), .val (.int v6), .val (.ref a_SPO), .val (.int (1 : Int32)), .val (.int (1 : Int32)), .val (.int (0 : Int32)), .val (.int (2 : Int32)), .val (.int (1 : Int32))] [(.int (1 : Int32))]))
              exact OFin.outN (t := .boolean) X36 hx Bd.returns (by simp) Bd.notSynchronized (hb hby at_250) (by decide) (by decide) e36 (by rw [hQ]; exact ⟨rfl, N36⟩)
            · -- not v6 = (-1 : Int32)
              refine OFin.back (fun _ hr => XS.iload X0.here hx rfl (hb hby at_39) rfl hr) ?_
              show OFin p e below s _ _ Q (s₁.setTop (mkF m 41 #[.val (.int fl), .val (.int si), .val (.int pi), .val (.int oi), .val (.int v4), .val (.int v5), .val (.int v6), .unset, .unset, .unset, .unset, .unset, .unset] [(.int v4)]))
              refine OFin.back (fun _ hr => XS.iload X0.here hx rfl (hb hby at_41) rfl hr) ?_
              show OFin p e below s _ _ Q (s₁.setTop (mkF m 43 #[.val (.int fl), .val (.int si), .val (.int pi), .val (.int oi), .val (.int v4), .val (.int v5), .val (.int v6), .unset, .unset, .unset, .unset, .unset, .unset] [(.int v5), (.int v4)]))
              refine OFin.back (fun _ hr => XS.iload X0.here hx rfl (hb hby at_43) rfl hr) ?_
              show OFin p e below s _ _ Q (s₁.setTop (mkF m 45 #[.val (.int fl), .val (.int si), .val (.int pi), .val (.int oi), .val (.int v4), .val (.int v5), .val (.int v6), .unset, .unset, .unset, .unset, .unset, .unset] [(.int v6), (.int v5), (.int v4)]))
              obtain ⟨_, _, ⟨T37, L37, k37, n37⟩, -, X37, ⟨Lc37, hQ37, l37, y37, z37⟩, st37⟩ := Jvm.LawKit.callS X0 hx (y := (⟨"com/example/triplewright/triplewright/store/TripleOrder", "serving", "(III)Lcom/example/triplewright/triplewright/store/TripleOrder;"⟩ : MethodName)) hown (mvT hZ (hw _ (List.mem_of_getElem? (i := 0) rfl))) (mvT hZ (hw _ (List.mem_of_getElem? (i := 1) rfl))) (mvT hZ (hw _ (List.mem_of_getElem? (i := 2) rfl))) (mvT hZ (hw _ (List.mem_of_getElem? (i := 3) rfl))) (by decide) (backOf (W := 0) (rm1 l Z a0 hw [] v4 v5 v6 a_SPO a_POS a_OSP h0 n0 Z0 S_SPO S_POS S_OSP) hZ (hw _ (List.mem_of_getElem? (i := 3) rfl)) (hw _ (List.mem_of_getElem? (i := 2) rfl)) (by decide) (by decide)) (g := (mkF m 45 #[.val (.int fl), .val (.int si), .val (.int pi), .val (.int oi), .val (.int v4), .val (.int v5), .val (.int v6), .unset, .unset, .unset, .unset, .unset, .unset] [(.int v6), (.int v5), (.int v4)])) rfl (by rw [hml]; rfl) (argsL := [(.int v4), (.int v5), (.int v6)]) (rest := []) (lenOf pd0_0 rfl) rfl (by show 2 * 0 + _ ≤ _; exact Nat.le_of_eq rfl) (hb hby at_45) (fun _ _ => ⟨rfl, e0, (by decide : 0 + 0 ≤ _), (by decide : 0 + 0 ≤ _)⟩)
              dsimp only [Pt.U, Pt.locs, Pt.cells, Pt.slots] at X37 l37 y37 z37 st37 hQ37
              subst l37 y37 z37
              obtain ⟨rfl, N37q, e37⟩ := hQ37
              have N37 := Fr.app N0 N37q
              refine OFin.back st37 ?_
              rw [show (own_srv v4 v5 v6 a_SPO a_POS a_OSP) = a_SPO from by simp [own_srv, hs1, hs22, hs32]]
              show OFin p e below s _ _ Q (T37.setTop (mkF m 48 #[.val (.int fl), .val (.int si), .val (.int pi), .val (.int oi), .val (.int v4), .val (.int v5), .val (.int v6), .unset, .unset, .unset, .unset, .unset, .unset] [(.ref a_SPO)]))
              refine OFin.back (fun _ hr => XS.astore X37.here hx rfl (hb hby at_48) rfl rfl (l' := #[.val (.int fl), .val (.int si), .val (.int pi), .val (.int oi), .val (.int v4), .val (.int v5), .val (.int v6), .val (.ref a_SPO), .unset, .unset, .unset, .unset, .unset]) rfl hr) ?_
              show OFin p e below s _ _ Q (T37.setTop (mkF m 50 #[.val (.int fl), .val (.int si), .val (.int pi), .val (.int oi), .val (.int v4), .val (.int v5), .val (.int v6), .val (.ref a_SPO), .unset, .unset, .unset, .unset, .unset] []))
              refine OFin.back (fun _ hr => XS.aload X37.here hx rfl (hb hby at_50) rfl rfl hr) ?_
              show OFin p e below s _ _ Q (T37.setTop (mkF m 52 #[.val (.int fl), .val (.int si), .val (.int pi), .val (.int oi), .val (.int v4), .val (.int v5), .val (.int v6), .val (.ref a_SPO), .unset, .unset, .unset, .unset, .unset] [(.ref a_SPO)]))
              refine OFin.back (fun _ hr => XS.ifnonnullYes X37.here hx rfl (pc0 := 52) (pc' := 57) rfl (hb hby at_52) rfl (by decide) (by decide) hr) ?_
              show OFin p e below s _ _ Q (T37.setTop (mkF m 57 #[.val (.int fl), .val (.int si), .val (.int pi), .val (.int oi), .val (.int v4), .val (.int v5), .val (.int v6), .val (.ref a_SPO), .unset, .unset, .unset, .unset, .unset] []))
              refine OFin.back (fun _ hr => XS.iload X37.here hx rfl (hb hby at_57) rfl hr) ?_
              show OFin p e below s _ _ Q (T37.setTop (mkF m 59 #[.val (.int fl), .val (.int si), .val (.int pi), .val (.int oi), .val (.int v4), .val (.int v5), .val (.int v6), .val (.ref a_SPO), .unset, .unset, .unset, .unset, .unset] [(.int v4)]))
              refine OFin.back (fun _ hr => XS.iconst X37.here hx rfl (hb hby at_59) hr) ?_
              show OFin p e below s _ _ Q (T37.setTop (mkF m 60 #[.val (.int fl), .val (.int si), .val (.int pi), .val (.int oi), .val (.int v4), .val (.int v5), .val (.int v6), .val (.ref a_SPO), .unset, .unset, .unset, .unset, .unset] [(.int (-1 : Int32)), (.int v4)]))
              refine OFin.back (fun _ hr => XS.icmpNo X37.here hx rfl (hb hby at_60) rfl (feq hs1).1 hr) ?_
              show OFin p e below s _ _ Q (T37.setTop (mkF m 63 #[.val (.int fl), .val (.int si), .val (.int pi), .val (.int oi), .val (.int v4), .val (.int v5), .val (.int v6), .val (.ref a_SPO), .unset, .unset, .unset, .unset, .unset] []))
              refine OFin.back (fun _ hr => XS.iconst X37.here hx rfl (hb hby at_63) hr) ?_
              show OFin p e below s _ _ Q (T37.setTop (mkF m 64 #[.val (.int fl), .val (.int si), .val (.int pi), .val (.int oi), .val (.int v4), .val (.int v5), .val (.int v6), .val (.ref a_SPO), .unset, .unset, .unset, .unset, .unset] [(.int (1 : Int32))]))
              refine OFin.back (fun _ hr => XS.goto X37.here hx rfl (pc0 := 64) (pc' := 68) rfl (hb hby at_64) (by decide) (by decide) hr) ?_
              show OFin p e below s _ _ Q (T37.setTop (mkF m 68 #[.val (.int fl), .val (.int si), .val (.int pi), .val (.int oi), .val (.int v4), .val (.int v5), .val (.int v6), .val (.ref a_SPO), .unset, .unset, .unset, .unset, .unset] [(.int (1 : Int32))]))
              refine OFin.back (fun _ hr => XS.istore X37.here hx rfl (hb hby at_68) rfl (l' := #[.val (.int fl), .val (.int si), .val (.int pi), .val (.int oi), .val (.int v4), .val (.int v5), .val (.int v6), .val (.ref a_SPO), .val (.int (1 : Int32)), .unset, .unset, .unset, .unset]) rfl hr) ?_
              show OFin p e below s _ _ Q (T37.setTop (mkF m 70 #[.val (.int fl), .val (.int si), .val (.int pi), .val (.int oi), .val (.int v4), .val (.int v5), .val (.int v6), .val (.ref a_SPO), .val (.int (1 : Int32)), .unset, .unset, .unset, .unset] []))
              refine OFin.back (fun _ hr => XS.iload X37.here hx rfl (hb hby at_70) rfl hr) ?_
              show OFin p e below s _ _ Q (T37.setTop (mkF m 72 #[.val (.int fl), .val (.int si), .val (.int pi), .val (.int oi), .val (.int v4), .val (.int v5), .val (.int v6), .val (.ref a_SPO), .val (.int (1 : Int32)), .unset, .unset, .unset, .unset] [(.int v5)]))
              refine OFin.back (fun _ hr => XS.iconst X37.here hx rfl (hb hby at_72) hr) ?_
              show OFin p e below s _ _ Q (T37.setTop (mkF m 73 #[.val (.int fl), .val (.int si), .val (.int pi), .val (.int oi), .val (.int v4), .val (.int v5), .val (.int v6), .val (.ref a_SPO), .val (.int (1 : Int32)), .unset, .unset, .unset, .unset] [(.int (-1 : Int32)), (.int v5)]))
              refine OFin.back (fun _ hr => XS.icmpNo X37.here hx rfl (hb hby at_73) rfl (feq hs22).1 hr) ?_
              show OFin p e below s _ _ Q (T37.setTop (mkF m 76 #[.val (.int fl), .val (.int si), .val (.int pi), .val (.int oi), .val (.int v4), .val (.int v5), .val (.int v6), .val (.ref a_SPO), .val (.int (1 : Int32)), .unset, .unset, .unset, .unset] []))
              refine OFin.back (fun _ hr => XS.iconst X37.here hx rfl (hb hby at_76) hr) ?_
              show OFin p e below s _ _ Q (T37.setTop (mkF m 77 #[.val (.int fl), .val (.int si), .val (.int pi), .val (.int oi), .val (.int v4), .val (.int v5), .val (.int v6), .val (.ref a_SPO), .val (.int (1 : Int32)), .unset, .unset, .unset, .unset] [(.int (1 : Int32))]))
              refine OFin.back (fun _ hr => XS.goto X37.here hx rfl (pc0 := 77) (pc' := 81) rfl (hb hby at_77) (by decide) (by decide) hr) ?_
              show OFin p e below s _ _ Q (T37.setTop (mkF m 81 #[.val (.int fl), .val (.int si), .val (.int pi), .val (.int oi), .val (.int v4), .val (.int v5), .val (.int v6), .val (.ref a_SPO), .val (.int (1 : Int32)), .unset, .unset, .unset, .unset] [(.int (1 : Int32))]))
              refine OFin.back (fun _ hr => XS.istore X37.here hx rfl (hb hby at_81) rfl (l' := #[.val (.int fl), .val (.int si), .val (.int pi), .val (.int oi), .val (.int v4), .val (.int v5), .val (.int v6), .val (.ref a_SPO), .val (.int (1 : Int32)), .val (.int (1 : Int32)), .unset, .unset, .unset]) rfl hr) ?_
              show OFin p e below s _ _ Q (T37.setTop (mkF m 83 #[.val (.int fl), .val (.int si), .val (.int pi), .val (.int oi), .val (.int v4), .val (.int v5), .val (.int v6), .val (.ref a_SPO), .val (.int (1 : Int32)), .val (.int (1 : Int32)), .unset, .unset, .unset] []))
              refine OFin.back (fun _ hr => XS.iload X37.here hx rfl (hb hby at_83) rfl hr) ?_
              show OFin p e below s _ _ Q (T37.setTop (mkF m 85 #[.val (.int fl), .val (.int si), .val (.int pi), .val (.int oi), .val (.int v4), .val (.int v5), .val (.int v6), .val (.ref a_SPO), .val (.int (1 : Int32)), .val (.int (1 : Int32)), .unset, .unset, .unset] [(.int v6)]))
              refine OFin.back (fun _ hr => XS.iconst X37.here hx rfl (hb hby at_85) hr) ?_
              show OFin p e below s _ _ Q (T37.setTop (mkF m 86 #[.val (.int fl), .val (.int si), .val (.int pi), .val (.int oi), .val (.int v4), .val (.int v5), .val (.int v6), .val (.ref a_SPO), .val (.int (1 : Int32)), .val (.int (1 : Int32)), .unset, .unset, .unset] [(.int (-1 : Int32)), (.int v6)]))
              refine OFin.back (fun _ hr => XS.icmpNo X37.here hx rfl (hb hby at_86) rfl (feq hs32).1 hr) ?_
              show OFin p e below s _ _ Q (T37.setTop (mkF m 89 #[.val (.int fl), .val (.int si), .val (.int pi), .val (.int oi), .val (.int v4), .val (.int v5), .val (.int v6), .val (.ref a_SPO), .val (.int (1 : Int32)), .val (.int (1 : Int32)), .unset, .unset, .unset] []))
              refine OFin.back (fun _ hr => XS.iconst X37.here hx rfl (hb hby at_89) hr) ?_
              show OFin p e below s _ _ Q (T37.setTop (mkF m 90 #[.val (.int fl), .val (.int si), .val (.int pi), .val (.int oi), .val (.int v4), .val (.int v5), .val (.int v6), .val (.ref a_SPO), .val (.int (1 : Int32)), .val (.int (1 : Int32)), .unset, .unset, .unset] [(.int (1 : Int32))]))
              refine OFin.back (fun _ hr => XS.goto X37.here hx rfl (pc0 := 90) (pc' := 94) rfl (hb hby at_90) (by decide) (by decide) hr) ?_
              show OFin p e below s _ _ Q (T37.setTop (mkF m 94 #[.val (.int fl), .val (.int si), .val (.int pi), .val (.int oi), .val (.int v4), .val (.int v5), .val (.int v6), .val (.ref a_SPO), .val (.int (1 : Int32)), .val (.int (1 : Int32)), .unset, .unset, .unset] [(.int (1 : Int32))]))
              refine OFin.back (fun _ hr => XS.istore X37.here hx rfl (hb hby at_94) rfl (l' := #[.val (.int fl), .val (.int si), .val (.int pi), .val (.int oi), .val (.int v4), .val (.int v5), .val (.int v6), .val (.ref a_SPO), .val (.int (1 : Int32)), .val (.int (1 : Int32)), .val (.int (1 : Int32)), .unset, .unset]) rfl hr) ?_
              show OFin p e below s _ _ Q (T37.setTop (mkF m 96 #[.val (.int fl), .val (.int si), .val (.int pi), .val (.int oi), .val (.int v4), .val (.int v5), .val (.int v6), .val (.ref a_SPO), .val (.int (1 : Int32)), .val (.int (1 : Int32)), .val (.int (1 : Int32)), .unset, .unset] []))
              refine OFin.back (fun _ hr => XS.iconst X37.here hx rfl (hb hby at_96) hr) ?_
              show OFin p e below s _ _ Q (T37.setTop (mkF m 97 #[.val (.int fl), .val (.int si), .val (.int pi), .val (.int oi), .val (.int v4), .val (.int v5), .val (.int v6), .val (.ref a_SPO), .val (.int (1 : Int32)), .val (.int (1 : Int32)), .val (.int (1 : Int32)), .unset, .unset] [(.int (0 : Int32))]))
              refine OFin.back (fun _ hr => XS.istore X37.here hx rfl (hb hby at_97) rfl (l' := #[.val (.int fl), .val (.int si), .val (.int pi), .val (.int oi), .val (.int v4), .val (.int v5), .val (.int v6), .val (.ref a_SPO), .val (.int (1 : Int32)), .val (.int (1 : Int32)), .val (.int (1 : Int32)), .val (.int (0 : Int32)), .unset]) rfl hr) ?_
              show OFin p e below s _ _ Q (T37.setTop (mkF m 99 #[.val (.int fl), .val (.int si), .val (.int pi), .val (.int oi), .val (.int v4), .val (.int v5), .val (.int v6), .val (.ref a_SPO), .val (.int (1 : Int32)), .val (.int (1 : Int32)), .val (.int (1 : Int32)), .val (.int (0 : Int32)), .unset] []))
              refine OFin.back (fun _ hr => XS.iload X37.here hx rfl (hb hby at_99) rfl hr) ?_
              show OFin p e below s _ _ Q (T37.setTop (mkF m 101 #[.val (.int fl), .val (.int si), .val (.int pi), .val (.int oi), .val (.int v4), .val (.int v5), .val (.int v6), .val (.ref a_SPO), .val (.int (1 : Int32)), .val (.int (1 : Int32)), .val (.int (1 : Int32)), .val (.int (0 : Int32)), .unset] [(.int (1 : Int32))]))
              refine OFin.back (fun _ hr => XS.ifNo X37.here hx rfl (hb hby at_101) rfl ((if0 _ _).trans (feq (by decide : ¬ ((1 : Int32) = (0 : Int32)))).1) hr) ?_
              show OFin p e below s _ _ Q (T37.setTop (mkF m 104 #[.val (.int fl), .val (.int si), .val (.int pi), .val (.int oi), .val (.int v4), .val (.int v5), .val (.int v6), .val (.ref a_SPO), .val (.int (1 : Int32)), .val (.int (1 : Int32)), .val (.int (1 : Int32)), .val (.int (0 : Int32)), .unset] []))
              refine OFin.back (fun _ hr => XS.iload X37.here hx rfl (hb hby at_104) rfl hr) ?_
              show OFin p e below s _ _ Q (T37.setTop (mkF m 106 #[.val (.int fl), .val (.int si), .val (.int pi), .val (.int oi), .val (.int v4), .val (.int v5), .val (.int v6), .val (.ref a_SPO), .val (.int (1 : Int32)), .val (.int (1 : Int32)), .val (.int (1 : Int32)), .val (.int (0 : Int32)), .unset] [(.int (0 : Int32))]))
              refine OFin.back (fun _ hr => XS.iconst X37.here hx rfl (hb hby at_106) hr) ?_
              show OFin p e below s _ _ Q (T37.setTop (mkF m 107 #[.val (.int fl), .val (.int si), .val (.int pi), .val (.int oi), .val (.int v4), .val (.int v5), .val (.int v6), .val (.ref a_SPO), .val (.int (1 : Int32)), .val (.int (1 : Int32)), .val (.int (1 : Int32)), .val (.int (0 : Int32)), .unset] [(.int (1 : Int32)), (.int (0 : Int32))]))
              refine OFin.back (fun _ hr => XS.iadd X37.here hx rfl (hb hby at_107) rfl hr) ?_
              show OFin p e below s _ _ Q (T37.setTop (mkF m 108 #[.val (.int fl), .val (.int si), .val (.int pi), .val (.int oi), .val (.int v4), .val (.int v5), .val (.int v6), .val (.ref a_SPO), .val (.int (1 : Int32)), .val (.int (1 : Int32)), .val (.int (1 : Int32)), .val (.int (0 : Int32)), .unset] [(.int (1 : Int32))]))
              refine OFin.back (fun _ hr => XS.istore X37.here hx rfl (hb hby at_108) rfl (l' := #[.val (.int fl), .val (.int si), .val (.int pi), .val (.int oi), .val (.int v4), .val (.int v5), .val (.int v6), .val (.ref a_SPO), .val (.int (1 : Int32)), .val (.int (1 : Int32)), .val (.int (1 : Int32)), .val (.int (1 : Int32)), .unset]) rfl hr) ?_
              show OFin p e below s _ _ Q (T37.setTop (mkF m 110 #[.val (.int fl), .val (.int si), .val (.int pi), .val (.int oi), .val (.int v4), .val (.int v5), .val (.int v6), .val (.ref a_SPO), .val (.int (1 : Int32)), .val (.int (1 : Int32)), .val (.int (1 : Int32)), .val (.int (1 : Int32)), .unset] []))
              refine OFin.back (fun _ hr => XS.iload X37.here hx rfl (hb hby at_110) rfl hr) ?_
              show OFin p e below s _ _ Q (T37.setTop (mkF m 112 #[.val (.int fl), .val (.int si), .val (.int pi), .val (.int oi), .val (.int v4), .val (.int v5), .val (.int v6), .val (.ref a_SPO), .val (.int (1 : Int32)), .val (.int (1 : Int32)), .val (.int (1 : Int32)), .val (.int (1 : Int32)), .unset] [(.int (1 : Int32))]))
              refine OFin.back (fun _ hr => XS.ifNo X37.here hx rfl (hb hby at_112) rfl ((if0 _ _).trans (feq (by decide : ¬ ((1 : Int32) = (0 : Int32)))).1) hr) ?_
              show OFin p e below s _ _ Q (T37.setTop (mkF m 115 #[.val (.int fl), .val (.int si), .val (.int pi), .val (.int oi), .val (.int v4), .val (.int v5), .val (.int v6), .val (.ref a_SPO), .val (.int (1 : Int32)), .val (.int (1 : Int32)), .val (.int (1 : Int32)), .val (.int (1 : Int32)), .unset] []))
              refine OFin.back (fun _ hr => XS.iload X37.here hx rfl (hb hby at_115) rfl hr) ?_
              show OFin p e below s _ _ Q (T37.setTop (mkF m 117 #[.val (.int fl), .val (.int si), .val (.int pi), .val (.int oi), .val (.int v4), .val (.int v5), .val (.int v6), .val (.ref a_SPO), .val (.int (1 : Int32)), .val (.int (1 : Int32)), .val (.int (1 : Int32)), .val (.int (1 : Int32)), .unset] [(.int (1 : Int32))]))
              refine OFin.back (fun _ hr => XS.iconst X37.here hx rfl (hb hby at_117) hr) ?_
              show OFin p e below s _ _ Q (T37.setTop (mkF m 118 #[.val (.int fl), .val (.int si), .val (.int pi), .val (.int oi), .val (.int v4), .val (.int v5), .val (.int v6), .val (.ref a_SPO), .val (.int (1 : Int32)), .val (.int (1 : Int32)), .val (.int (1 : Int32)), .val (.int (1 : Int32)), .unset] [(.int (1 : Int32)), (.int (1 : Int32))]))
              refine OFin.back (fun _ hr => XS.iadd X37.here hx rfl (hb hby at_118) rfl hr) ?_
              show OFin p e below s _ _ Q (T37.setTop (mkF m 119 #[.val (.int fl), .val (.int si), .val (.int pi), .val (.int oi), .val (.int v4), .val (.int v5), .val (.int v6), .val (.ref a_SPO), .val (.int (1 : Int32)), .val (.int (1 : Int32)), .val (.int (1 : Int32)), .val (.int (1 : Int32)), .unset] [(.int (2 : Int32))]))
              refine OFin.back (fun _ hr => XS.istore X37.here hx rfl (hb hby at_119) rfl (l' := #[.val (.int fl), .val (.int si), .val (.int pi), .val (.int oi), .val (.int v4), .val (.int v5), .val (.int v6), .val (.ref a_SPO), .val (.int (1 : Int32)), .val (.int (1 : Int32)), .val (.int (1 : Int32)), .val (.int (2 : Int32)), .unset]) rfl hr) ?_
              show OFin p e below s _ _ Q (T37.setTop (mkF m 121 #[.val (.int fl), .val (.int si), .val (.int pi), .val (.int oi), .val (.int v4), .val (.int v5), .val (.int v6), .val (.ref a_SPO), .val (.int (1 : Int32)), .val (.int (1 : Int32)), .val (.int (1 : Int32)), .val (.int (2 : Int32)), .unset] []))
              refine OFin.back (fun _ hr => XS.iload X37.here hx rfl (hb hby at_121) rfl hr) ?_
              show OFin p e below s _ _ Q (T37.setTop (mkF m 123 #[.val (.int fl), .val (.int si), .val (.int pi), .val (.int oi), .val (.int v4), .val (.int v5), .val (.int v6), .val (.ref a_SPO), .val (.int (1 : Int32)), .val (.int (1 : Int32)), .val (.int (1 : Int32)), .val (.int (2 : Int32)), .unset] [(.int (1 : Int32))]))
              refine OFin.back (fun _ hr => XS.ifNo X37.here hx rfl (hb hby at_123) rfl ((if0 _ _).trans (feq (by decide : ¬ ((1 : Int32) = (0 : Int32)))).1) hr) ?_
              show OFin p e below s _ _ Q (T37.setTop (mkF m 126 #[.val (.int fl), .val (.int si), .val (.int pi), .val (.int oi), .val (.int v4), .val (.int v5), .val (.int v6), .val (.ref a_SPO), .val (.int (1 : Int32)), .val (.int (1 : Int32)), .val (.int (1 : Int32)), .val (.int (2 : Int32)), .unset] []))
              refine OFin.back (fun _ hr => XS.iload X37.here hx rfl (hb hby at_126) rfl hr) ?_
              show OFin p e below s _ _ Q (T37.setTop (mkF m 128 #[.val (.int fl), .val (.int si), .val (.int pi), .val (.int oi), .val (.int v4), .val (.int v5), .val (.int v6), .val (.ref a_SPO), .val (.int (1 : Int32)), .val (.int (1 : Int32)), .val (.int (1 : Int32)), .val (.int (2 : Int32)), .unset] [(.int (2 : Int32))]))
              refine OFin.back (fun _ hr => XS.iconst X37.here hx rfl (hb hby at_128) hr) ?_
              show OFin p e below s _ _ Q (T37.setTop (mkF m 129 #[.val (.int fl), .val (.int si), .val (.int pi), .val (.int oi), .val (.int v4), .val (.int v5), .val (.int v6), .val (.ref a_SPO), .val (.int (1 : Int32)), .val (.int (1 : Int32)), .val (.int (1 : Int32)), .val (.int (2 : Int32)), .unset] [(.int (1 : Int32)), (.int (2 : Int32))]))
              refine OFin.back (fun _ hr => XS.iadd X37.here hx rfl (hb hby at_129) rfl hr) ?_
              show OFin p e below s _ _ Q (T37.setTop (mkF m 130 #[.val (.int fl), .val (.int si), .val (.int pi), .val (.int oi), .val (.int v4), .val (.int v5), .val (.int v6), .val (.ref a_SPO), .val (.int (1 : Int32)), .val (.int (1 : Int32)), .val (.int (1 : Int32)), .val (.int (2 : Int32)), .unset] [(.int (3 : Int32))]))
              refine OFin.back (fun _ hr => XS.istore X37.here hx rfl (hb hby at_130) rfl (l' := #[.val (.int fl), .val (.int si), .val (.int pi), .val (.int oi), .val (.int v4), .val (.int v5), .val (.int v6), .val (.ref a_SPO), .val (.int (1 : Int32)), .val (.int (1 : Int32)), .val (.int (1 : Int32)), .val (.int (3 : Int32)), .unset]) rfl hr) ?_
              show OFin p e below s _ _ Q (T37.setTop (mkF m 132 #[.val (.int fl), .val (.int si), .val (.int pi), .val (.int oi), .val (.int v4), .val (.int v5), .val (.int v6), .val (.ref a_SPO), .val (.int (1 : Int32)), .val (.int (1 : Int32)), .val (.int (1 : Int32)), .val (.int (3 : Int32)), .unset] []))
              refine OFin.back (fun _ hr => XS.iload X37.here hx rfl (hb hby at_132) rfl hr) ?_
              show OFin p e below s _ _ Q (T37.setTop (mkF m 134 #[.val (.int fl), .val (.int si), .val (.int pi), .val (.int oi), .val (.int v4), .val (.int v5), .val (.int v6), .val (.ref a_SPO), .val (.int (1 : Int32)), .val (.int (1 : Int32)), .val (.int (1 : Int32)), .val (.int (3 : Int32)), .unset] [(.int (1 : Int32))]))
              refine OFin.back (fun _ hr => XS.aload X37.here hx rfl (hb hby at_134) rfl rfl hr) ?_
              show OFin p e below s _ _ Q (T37.setTop (mkF m 136 #[.val (.int fl), .val (.int si), .val (.int pi), .val (.int oi), .val (.int v4), .val (.int v5), .val (.int v6), .val (.ref a_SPO), .val (.int (1 : Int32)), .val (.int (1 : Int32)), .val (.int (1 : Int32)), .val (.int (3 : Int32)), .unset] [(.ref a_SPO), (.int (1 : Int32))]))
              obtain ⟨cq38, kq38, q38a, q38b, q38c⟩ := isOf hZ e37 E_SPO
              obtain ⟨_, _, ⟨T38, L38, k38, n38⟩, -, X38, ⟨Lc38, hQ38, l38, y38, z38⟩, st38⟩ := X37.virtualBack hx (y := (⟨"com/example/triplewright/triplewright/store/TripleOrder", "subjectColumn", "()I"⟩ : MethodName)) (z := (⟨"com/example/triplewright/triplewright/store/TripleOrder", "subjectColumn", "()I"⟩ : MethodName)) hown (mvT hZ (hw _ (List.mem_of_getElem? (i := 6) rfl))) (mvT hZ (hw _ (List.mem_of_getElem? (i := 7) rfl))) (notFace_of_selects (args := #[]) (mvT hZ (hw _ (List.mem_of_getElem? (i := 9) rfl)))) (mvT hZ (hw _ (List.mem_of_getElem? (i := 9) rfl))) (mvT hZ (hw _ (List.mem_of_getElem? (i := 8) rfl))) (by decide) (backOf (W := 1) (rm2 l Z a0 hw [] a_SPO (0 : Int32) h0 n0 Z0 F_SPO_subjectColumn) hZ (hw _ (List.mem_of_getElem? (i := 10) rfl)) (hw _ (List.mem_of_getElem? (i := 2) rfl)) (by decide) (by decide)) q38a q38c (g := (mkF m 136 #[.val (.int fl), .val (.int si), .val (.int pi), .val (.int oi), .val (.int v4), .val (.int v5), .val (.int v6), .val (.ref a_SPO), .val (.int (1 : Int32)), .val (.int (1 : Int32)), .val (.int (1 : Int32)), .val (.int (3 : Int32)), .unset] [(.ref a_SPO), (.int (1 : Int32))])) rfl (by rw [hml]; rfl) (Steps.refl _) (argsL := []) (rest := [(.int (1 : Int32))]) (lenOf pd0_1 rfl) rfl (by show 2 * 0 + _ ≤ _; exact Nat.le_of_eq rfl) (hb hby at_136) (fun _ _ => ⟨rfl, e37, (by decide : 0 + 0 ≤ _), (by decide : 0 + 0 ≤ _)⟩)
              dsimp only [Pt.U, Pt.locs, Pt.cells, Pt.slots] at X38 l38 y38 z38 st38 hQ38
              subst l38 y38 z38
              obtain ⟨rfl, N38q, e38⟩ := hQ38
              have N38 := Fr.app N37 N38q
              refine OFin.via st38 ?_
              show OFin p e below s _ _ Q (T38.setTop (mkF m 139 #[.val (.int fl), .val (.int si), .val (.int pi), .val (.int oi), .val (.int v4), .val (.int v5), .val (.int v6), .val (.ref a_SPO), .val (.int (1 : Int32)), .val (.int (1 : Int32)), .val (.int (1 : Int32)), .val (.int (3 : Int32)), .unset] [(.int (0 : Int32)), (.int (1 : Int32))]))
              refine OFin.back (fun _ hr => XS.iload X38.here hx rfl (hb hby at_139) rfl hr) ?_
              show OFin p e below s _ _ Q (T38.setTop (mkF m 141 #[.val (.int fl), .val (.int si), .val (.int pi), .val (.int oi), .val (.int v4), .val (.int v5), .val (.int v6), .val (.ref a_SPO), .val (.int (1 : Int32)), .val (.int (1 : Int32)), .val (.int (1 : Int32)), .val (.int (3 : Int32)), .unset] [(.int (3 : Int32)), (.int (0 : Int32)), (.int (1 : Int32))]))
              refine OFin.back (fun _ hr => XS.icmpNo X38.here hx rfl (hb hby at_141) rfl (tlt (by decide : (0 : Int32) < (3 : Int32))).2.1 hr) ?_
              show OFin p e below s _ _ Q (T38.setTop (mkF m 144 #[.val (.int fl), .val (.int si), .val (.int pi), .val (.int oi), .val (.int v4), .val (.int v5), .val (.int v6), .val (.ref a_SPO), .val (.int (1 : Int32)), .val (.int (1 : Int32)), .val (.int (1 : Int32)), .val (.int (3 : Int32)), .unset] [(.int (1 : Int32))]))
              refine OFin.back (fun _ hr => XS.iconst X38.here hx rfl (hb hby at_144) hr) ?_
              show OFin p e below s _ _ Q (T38.setTop (mkF m 145 #[.val (.int fl), .val (.int si), .val (.int pi), .val (.int oi), .val (.int v4), .val (.int v5), .val (.int v6), .val (.ref a_SPO), .val (.int (1 : Int32)), .val (.int (1 : Int32)), .val (.int (1 : Int32)), .val (.int (3 : Int32)), .unset] [(.int (1 : Int32)), (.int (1 : Int32))]))
              refine OFin.back (fun _ hr => XS.goto X38.here hx rfl (pc0 := 145) (pc' := 149) rfl (hb hby at_145) (by decide) (by decide) hr) ?_
              show OFin p e below s _ _ Q (T38.setTop (mkF m 149 #[.val (.int fl), .val (.int si), .val (.int pi), .val (.int oi), .val (.int v4), .val (.int v5), .val (.int v6), .val (.ref a_SPO), .val (.int (1 : Int32)), .val (.int (1 : Int32)), .val (.int (1 : Int32)), .val (.int (3 : Int32)), .unset] [(.int (1 : Int32)), (.int (1 : Int32))]))
              refine OFin.back (fun _ hr => XS.icmpNo X38.here hx rfl (hb hby at_149) rfl (teq (by decide : (1 : Int32) = (1 : Int32))).2 hr) ?_
              show OFin p e below s _ _ Q (T38.setTop (mkF m 152 #[.val (.int fl), .val (.int si), .val (.int pi), .val (.int oi), .val (.int v4), .val (.int v5), .val (.int v6), .val (.ref a_SPO), .val (.int (1 : Int32)), .val (.int (1 : Int32)), .val (.int (1 : Int32)), .val (.int (3 : Int32)), .unset] []))
              refine OFin.back (fun _ hr => XS.iload X38.here hx rfl (hb hby at_152) rfl hr) ?_
              show OFin p e below s _ _ Q (T38.setTop (mkF m 154 #[.val (.int fl), .val (.int si), .val (.int pi), .val (.int oi), .val (.int v4), .val (.int v5), .val (.int v6), .val (.ref a_SPO), .val (.int (1 : Int32)), .val (.int (1 : Int32)), .val (.int (1 : Int32)), .val (.int (3 : Int32)), .unset] [(.int (1 : Int32))]))
              refine OFin.back (fun _ hr => XS.aload X38.here hx rfl (hb hby at_154) rfl rfl hr) ?_
              show OFin p e below s _ _ Q (T38.setTop (mkF m 156 #[.val (.int fl), .val (.int si), .val (.int pi), .val (.int oi), .val (.int v4), .val (.int v5), .val (.int v6), .val (.ref a_SPO), .val (.int (1 : Int32)), .val (.int (1 : Int32)), .val (.int (1 : Int32)), .val (.int (3 : Int32)), .unset] [(.ref a_SPO), (.int (1 : Int32))]))
              obtain ⟨cq39, kq39, q39a, q39b, q39c⟩ := isOf hZ e38 E_SPO
              obtain ⟨_, _, ⟨T39, L39, k39, n39⟩, -, X39, ⟨Lc39, hQ39, l39, y39, z39⟩, st39⟩ := X38.virtualBack hx (y := (⟨"com/example/triplewright/triplewright/store/TripleOrder", "predicateColumn", "()I"⟩ : MethodName)) (z := (⟨"com/example/triplewright/triplewright/store/TripleOrder", "predicateColumn", "()I"⟩ : MethodName)) hown (mvT hZ (hw _ (List.mem_of_getElem? (i := 13) rfl))) (mvT hZ (hw _ (List.mem_of_getElem? (i := 14) rfl))) (notFace_of_selects (args := #[]) (mvT hZ (hw _ (List.mem_of_getElem? (i := 16) rfl)))) (mvT hZ (hw _ (List.mem_of_getElem? (i := 16) rfl))) (mvT hZ (hw _ (List.mem_of_getElem? (i := 15) rfl))) (by decide) (backOf (W := 1) (rm3 l Z a0 hw [] a_SPO (1 : Int32) h0 n0 Z0 F_SPO_predicateColumn) hZ (hw _ (List.mem_of_getElem? (i := 17) rfl)) (hw _ (List.mem_of_getElem? (i := 2) rfl)) (by decide) (by decide)) q39a q39c (g := (mkF m 156 #[.val (.int fl), .val (.int si), .val (.int pi), .val (.int oi), .val (.int v4), .val (.int v5), .val (.int v6), .val (.ref a_SPO), .val (.int (1 : Int32)), .val (.int (1 : Int32)), .val (.int (1 : Int32)), .val (.int (3 : Int32)), .unset] [(.ref a_SPO), (.int (1 : Int32))])) rfl (by rw [hml]; rfl) (Steps.refl _) (argsL := []) (rest := [(.int (1 : Int32))]) (lenOf pd0_1 rfl) rfl (by show 2 * 0 + _ ≤ _; exact Nat.le_of_eq rfl) (hb hby at_156) (fun _ _ => ⟨rfl, e38, (by decide : 0 + 0 ≤ _), (by decide : 0 + 0 ≤ _)⟩)
              dsimp only [Pt.U, Pt.locs, Pt.cells, Pt.slots] at X39 l39 y39 z39 st39 hQ39
              subst l39 y39 z39
              obtain ⟨rfl, N39q, e39⟩ := hQ39
              have N39 := Fr.app N38 N39q
              refine OFin.via st39 ?_
              show OFin p e below s _ _ Q (T39.setTop (mkF m 159 #[.val (.int fl), .val (.int si), .val (.int pi), .val (.int oi), .val (.int v4), .val (.int v5), .val (.int v6), .val (.ref a_SPO), .val (.int (1 : Int32)), .val (.int (1 : Int32)), .val (.int (1 : Int32)), .val (.int (3 : Int32)), .unset] [(.int (1 : Int32)), (.int (1 : Int32))]))
              refine OFin.back (fun _ hr => XS.iload X39.here hx rfl (hb hby at_159) rfl hr) ?_
              show OFin p e below s _ _ Q (T39.setTop (mkF m 161 #[.val (.int fl), .val (.int si), .val (.int pi), .val (.int oi), .val (.int v4), .val (.int v5), .val (.int v6), .val (.ref a_SPO), .val (.int (1 : Int32)), .val (.int (1 : Int32)), .val (.int (1 : Int32)), .val (.int (3 : Int32)), .unset] [(.int (3 : Int32)), (.int (1 : Int32)), (.int (1 : Int32))]))
              refine OFin.back (fun _ hr => XS.icmpNo X39.here hx rfl (hb hby at_161) rfl (tlt (by decide : (1 : Int32) < (3 : Int32))).2.1 hr) ?_
              show OFin p e below s _ _ Q (T39.setTop (mkF m 164 #[.val (.int fl), .val (.int si), .val (.int pi), .val (.int oi), .val (.int v4), .val (.int v5), .val (.int v6), .val (.ref a_SPO), .val (.int (1 : Int32)), .val (.int (1 : Int32)), .val (.int (1 : Int32)), .val (.int (3 : Int32)), .unset] [(.int (1 : Int32))]))
              refine OFin.back (fun _ hr => XS.iconst X39.here hx rfl (hb hby at_164) hr) ?_
              show OFin p e below s _ _ Q (T39.setTop (mkF m 165 #[.val (.int fl), .val (.int si), .val (.int pi), .val (.int oi), .val (.int v4), .val (.int v5), .val (.int v6), .val (.ref a_SPO), .val (.int (1 : Int32)), .val (.int (1 : Int32)), .val (.int (1 : Int32)), .val (.int (3 : Int32)), .unset] [(.int (1 : Int32)), (.int (1 : Int32))]))
              refine OFin.back (fun _ hr => XS.goto X39.here hx rfl (pc0 := 165) (pc' := 169) rfl (hb hby at_165) (by decide) (by decide) hr) ?_
              show OFin p e below s _ _ Q (T39.setTop (mkF m 169 #[.val (.int fl), .val (.int si), .val (.int pi), .val (.int oi), .val (.int v4), .val (.int v5), .val (.int v6), .val (.ref a_SPO), .val (.int (1 : Int32)), .val (.int (1 : Int32)), .val (.int (1 : Int32)), .val (.int (3 : Int32)), .unset] [(.int (1 : Int32)), (.int (1 : Int32))]))
              refine OFin.back (fun _ hr => XS.icmpNo X39.here hx rfl (hb hby at_169) rfl (teq (by decide : (1 : Int32) = (1 : Int32))).2 hr) ?_
              show OFin p e below s _ _ Q (T39.setTop (mkF m 172 #[.val (.int fl), .val (.int si), .val (.int pi), .val (.int oi), .val (.int v4), .val (.int v5), .val (.int v6), .val (.ref a_SPO), .val (.int (1 : Int32)), .val (.int (1 : Int32)), .val (.int (1 : Int32)), .val (.int (3 : Int32)), .unset] []))
              refine OFin.back (fun _ hr => XS.iload X39.here hx rfl (hb hby at_172) rfl hr) ?_
              show OFin p e below s _ _ Q (T39.setTop (mkF m 174 #[.val (.int fl), .val (.int si), .val (.int pi), .val (.int oi), .val (.int v4), .val (.int v5), .val (.int v6), .val (.ref a_SPO), .val (.int (1 : Int32)), .val (.int (1 : Int32)), .val (.int (1 : Int32)), .val (.int (3 : Int32)), .unset] [(.int (1 : Int32))]))
              refine OFin.back (fun _ hr => XS.aload X39.here hx rfl (hb hby at_174) rfl rfl hr) ?_
              show OFin p e below s _ _ Q (T39.setTop (mkF m 176 #[.val (.int fl), .val (.int si), .val (.int pi), .val (.int oi), .val (.int v4), .val (.int v5), .val (.int v6), .val (.ref a_SPO), .val (.int (1 : Int32)), .val (.int (1 : Int32)), .val (.int (1 : Int32)), .val (.int (3 : Int32)), .unset] [(.ref a_SPO), (.int (1 : Int32))]))
              obtain ⟨cq40, kq40, q40a, q40b, q40c⟩ := isOf hZ e39 E_SPO
              obtain ⟨_, _, ⟨T40, L40, k40, n40⟩, -, X40, ⟨Lc40, hQ40, l40, y40, z40⟩, st40⟩ := X39.virtualBack hx (y := (⟨"com/example/triplewright/triplewright/store/TripleOrder", "objectColumn", "()I"⟩ : MethodName)) (z := (⟨"com/example/triplewright/triplewright/store/TripleOrder", "objectColumn", "()I"⟩ : MethodName)) hown (mvT hZ (hw _ (List.mem_of_getElem? (i := 20) rfl))) (mvT hZ (hw _ (List.mem_of_getElem? (i := 21) rfl))) (notFace_of_selects (args := #[]) (mvT hZ (hw _ (List.mem_of_getElem? (i := 23) rfl)))) (mvT hZ (hw _ (List.mem_of_getElem? (i := 23) rfl))) (mvT hZ (hw _ (List.mem_of_getElem? (i := 22) rfl))) (by decide) (backOf (W := 1) (rm4 l Z a0 hw [] a_SPO (2 : Int32) h0 n0 Z0 F_SPO_objectColumn) hZ (hw _ (List.mem_of_getElem? (i := 24) rfl)) (hw _ (List.mem_of_getElem? (i := 2) rfl)) (by decide) (by decide)) q40a q40c (g := (mkF m 176 #[.val (.int fl), .val (.int si), .val (.int pi), .val (.int oi), .val (.int v4), .val (.int v5), .val (.int v6), .val (.ref a_SPO), .val (.int (1 : Int32)), .val (.int (1 : Int32)), .val (.int (1 : Int32)), .val (.int (3 : Int32)), .unset] [(.ref a_SPO), (.int (1 : Int32))])) rfl (by rw [hml]; rfl) (Steps.refl _) (argsL := []) (rest := [(.int (1 : Int32))]) (lenOf pd0_1 rfl) rfl (by show 2 * 0 + _ ≤ _; exact Nat.le_of_eq rfl) (hb hby at_176) (fun _ _ => ⟨rfl, e39, (by decide : 0 + 0 ≤ _), (by decide : 0 + 0 ≤ _)⟩)
              dsimp only [Pt.U, Pt.locs, Pt.cells, Pt.slots] at X40 l40 y40 z40 st40 hQ40
              subst l40 y40 z40
              obtain ⟨rfl, N40q, e40⟩ := hQ40
              have N40 := Fr.app N39 N40q
              refine OFin.via st40 ?_
              show OFin p e below s _ _ Q (T40.setTop (mkF m 179 #[.val (.int fl), .val (.int si), .val (.int pi), .val (.int oi), .val (.int v4), .val (.int v5), .val (.int v6), .val (.ref a_SPO), .val (.int (1 : Int32)), .val (.int (1 : Int32)), .val (.int (1 : Int32)), .val (.int (3 : Int32)), .unset] [(.int (2 : Int32)), (.int (1 : Int32))]))
              refine OFin.back (fun _ hr => XS.iload X40.here hx rfl (hb hby at_179) rfl hr) ?_
              show OFin p e below s _ _ Q (T40.setTop (mkF m 181 #[.val (.int fl), .val (.int si), .val (.int pi), .val (.int oi), .val (.int v4), .val (.int v5), .val (.int v6), .val (.ref a_SPO), .val (.int (1 : Int32)), .val (.int (1 : Int32)), .val (.int (1 : Int32)), .val (.int (3 : Int32)), .unset] [(.int (3 : Int32)), (.int (2 : Int32)), (.int (1 : Int32))]))
              refine OFin.back (fun _ hr => XS.icmpNo X40.here hx rfl (hb hby at_181) rfl (tlt (by decide : (2 : Int32) < (3 : Int32))).2.1 hr) ?_
              show OFin p e below s _ _ Q (T40.setTop (mkF m 184 #[.val (.int fl), .val (.int si), .val (.int pi), .val (.int oi), .val (.int v4), .val (.int v5), .val (.int v6), .val (.ref a_SPO), .val (.int (1 : Int32)), .val (.int (1 : Int32)), .val (.int (1 : Int32)), .val (.int (3 : Int32)), .unset] [(.int (1 : Int32))]))
              refine OFin.back (fun _ hr => XS.iconst X40.here hx rfl (hb hby at_184) hr) ?_
              show OFin p e below s _ _ Q (T40.setTop (mkF m 185 #[.val (.int fl), .val (.int si), .val (.int pi), .val (.int oi), .val (.int v4), .val (.int v5), .val (.int v6), .val (.ref a_SPO), .val (.int (1 : Int32)), .val (.int (1 : Int32)), .val (.int (1 : Int32)), .val (.int (3 : Int32)), .unset] [(.int (1 : Int32)), (.int (1 : Int32))]))
              refine OFin.back (fun _ hr => XS.goto X40.here hx rfl (pc0 := 185) (pc' := 189) rfl (hb hby at_185) (by decide) (by decide) hr) ?_
              show OFin p e below s _ _ Q (T40.setTop (mkF m 189 #[.val (.int fl), .val (.int si), .val (.int pi), .val (.int oi), .val (.int v4), .val (.int v5), .val (.int v6), .val (.ref a_SPO), .val (.int (1 : Int32)), .val (.int (1 : Int32)), .val (.int (1 : Int32)), .val (.int (3 : Int32)), .unset] [(.int (1 : Int32)), (.int (1 : Int32))]))
              refine OFin.back (fun _ hr => XS.icmpNo X40.here hx rfl (hb hby at_189) rfl (teq (by decide : (1 : Int32) = (1 : Int32))).2 hr) ?_
              show OFin p e below s _ _ Q (T40.setTop (mkF m 192 #[.val (.int fl), .val (.int si), .val (.int pi), .val (.int oi), .val (.int v4), .val (.int v5), .val (.int v6), .val (.ref a_SPO), .val (.int (1 : Int32)), .val (.int (1 : Int32)), .val (.int (1 : Int32)), .val (.int (3 : Int32)), .unset] []))
              refine OFin.back (fun _ hr => XS.iconst X40.here hx rfl (hb hby at_192) hr) ?_
              show OFin p e below s _ _ Q (T40.setTop (mkF m 193 #[.val (.int fl), .val (.int si), .val (.int pi), .val (.int oi), .val (.int v4), .val (.int v5), .val (.int v6), .val (.ref a_SPO), .val (.int (1 : Int32)), .val (.int (1 : Int32)), .val (.int (1 : Int32)), .val (.int (3 : Int32)), .unset] [(.int (1 : Int32))]))
              refine OFin.back (fun _ hr => XS.goto X40.here hx rfl (pc0 := 193) (pc' := 197) rfl (hb hby at_193) (by decide) (by decide) hr) ?_
              show OFin p e below s _ _ Q (T40.setTop (mkF m 197 #[.val (.int fl), .val (.int si), .val (.int pi), .val (.int oi), .val (.int v4), .val (.int v5), .val (.int v6), .val (.ref a_SPO), .val (.int (1 : Int32)), .val (.int (1 : Int32)), .val (.int (1 : Int32)), .val (.int (3 : Int32)), .unset] [(.int (1 : Int32))]))
              refine OFin.back (fun _ hr => XS.istore X40.here hx rfl (hb hby at_197) rfl (l' := #[.val (.int fl), .val (.int si), .val (.int pi), .val (.int oi), .val (.int v4), .val (.int v5), .val (.int v6), .val (.ref a_SPO), .val (.int (1 : Int32)), .val (.int (1 : Int32)), .val (.int (1 : Int32)), .val (.int (3 : Int32)), .val (.int (1 : Int32))]) rfl hr) ?_
              show OFin p e below s _ _ Q (T40.setTop (mkF m 199 #[.val (.int fl), .val (.int si), .val (.int pi), .val (.int oi), .val (.int v4), .val (.int v5), .val (.int v6), .val (.ref a_SPO), .val (.int (1 : Int32)), .val (.int (1 : Int32)), .val (.int (1 : Int32)), .val (.int (3 : Int32)), .val (.int (1 : Int32))] []))
              refine OFin.back (fun _ hr => XS.iload X40.here hx rfl (hb hby at_199) rfl hr) ?_
              show OFin p e below s _ _ Q (T40.setTop (mkF m 201 #[.val (.int fl), .val (.int si), .val (.int pi), .val (.int oi), .val (.int v4), .val (.int v5), .val (.int v6), .val (.ref a_SPO), .val (.int (1 : Int32)), .val (.int (1 : Int32)), .val (.int (1 : Int32)), .val (.int (3 : Int32)), .val (.int (1 : Int32))] [(.int (3 : Int32))]))
              refine OFin.back (fun _ hr => XS.iconst X40.here hx rfl (hb hby at_201) hr) ?_
              show OFin p e below s _ _ Q (T40.setTop (mkF m 202 #[.val (.int fl), .val (.int si), .val (.int pi), .val (.int oi), .val (.int v4), .val (.int v5), .val (.int v6), .val (.ref a_SPO), .val (.int (1 : Int32)), .val (.int (1 : Int32)), .val (.int (1 : Int32)), .val (.int (3 : Int32)), .val (.int (1 : Int32))] [(.int (3 : Int32)), (.int (3 : Int32))]))
              refine OFin.back (fun _ hr => XS.icmpNo X40.here hx rfl (hb hby at_202) rfl (teq (by decide : (3 : Int32) = (3 : Int32))).2 hr) ?_
              show OFin p e below s _ _ Q (T40.setTop (mkF m 205 #[.val (.int fl), .val (.int si), .val (.int pi), .val (.int oi), .val (.int v4), .val (.int v5), .val (.int v6), .val (.ref a_SPO), .val (.int (1 : Int32)), .val (.int (1 : Int32)), .val (.int (1 : Int32)), .val (.int (3 : Int32)), .val (.int (1 : Int32))] []))
              refine OFin.back (fun _ hr => XS.iload X40.here hx rfl (hb hby at_205) rfl hr) ?_
              show OFin p e below s _ _ Q (T40.setTop (mkF m 207 #[.val (.int fl), .val (.int si), .val (.int pi), .val (.int oi), .val (.int v4), .val (.int v5), .val (.int v6), .val (.ref a_SPO), .val (.int (1 : Int32)), .val (.int (1 : Int32)), .val (.int (1 : Int32)), .val (.int (3 : Int32)), .val (.int (1 : Int32))] [(.int (1 : Int32))]))
              refine OFin.back (fun _ hr => XS.ifNo X40.here hx rfl (hb hby at_207) rfl ((if0 _ _).trans (feq (by decide : ¬ ((1 : Int32) = (0 : Int32)))).1) hr) ?_
              show OFin p e below s _ _ Q (T40.setTop (mkF m 210 #[.val (.int fl), .val (.int si), .val (.int pi), .val (.int oi), .val (.int v4), .val (.int v5), .val (.int v6), .val (.ref a_SPO), .val (.int (1 : Int32)), .val (.int (1 : Int32)), .val (.int (1 : Int32)), .val (.int (3 : Int32)), .val (.int (1 : Int32))] []))
              refine OFin.back (fun _ hr => XS.aload X40.here hx rfl (hb hby at_210) rfl rfl hr) ?_
              show OFin p e below s _ _ Q (T40.setTop (mkF m 212 #[.val (.int fl), .val (.int si), .val (.int pi), .val (.int oi), .val (.int v4), .val (.int v5), .val (.int v6), .val (.ref a_SPO), .val (.int (1 : Int32)), .val (.int (1 : Int32)), .val (.int (1 : Int32)), .val (.int (3 : Int32)), .val (.int (1 : Int32))] [(.ref a_SPO)]))
              obtain ⟨T41, X41, e41, st41⟩ := getS2 X40 hx hZ hown (host := "") (Or.inl (hw _ (List.mem_of_getElem? (i := 27) rfl))) Via.refl e40 S_SPO (g := (mkF m 212 #[.val (.int fl), .val (.int si), .val (.int pi), .val (.int oi), .val (.int v4), .val (.int v5), .val (.int v6), .val (.ref a_SPO), .val (.int (1 : Int32)), .val (.int (1 : Int32)), .val (.int (1 : Int32)), .val (.int (3 : Int32)), .val (.int (1 : Int32))] [(.ref a_SPO)])) rfl (hb hby at_212)
              refine OFin.back st41 ?_
              show OFin p e below s _ _ Q (T41.setTop (mkF m 215 #[.val (.int fl), .val (.int si), .val (.int pi), .val (.int oi), .val (.int v4), .val (.int v5), .val (.int v6), .val (.ref a_SPO), .val (.int (1 : Int32)), .val (.int (1 : Int32)), .val (.int (1 : Int32)), .val (.int (3 : Int32)), .val (.int (1 : Int32))] [(.ref a_SPO), (.ref a_SPO)]))
              refine OFin.back (fun _ hr => Jvm.RoadKit.acmp (g := (mkF m 215 #[.val (.int fl), .val (.int si), .val (.int pi), .val (.int oi), .val (.int v4), .val (.int v5), .val (.int v6), .val (.ref a_SPO), .val (.int (1 : Int32)), .val (.int (1 : Int32)), .val (.int (1 : Int32)), .val (.int (3 : Int32)), .val (.int (1 : Int32))] [(.ref a_SPO), (.ref a_SPO)])) X41 hx rfl rfl rfl (pc0 := 215) (pc' := 218) (same := true) rfl (hb hby at_215) rfl (decide_eq_true rfl) (by decide) (by decide) hr) ?_
              show OFin p e below s _ _ Q (T41.setTop (mkF m 218 #[.val (.int fl), .val (.int si), .val (.int pi), .val (.int oi), .val (.int v4), .val (.int v5), .val (.int v6), .val (.ref a_SPO), .val (.int (1 : Int32)), .val (.int (1 : Int32)), .val (.int (1 : Int32)), .val (.int (3 : Int32)), .val (.int (1 : Int32))] []))
              refine OFin.back (fun _ hr => XS.iconst X41.here hx rfl (hb hby at_218) hr) ?_
              show OFin p e below s _ _ Q (T41.setTop (mkF m 219 #[.val (.int fl), .val (.int si), .val (.int pi), .val (.int oi), .val (.int v4), .val (.int v5), .val (.int v6), .val (.ref a_SPO), .val (.int (1 : Int32)), .val (.int (1 : Int32)), .val (.int (1 : Int32)), .val (.int (3 : Int32)), .val (.int (1 : Int32))] [(.int (1 : Int32))]))
              refine OFin.back (fun _ hr => XS.goto X41.here hx rfl (pc0 := 219) (pc' := 223) rfl (hb hby at_219) (by decide) (by decide) hr) ?_
              show OFin p e below s _ _ Q (T41.setTop (mkF m 223 #[.val (.int fl), .val (.int si), .val (.int pi), .val (.int oi), .val (.int v4), .val (.int v5), .val (.int v6), .val (.ref a_SPO), .val (.int (1 : Int32)), .val (.int (1 : Int32)), .val (.int (1 : Int32)), .val (.int (3 : Int32)), .val (.int (1 : Int32))] [(.int (1 : Int32))]))
              exact OFin.outN (t := .boolean) X41 hx Bd.returns (by simp) Bd.notSynchronized (hb hby at_223) (by decide) (by decide) e41 (by rw [hQ]; exact ⟨rfl, N40⟩)
      refine OFin.back (fun _ hr => XS.iloadN X0.here hx rfl (hb hby at_26) rfl hr) ?_
      show OFin p e below s _ _ Q (s₁.setTop (mkF m 27 #[.val (.int fl), .val (.int si), .val (.int pi), .val (.int oi), .val (.int v4), .val (.int v5), .unset, .unset, .unset, .unset, .unset, .unset, .unset] [(.int fl)]))
      refine OFin.back (fun _ hr => XS.iconst X0.here hx rfl (hb hby at_27) hr) ?_
      show OFin p e below s _ _ Q (s₁.setTop (mkF m 28 #[.val (.int fl), .val (.int si), .val (.int pi), .val (.int oi), .val (.int v4), .val (.int v5), .unset, .unset, .unset, .unset, .unset, .unset, .unset] [(.int (4 : Int32)), (.int fl)]))
      refine OFin.back (fun _ hr => XS.iand X0.here hx rfl (hb hby at_28) rfl hr) ?_
      show OFin p e below s _ _ Q (s₁.setTop (mkF m 29 #[.val (.int fl), .val (.int si), .val (.int pi), .val (.int oi), .val (.int v4), .val (.int v5), .unset, .unset, .unset, .unset, .unset, .unset, .unset] [(.int (fl &&& (4 : Int32)))]))
      by_cases hc29_42 : (fl &&& (4 : Int32)) = (0 : Int32)
      · -- (fl &&& (4 : Int32)) = (0 : Int32)
        refine OFin.back (fun _ hr => XS.ifYes X0.here hx rfl (pc0 := 29) (pc' := 36) rfl (hb hby at_29) rfl ((if0 _ _).trans (teq hc29_42).1) (by decide) (by decide) hr) ?_
        show OFin p e below s _ _ Q (s₁.setTop (mkF m 36 #[.val (.int fl), .val (.int si), .val (.int pi), .val (.int oi), .val (.int v4), .val (.int v5), .unset, .unset, .unset, .unset, .unset, .unset, .unset] []))
        refine OFin.back (fun _ hr => XS.iloadN X0.here hx rfl (hb hby at_36) rfl hr) ?_
        show OFin p e below s _ _ Q (s₁.setTop (mkF m 37 #[.val (.int fl), .val (.int si), .val (.int pi), .val (.int oi), .val (.int v4), .val (.int v5), .unset, .unset, .unset, .unset, .unset, .unset, .unset] [(.int oi)]))
        refine OFin.back (fun _ hr => XS.istore X0.here hx rfl (hb hby at_37) rfl (l' := #[.val (.int fl), .val (.int si), .val (.int pi), .val (.int oi), .val (.int v4), .val (.int v5), .val (.int oi), .unset, .unset, .unset, .unset, .unset, .unset]) rfl hr) ?_
        show OFin p e below s _ _ Q (s₁.setTop (mkF m 39 #[.val (.int fl), .val (.int si), .val (.int pi), .val (.int oi), .val (.int v4), .val (.int v5), .val (.int oi), .unset, .unset, .unset, .unset, .unset, .unset] []))
        exact J39 _
      · -- not (fl &&& (4 : Int32)) = (0 : Int32)
        refine OFin.back (fun _ hr => XS.ifNo X0.here hx rfl (hb hby at_29) rfl ((if0 _ _).trans (feq hc29_42).1) hr) ?_
        show OFin p e below s _ _ Q (s₁.setTop (mkF m 32 #[.val (.int fl), .val (.int si), .val (.int pi), .val (.int oi), .val (.int v4), .val (.int v5), .unset, .unset, .unset, .unset, .unset, .unset, .unset] []))
        refine OFin.back (fun _ hr => XS.iconst X0.here hx rfl (hb hby at_32) hr) ?_
        show OFin p e below s _ _ Q (s₁.setTop (mkF m 33 #[.val (.int fl), .val (.int si), .val (.int pi), .val (.int oi), .val (.int v4), .val (.int v5), .unset, .unset, .unset, .unset, .unset, .unset, .unset] [(.int (-1 : Int32))]))
        refine OFin.back (fun _ hr => XS.goto X0.here hx rfl (pc0 := 33) (pc' := 37) rfl (hb hby at_33) (by decide) (by decide) hr) ?_
        show OFin p e below s _ _ Q (s₁.setTop (mkF m 37 #[.val (.int fl), .val (.int si), .val (.int pi), .val (.int oi), .val (.int v4), .val (.int v5), .unset, .unset, .unset, .unset, .unset, .unset, .unset] [(.int (-1 : Int32))]))
        refine OFin.back (fun _ hr => XS.istore X0.here hx rfl (hb hby at_37) rfl (l' := #[.val (.int fl), .val (.int si), .val (.int pi), .val (.int oi), .val (.int v4), .val (.int v5), .val (.int (-1 : Int32)), .unset, .unset, .unset, .unset, .unset, .unset]) rfl hr) ?_
        show OFin p e below s _ _ Q (s₁.setTop (mkF m 39 #[.val (.int fl), .val (.int si), .val (.int pi), .val (.int oi), .val (.int v4), .val (.int v5), .val (.int (-1 : Int32)), .unset, .unset, .unset, .unset, .unset, .unset] []))
        exact J39 _
    refine OFin.back (fun _ hr => XS.iloadN X0.here hx rfl (hb hby at_13) rfl hr) ?_
    show OFin p e below s _ _ Q (s₁.setTop (mkF m 14 #[.val (.int fl), .val (.int si), .val (.int pi), .val (.int oi), .val (.int v4), .unset, .unset, .unset, .unset, .unset, .unset, .unset, .unset] [(.int fl)]))
    refine OFin.back (fun _ hr => XS.iconst X0.here hx rfl (hb hby at_14) hr) ?_
    show OFin p e below s _ _ Q (s₁.setTop (mkF m 15 #[.val (.int fl), .val (.int si), .val (.int pi), .val (.int oi), .val (.int v4), .unset, .unset, .unset, .unset, .unset, .unset, .unset, .unset] [(.int (2 : Int32)), (.int fl)]))
    refine OFin.back (fun _ hr => XS.iand X0.here hx rfl (hb hby at_15) rfl hr) ?_
    show OFin p e below s _ _ Q (s₁.setTop (mkF m 16 #[.val (.int fl), .val (.int si), .val (.int pi), .val (.int oi), .val (.int v4), .unset, .unset, .unset, .unset, .unset, .unset, .unset, .unset] [(.int (fl &&& (2 : Int32)))]))
    by_cases hc16_43 : (fl &&& (2 : Int32)) = (0 : Int32)
    · -- (fl &&& (2 : Int32)) = (0 : Int32)
      refine OFin.back (fun _ hr => XS.ifYes X0.here hx rfl (pc0 := 16) (pc' := 23) rfl (hb hby at_16) rfl ((if0 _ _).trans (teq hc16_43).1) (by decide) (by decide) hr) ?_
      show OFin p e below s _ _ Q (s₁.setTop (mkF m 23 #[.val (.int fl), .val (.int si), .val (.int pi), .val (.int oi), .val (.int v4), .unset, .unset, .unset, .unset, .unset, .unset, .unset, .unset] []))
      refine OFin.back (fun _ hr => XS.iloadN X0.here hx rfl (hb hby at_23) rfl hr) ?_
      show OFin p e below s _ _ Q (s₁.setTop (mkF m 24 #[.val (.int fl), .val (.int si), .val (.int pi), .val (.int oi), .val (.int v4), .unset, .unset, .unset, .unset, .unset, .unset, .unset, .unset] [(.int pi)]))
      refine OFin.back (fun _ hr => XS.istore X0.here hx rfl (hb hby at_24) rfl (l' := #[.val (.int fl), .val (.int si), .val (.int pi), .val (.int oi), .val (.int v4), .val (.int pi), .unset, .unset, .unset, .unset, .unset, .unset, .unset]) rfl hr) ?_
      show OFin p e below s _ _ Q (s₁.setTop (mkF m 26 #[.val (.int fl), .val (.int si), .val (.int pi), .val (.int oi), .val (.int v4), .val (.int pi), .unset, .unset, .unset, .unset, .unset, .unset, .unset] []))
      exact J26 _
    · -- not (fl &&& (2 : Int32)) = (0 : Int32)
      refine OFin.back (fun _ hr => XS.ifNo X0.here hx rfl (hb hby at_16) rfl ((if0 _ _).trans (feq hc16_43).1) hr) ?_
      show OFin p e below s _ _ Q (s₁.setTop (mkF m 19 #[.val (.int fl), .val (.int si), .val (.int pi), .val (.int oi), .val (.int v4), .unset, .unset, .unset, .unset, .unset, .unset, .unset, .unset] []))
      refine OFin.back (fun _ hr => XS.iconst X0.here hx rfl (hb hby at_19) hr) ?_
      show OFin p e below s _ _ Q (s₁.setTop (mkF m 20 #[.val (.int fl), .val (.int si), .val (.int pi), .val (.int oi), .val (.int v4), .unset, .unset, .unset, .unset, .unset, .unset, .unset, .unset] [(.int (-1 : Int32))]))
      refine OFin.back (fun _ hr => XS.goto X0.here hx rfl (pc0 := 20) (pc' := 24) rfl (hb hby at_20) (by decide) (by decide) hr) ?_
      show OFin p e below s _ _ Q (s₁.setTop (mkF m 24 #[.val (.int fl), .val (.int si), .val (.int pi), .val (.int oi), .val (.int v4), .unset, .unset, .unset, .unset, .unset, .unset, .unset, .unset] [(.int (-1 : Int32))]))
      refine OFin.back (fun _ hr => XS.istore X0.here hx rfl (hb hby at_24) rfl (l' := #[.val (.int fl), .val (.int si), .val (.int pi), .val (.int oi), .val (.int v4), .val (.int (-1 : Int32)), .unset, .unset, .unset, .unset, .unset, .unset, .unset]) rfl hr) ?_
      show OFin p e below s _ _ Q (s₁.setTop (mkF m 26 #[.val (.int fl), .val (.int si), .val (.int pi), .val (.int oi), .val (.int v4), .val (.int (-1 : Int32)), .unset, .unset, .unset, .unset, .unset, .unset, .unset] []))
      exact J26 _
  refine OFin.back (fun _ hr => XS.iloadN X0.here hx rfl (hb hby at_0) rfl hr) ?_
  show OFin p e below s _ _ Q (s₁.setTop (mkF m 1 #[.val (.int fl), .val (.int si), .val (.int pi), .val (.int oi), .unset, .unset, .unset, .unset, .unset, .unset, .unset, .unset, .unset] [(.int fl)]))
  refine OFin.back (fun _ hr => XS.iconst X0.here hx rfl (hb hby at_1) hr) ?_
  show OFin p e below s _ _ Q (s₁.setTop (mkF m 2 #[.val (.int fl), .val (.int si), .val (.int pi), .val (.int oi), .unset, .unset, .unset, .unset, .unset, .unset, .unset, .unset, .unset] [(.int (1 : Int32)), (.int fl)]))
  refine OFin.back (fun _ hr => XS.iand X0.here hx rfl (hb hby at_2) rfl hr) ?_
  show OFin p e below s _ _ Q (s₁.setTop (mkF m 3 #[.val (.int fl), .val (.int si), .val (.int pi), .val (.int oi), .unset, .unset, .unset, .unset, .unset, .unset, .unset, .unset, .unset] [(.int (fl &&& (1 : Int32)))]))
  by_cases hc3_44 : (fl &&& (1 : Int32)) = (0 : Int32)
  · -- (fl &&& (1 : Int32)) = (0 : Int32)
    refine OFin.back (fun _ hr => XS.ifYes X0.here hx rfl (pc0 := 3) (pc' := 10) rfl (hb hby at_3) rfl ((if0 _ _).trans (teq hc3_44).1) (by decide) (by decide) hr) ?_
    show OFin p e below s _ _ Q (s₁.setTop (mkF m 10 #[.val (.int fl), .val (.int si), .val (.int pi), .val (.int oi), .unset, .unset, .unset, .unset, .unset, .unset, .unset, .unset, .unset] []))
    refine OFin.back (fun _ hr => XS.iloadN X0.here hx rfl (hb hby at_10) rfl hr) ?_
    show OFin p e below s _ _ Q (s₁.setTop (mkF m 11 #[.val (.int fl), .val (.int si), .val (.int pi), .val (.int oi), .unset, .unset, .unset, .unset, .unset, .unset, .unset, .unset, .unset] [(.int si)]))
    refine OFin.back (fun _ hr => XS.istore X0.here hx rfl (hb hby at_11) rfl (l' := #[.val (.int fl), .val (.int si), .val (.int pi), .val (.int oi), .val (.int si), .unset, .unset, .unset, .unset, .unset, .unset, .unset, .unset]) rfl hr) ?_
    show OFin p e below s _ _ Q (s₁.setTop (mkF m 13 #[.val (.int fl), .val (.int si), .val (.int pi), .val (.int oi), .val (.int si), .unset, .unset, .unset, .unset, .unset, .unset, .unset, .unset] []))
    exact J13 _
  · -- not (fl &&& (1 : Int32)) = (0 : Int32)
    refine OFin.back (fun _ hr => XS.ifNo X0.here hx rfl (hb hby at_3) rfl ((if0 _ _).trans (feq hc3_44).1) hr) ?_
    show OFin p e below s _ _ Q (s₁.setTop (mkF m 6 #[.val (.int fl), .val (.int si), .val (.int pi), .val (.int oi), .unset, .unset, .unset, .unset, .unset, .unset, .unset, .unset, .unset] []))
    refine OFin.back (fun _ hr => XS.iconst X0.here hx rfl (hb hby at_6) hr) ?_
    show OFin p e below s _ _ Q (s₁.setTop (mkF m 7 #[.val (.int fl), .val (.int si), .val (.int pi), .val (.int oi), .unset, .unset, .unset, .unset, .unset, .unset, .unset, .unset, .unset] [(.int (-1 : Int32))]))
    refine OFin.back (fun _ hr => XS.goto X0.here hx rfl (pc0 := 7) (pc' := 11) rfl (hb hby at_7) (by decide) (by decide) hr) ?_
    show OFin p e below s _ _ Q (s₁.setTop (mkF m 11 #[.val (.int fl), .val (.int si), .val (.int pi), .val (.int oi), .unset, .unset, .unset, .unset, .unset, .unset, .unset, .unset, .unset] [(.int (-1 : Int32))]))
    refine OFin.back (fun _ hr => XS.istore X0.here hx rfl (hb hby at_11) rfl (l' := #[.val (.int fl), .val (.int si), .val (.int pi), .val (.int oi), .val (.int (-1 : Int32)), .unset, .unset, .unset, .unset, .unset, .unset, .unset, .unset]) rfl hr) ?_
    show OFin p e below s _ _ Q (s₁.setTop (mkF m 13 #[.val (.int fl), .val (.int si), .val (.int pi), .val (.int oi), .val (.int (-1 : Int32)), .unset, .unset, .unset, .unset, .unset, .unset, .unset, .unset] []))
    exact J13 _
set_option maxRecDepth 65536 in
set_option maxHeartbeats 40000000 in
theorem comes_1 {Post : Tables → Env → Array Value → State → Outcome → State → Prop} (hpost : ∀ tb e args s v u, (limb_1_1.after args s (.returned v) u = true ∧ limb_1_2.after args s (.returned v) u = true ∧ True) → FrameEnd s (.returned v) u (Jvm.fieldLocs frame_1_writes args s ++ Jvm.arrayLocs frame_1_arrays args s ++ Jvm.staticLocs frame_1_statics s) 0 0 → Post tb e args s (.returned v) u) :
    ArmFor flags0 classFile x code maxLocals ret World_1 tables_1 room_1 Calls_1 rest_1 Pre_1 Post := by
  intro l hfl _ _ p e ha hc hk s m args below hf hA hF happ hP
  obtain ⟨hcalls, hrest, hpre⟩ := hP
  obtain ⟨-, -, -, hnamed, -, -, -, hat⟩ := (Spec.applies_iff hf).mp happ
  obtain ⟨hg, hn⟩ := and_e (Cond.before_iff.mp (show (Jvm.Cond.and given_1 narrow_1).before args s = true from hpre))
  obtain ⟨hga, hgb⟩ := and_e hg
  obtain ⟨hgba, hgbb⟩ := and_e hgb
  obtain ⟨hgbba, hgbbb⟩ := and_e hgbb
  obtain ⟨hgbbba, hgbbbb⟩ := and_e hgbbb
  obtain ⟨w0, w1, w2, w3, rfl⟩ : ∃ w0 w1 w2 w3 : Value, args = #[w0, w1, w2, w3] := by
    have hs : args.size = 4 := by simpa [Cond.value, given_1] using hga
    obtain ⟨L⟩ := args
    match L, hs with
    | [w0, w1, w2, w3], _ => exact ⟨w0, w1, w2, w3, rfl⟩
  have hw := fun d (hd : d ∈ tables_1) => atoms_spec (ws := Jvm.Cond.code x code maxLocals ret :: tables_1) hat d (List.mem_cons_of_mem _ hd)
  have hfit : Fit s := fun {y c} hc i hi => by
    obtain ⟨ha, rfl⟩ := Array.getElem?_eq_some_iff.mp hc
    have q := List.all_eq_true.mp ((Array.all_eq_true_iff_forall_mem.mp hF) _ (Array.getElem_mem ha)) i (List.mem_range.mpr hi)
    simpa [Array.getElem?_eq_getElem hi] using q
  obtain ⟨i0, ei0⟩ := is_v hgba
  obtain rfl : w0 = (.int i0) := Option.some.inj ei0
  obtain ⟨i1, ei1⟩ := is_v hgbba
  obtain rfl : w1 = (.int i1) := Option.some.inj ei1
  obtain ⟨i2, ei2⟩ := is_v hgbbba
  obtain rfl : w2 = (.int i2) := Option.some.inj ei2
  obtain ⟨i3, ei3⟩ := is_v hgbbbb
  obtain rfl : w3 = (.int i3) := Option.some.inj ei3
  obtain ⟨hna, hnb⟩ := and_e hn
  obtain ⟨hnba, hnbb⟩ := and_e hnb
  obtain ⟨hnbba, hnbbb⟩ := and_e hnbb
  obtain ⟨hnbbba, hnbbbb⟩ := and_e hnbbb
  obtain ⟨hnbbbba, hnbbbbb⟩ := and_e hnbbbb
  obtain ⟨hnbbbbba, hnbbbbbb⟩ := and_e hnbbbbb
  obtain ⟨hnbbbbbba, hnbbbbbbb⟩ := and_e hnbbbbbb
  obtain ⟨hnbbbbbbba, hnbbbbbbbb⟩ := and_e hnbbbbbbb
  obtain ⟨hnbbbbbbbba, hnbbbbbbbbb⟩ := and_e hnbbbbbbbb
  obtain ⟨hnbbbbbbbbba, hnbbbbbbbbbb⟩ := and_e hnbbbbbbbbb
  obtain ⟨hnbbbbbbbbbba, hnbbbbbbbbbbb⟩ := and_e hnbbbbbbbbbb
  obtain ⟨a_SPO, ev_SPO⟩ := exa_v hna
  have E_SPO : Exa s s.heap a_SPO "com/example/triplewright/triplewright/store/TripleOrder" := Exa.start ev_SPO hna
  have S_SPO : Sta s s.heap "com/example/triplewright/triplewright/store/TripleOrder" "SPO" "Lcom/example/triplewright/triplewright/store/TripleOrder;" (.ref a_SPO) := Sta.start ev_SPO (Or.inr ⟨(hw _ (List.mem_of_getElem? (i := 2) rfl)), (hw _ (List.mem_of_getElem? (i := 5) rfl))⟩)
  obtain ⟨a_OSP, ev_OSP⟩ := exa_v hnbbbba
  have E_OSP : Exa s s.heap a_OSP "com/example/triplewright/triplewright/store/TripleOrder" := Exa.start ev_OSP hnbbbba
  have S_OSP : Sta s s.heap "com/example/triplewright/triplewright/store/TripleOrder" "OSP" "Lcom/example/triplewright/triplewright/store/TripleOrder;" (.ref a_OSP) := Sta.start ev_OSP (Or.inr ⟨(hw _ (List.mem_of_getElem? (i := 2) rfl)), (hw _ (List.mem_of_getElem? (i := 29) rfl))⟩)
  obtain ⟨a_POS, ev_POS⟩ := exa_v hnbbbbbbbba
  have E_POS : Exa s s.heap a_POS "com/example/triplewright/triplewright/store/TripleOrder" := Exa.start ev_POS hnbbbbbbbba
  have S_POS : Sta s s.heap "com/example/triplewright/triplewright/store/TripleOrder" "POS" "Lcom/example/triplewright/triplewright/store/TripleOrder;" (.ref a_POS) := Sta.start ev_POS (Or.inr ⟨(hw _ (List.mem_of_getElem? (i := 2) rfl)), (hw _ (List.mem_of_getElem? (i := 32) rfl))⟩)
  have F_SPO_subjectColumn := own_fldI ev_SPO hnba
  have F_SPO_predicateColumn := own_fldI ev_SPO hnbba
  have F_SPO_objectColumn := own_fldI ev_SPO hnbbba
  have F_OSP_subjectColumn := own_fldI ev_OSP hnbbbbba
  have F_OSP_predicateColumn := own_fldI ev_OSP hnbbbbbba
  have F_OSP_objectColumn := own_fldI ev_OSP hnbbbbbbba
  have F_POS_subjectColumn := own_fldI ev_POS hnbbbbbbbbba
  have F_POS_predicateColumn := own_fldI ev_POS hnbbbbbbbbbba
  have F_POS_objectColumn := own_fldI ev_POS hnbbbbbbbbbbb
  obtain ⟨n, o, h1, h2, h3, _, L, rfl, ⟨rfl, N⟩, hq⟩ := rm0 l s _ hw tables_1 i0 i1 i2 i3 a_SPO a_POS a_OSP s.heap s.heap.size (Nat.le_refl _) S_SPO E_SPO F_SPO_subjectColumn F_SPO_predicateColumn F_SPO_objectColumn S_POS E_POS F_POS_subjectColumn F_POS_predicateColumn F_POS_objectColumn S_OSP E_OSP F_OSP_subjectColumn F_OSP_predicateColumn F_OSP_objectColumn p e ha hc hk s m _ below hf ((Spec.applies_iff_loose hf).mp happ).1 ⟨rfl, State.Warmed39.refl s, rfl⟩ trivial
  refine ⟨n, _, h1, h2, h3, hpost _ _ _ _ _ _ ⟨Cond.after_iff.mpr rfl, Cond.after_iff.mpr (eq_i res_at (Term.int_eval (1)) rfl), trivial⟩ ⟨hq.1, hq.2.1, (hq.2.2.sift fun y hy => Or.inr (N y hy)).mono (by decide) (by decide)⟩⟩
theorem main_1_1 : Claimed_1_1 := comes_1 fun _ _ _ _ _ _ h hF => ⟨h.1, hF⟩
theorem main_1_2 : Claimed_1_2 := comes_1 fun _ _ _ _ _ _ h hF => ⟨h.2.1, hF⟩
end Jvm.Pilot.@@N@@
namespace Jvm.Pilot.@@N@@
open Jvm Jvm.ClassFile Sem Op Lib Jvm.Free Jvm.Stand Jvm.Pilot.@@N@@.Jvm.D
/-! MADE BY PROGRAM (witnessworld.py) out of the Statement's table words and the real class files: 12 classes; the members and pool entries that the words name. The judged class is class 1, her method 1. -/
namespace start1
open Jvm.ClassFile
def u (s : String) : CpInfo := .utf8 (stringToUtf16 s)
/-- a pool by its gaps: so many unusable entries, then the entry; so many at the end -/
def gap : Nat → List CpInfo → List CpInfo
  | 0, r => r
  | n + 1, r => .unusable :: gap n r
def poolList (es : List (Nat × CpInfo)) (last : Nat) : List CpInfo := es.foldr (fun e r => gap e.1 (e.2 :: r)) (gap last [])
def pool (es : List (Nat × CpInfo)) (last : Nat) : Array CpInfo := ⟨poolList es last⟩
def fileOf (pool : Array CpInfo) (this : Nat) (attrs : Array Attribute := #[]) (ms : Array MethodInfo := #[]) (fl : Nat := 33) (sup : Nat := 0) (ifs : Array Nat := #[]) (fds : Array FieldInfo := #[]) : ClassFile where
  minorVersion := 0
  majorVersion := 65
  constantPool := pool
  accessFlags := fl
  thisClass := this
  superClass := sup
  interfaces := ifs
  fields := fds
  methods := ms
  attributes := attrs
def plain (name : String) (sup : Option ClassId) : Class where
  name := name
  kind := .ordinary
  loader := none
  accessFlags := 33
  super := sup
  interfaces := #[]
  cf := none
  fields := #[]
  methods := #[]
  instanceTypes := #[]
  staticTypes := #[]
  resolved := #[]
  callSites := []
  init := .initialized
  statics := none
  mirror := none

def pool0 : Array CpInfo := pool [(5, u "<init>"), (0, u "()V"), (1, .class_ 10), (1, u "java/lang/Object")] 113

def k0m0 : Method := { name := "<init>", desc := "()V", sig := { parameters := [], returnType := none }, accessFlags := 1, code := none }
/-- java/lang/Object -/
def k0 : Class := { plain "java/lang/Object" none with
  accessFlags := 33
  interfaces := #[]
  cf := some (fileOf pool0 8 #[] #[{ accessFlags := 1, nameIndex := 5, descriptorIndex := 6, attributes := #[] }] 33 0 #[] #[])
  fields := #[]
  methods := #[k0m0]
  instanceTypes := #[]
  staticTypes := #[]
  resolved := Array.replicate 124 none
  statics := none }

def pool1 : Array CpInfo := pool [(2, .class_ 4), (1, u "java/lang/Object"), (0, u "<init>"), (0, u "()V"), (2, .methodref 10 11), (0, .class_ 12), (0, .nameAndType 13 14), (0, u "com/example/triplewright/triplewright/store/TripleOrder"), (0, u "serving"), (0, u "(III)Lcom/example/triplewright/triplewright/store/TripleOrder;"), (0, .methodref 10 16), (0, .nameAndType 17 18), (0, u "subjectColumn"), (0, u "()I"), (0, .methodref 10 20), (0, .nameAndType 21 18), (0, u "predicateColumn"), (0, .methodref 10 23), (0, .nameAndType 24 18), (0, u "objectColumn"), (0, .fieldref 10 26), (0, .nameAndType 27 28), (0, u "SPO"), (0, u "Lcom/example/triplewright/triplewright/store/TripleOrder;"), (0, .fieldref 10 30), (0, .nameAndType 31 28), (0, u "OSP"), (0, .class_ 33), (0, u "com/example/triplewright/triplewright/store/TripleOrderServingPinLaw"), (2, u "law"), (0, u "(IIII)Z")] 3

def k1m0 : Method := { name := "<init>", desc := "()V", sig := { parameters := [], returnType := none }, accessFlags := 2, code := none }
def k1c1 : Code := { maxStack := 3, maxLocals := 13, code := code, exceptionTable := #[], attributes := #[] }
def k1m1 : Method := { name := "law", desc := "(IIII)Z", sig := { parameters := [.int, .int, .int, .int], returnType := some .boolean }, accessFlags := 9, code := some k1c1 }
/-- com/example/triplewright/triplewright/store/TripleOrderServingPinLaw -/
def k1 : Class := { plain "com/example/triplewright/triplewright/store/TripleOrderServingPinLaw" (some 0) with
  accessFlags := 49
  interfaces := #[]
  cf := some (fileOf pool1 32 #[] #[{ accessFlags := 2, nameIndex := 5, descriptorIndex := 6, attributes := #[] }, { accessFlags := 9, nameIndex := 36, descriptorIndex := 37, attributes := #[] }] 49 2 #[] #[])
  fields := #[]
  methods := #[k1m0, k1m1]
  instanceTypes := #[]
  staticTypes := #[]
  resolved := Array.replicate 41 none
  statics := none }

def pool2 : Array CpInfo := pool [(1, .class_ 2), (0, u "java/lang/constant/Constable"), (0, .class_ 4), (0, u "java/lang/Object")] 6

/-- java/lang/constant/Constable -/
def k2 : Class := { plain "java/lang/constant/Constable" (some 0) with
  accessFlags := 1537
  interfaces := #[]
  cf := some (fileOf pool2 1 #[] #[] 1537 3 #[] #[])
  fields := #[]
  methods := #[]
  instanceTypes := #[]
  staticTypes := #[]
  resolved := Array.replicate 11 none
  statics := none }

def pool3 : Array CpInfo := pool [(1, .class_ 2), (0, u "java/lang/Comparable"), (0, .class_ 4), (0, u "java/lang/Object")] 7

/-- java/lang/Comparable -/
def k3 : Class := { plain "java/lang/Comparable" (some 0) with
  accessFlags := 1537
  interfaces := #[]
  cf := some (fileOf pool3 1 #[] #[] 1537 3 #[] #[])
  fields := #[]
  methods := #[]
  instanceTypes := #[]
  staticTypes := #[]
  resolved := Array.replicate 12 none
  statics := none }

def pool4 : Array CpInfo := pool [(1, .class_ 2), (0, u "java/io/Serializable"), (0, .class_ 4), (0, u "java/lang/Object")] 2

/-- java/io/Serializable -/
def k4 : Class := { plain "java/io/Serializable" (some 0) with
  accessFlags := 1537
  interfaces := #[]
  cf := some (fileOf pool4 1 #[] #[] 1537 3 #[] #[])
  fields := #[]
  methods := #[]
  instanceTypes := #[]
  staticTypes := #[]
  resolved := Array.replicate 7 none
  statics := none }

def pool5 : Array CpInfo := pool [(2, .class_ 4), (1, u "java/lang/Enum"), (0, u "name"), (0, u "Ljava/lang/String;"), (2, u "ordinal"), (0, u "I"), (1, .class_ 14), (1, u "java/lang/Object"), (4, u "hash"), (86, .class_ 108), (1, u "java/lang/Enum$EnumDesc"), (2, .class_ 112), (0, u "java/lang/constant/Constable"), (0, .class_ 114), (0, u "java/lang/Comparable"), (0, .class_ 116), (0, u "java/io/Serializable")] 87

/-- java/lang/Enum -/
def k5 : Class := { plain "java/lang/Enum" (some 0) with
  accessFlags := 1057
  interfaces := #[2, 3, 4]
  cf := some (fileOf pool5 2 #[.nestMembers #[106]] #[] 1057 12 #[111, 113, 115] #[{ accessFlags := 18, nameIndex := 5, descriptorIndex := 6, attributes := #[] }, { accessFlags := 18, nameIndex := 9, descriptorIndex := 10, attributes := #[] }, { accessFlags := 2, nameIndex := 19, descriptorIndex := 10, attributes := #[] }])
  fields := #[{ name := "name", type := (.object "java/lang/String"), accessFlags := 18, slot := 0, constantValue := 0 }, { name := "ordinal", type := .int, accessFlags := 18, slot := 1, constantValue := 0 }, { name := "hash", type := .int, accessFlags := 2, slot := 2, constantValue := 0 }]
  methods := #[]
  instanceTypes := #[(.object "java/lang/String"), .int, .int]
  staticTypes := #[]
  resolved := Array.replicate 204 none
  statics := none }

def pool6 : Array CpInfo := pool [(1, .class_ 2), (0, u "com/example/triplewright/triplewright/store/TripleOrder"), (0, .fieldref 1 4), (0, .nameAndType 5 6), (0, u "SPO"), (0, u "Lcom/example/triplewright/triplewright/store/TripleOrder;"), (0, .fieldref 1 8), (0, .nameAndType 9 6), (0, u "POS"), (0, .fieldref 1 11), (0, .nameAndType 12 6), (0, u "OSP"), (2, u "$VALUES"), (0, u "[Lcom/example/triplewright/triplewright/store/TripleOrder;"), (6, .class_ 25), (1, u "java/lang/Enum"), (6, .fieldref 1 33), (0, .nameAndType 34 35), (0, u "subjectColumn"), (0, u "I"), (0, .fieldref 1 37), (0, .nameAndType 38 35), (0, u "predicateColumn"), (0, .fieldref 1 40), (0, .nameAndType 41 35), (0, u "objectColumn"), (19, u "serving"), (0, u "(III)Lcom/example/triplewright/triplewright/store/TripleOrder;"), (1, u "()I")] 7

def k6c0 : Code := { maxStack := 2, maxLocals := 4, code := prog_136_method_4_code, exceptionTable := #[], attributes := #[] }
def k6m0 : Method := { name := "serving", desc := "(III)Lcom/example/triplewright/triplewright/store/TripleOrder;", sig := { parameters := [.int, .int, .int], returnType := some (.object "com/example/triplewright/triplewright/store/TripleOrder") }, accessFlags := 8, code := some k6c0 }
def k6c1 : Code := { maxStack := 1, maxLocals := 1, code := prog_136_method_5_code, exceptionTable := #[], attributes := #[] }
def k6m1 : Method := { name := "subjectColumn", desc := "()I", sig := { parameters := [], returnType := some .int }, accessFlags := 0, code := some k6c1 }
def k6c2 : Code := { maxStack := 1, maxLocals := 1, code := prog_136_method_6_code, exceptionTable := #[], attributes := #[] }
def k6m2 : Method := { name := "predicateColumn", desc := "()I", sig := { parameters := [], returnType := some .int }, accessFlags := 0, code := some k6c2 }
def k6c3 : Code := { maxStack := 1, maxLocals := 1, code := prog_136_method_7_code, exceptionTable := #[], attributes := #[] }
def k6m3 : Method := { name := "objectColumn", desc := "()I", sig := { parameters := [], returnType := some .int }, accessFlags := 0, code := some k6c3 }
/-- com/example/triplewright/triplewright/store/TripleOrder -/
def k6 : Class := { plain "com/example/triplewright/triplewright/store/TripleOrder" (some 5) with
  accessFlags := 16432
  interfaces := #[]
  cf := some (fileOf pool6 1 #[] #[{ accessFlags := 8, nameIndex := 61, descriptorIndex := 62, attributes := #[] }, { accessFlags := 0, nameIndex := 34, descriptorIndex := 64, attributes := #[] }, { accessFlags := 0, nameIndex := 38, descriptorIndex := 64, attributes := #[] }, { accessFlags := 0, nameIndex := 41, descriptorIndex := 64, attributes := #[] }] 16432 23 #[] #[{ accessFlags := 16409, nameIndex := 5, descriptorIndex := 6, attributes := #[] }, { accessFlags := 16409, nameIndex := 9, descriptorIndex := 6, attributes := #[] }, { accessFlags := 16409, nameIndex := 12, descriptorIndex := 6, attributes := #[] }, { accessFlags := 18, nameIndex := 34, descriptorIndex := 35, attributes := #[] }, { accessFlags := 18, nameIndex := 38, descriptorIndex := 35, attributes := #[] }, { accessFlags := 18, nameIndex := 41, descriptorIndex := 35, attributes := #[] }, { accessFlags := 4122, nameIndex := 15, descriptorIndex := 16, attributes := #[] }])
  fields := #[{ name := "SPO", type := (.object "com/example/triplewright/triplewright/store/TripleOrder"), accessFlags := 16409, slot := 0, constantValue := 0 }, { name := "POS", type := (.object "com/example/triplewright/triplewright/store/TripleOrder"), accessFlags := 16409, slot := 1, constantValue := 0 }, { name := "OSP", type := (.object "com/example/triplewright/triplewright/store/TripleOrder"), accessFlags := 16409, slot := 2, constantValue := 0 }, { name := "subjectColumn", type := .int, accessFlags := 18, slot := 3, constantValue := 0 }, { name := "predicateColumn", type := .int, accessFlags := 18, slot := 4, constantValue := 0 }, { name := "objectColumn", type := .int, accessFlags := 18, slot := 5, constantValue := 0 }, { name := "$VALUES", type := (.array (.object "com/example/triplewright/triplewright/store/TripleOrder")), accessFlags := 4122, slot := 3, constantValue := 0 }]
  methods := #[k6m0, k6m1, k6m2, k6m3]
  instanceTypes := #[(.object "java/lang/String"), .int, .int, .int, .int, .int]
  staticTypes := #[(.object "com/example/triplewright/triplewright/store/TripleOrder"), (.object "com/example/triplewright/triplewright/store/TripleOrder"), (.object "com/example/triplewright/triplewright/store/TripleOrder"), (.array (.object "com/example/triplewright/triplewright/store/TripleOrder"))]
  resolved := Array.replicate 72 none
  statics := some 0 }

def pool7 : Array CpInfo := pool [(1, u "java/lang/Cloneable"), (0, .class_ 1), (0, u "java/lang/Object"), (0, .class_ 3)] 3

/-- java/lang/Cloneable -/
def k7 : Class := { plain "java/lang/Cloneable" (some 0) with
  accessFlags := 1537
  interfaces := #[]
  cf := some (fileOf pool7 2 #[] #[] 1537 4 #[] #[])
  fields := #[]
  methods := #[]
  instanceTypes := #[]
  staticTypes := #[]
  resolved := Array.replicate 8 none
  statics := none }

/-- the primitive byte -/
def k8 : Class := { plain "byte" none with kind := .primitive 'B', accessFlags := 0x411 }
/-- [B -/
def k9 : Class := { plain "[B" (some 0) with kind := .array 8 .byte, interfaces := #[7, 4], accessFlags := 1041 }

/-- the primitive int -/
def k10 : Class := { plain "int" none with kind := .primitive 'I', accessFlags := 0x411 }
/-- [I -/
def k11 : Class := { plain "[I" (some 0) with kind := .array 10 .int, interfaces := #[7, 4], accessFlags := 1041 }

def heap : Heap := #[{ cls := 6, slots := #[.ref 1, .ref 2, .ref 3, .null], vm := .statics 6 },
  { cls := 6, slots := #[.null, .int 0, .int 0, .int 0, .int 1, .int 2], vm := .none },
  { cls := 6, slots := #[.null, .int 1, .int 0, .int 2, .int 0, .int 1], vm := .none },
  { cls := 6, slots := #[.null, .int 2, .int 0, .int 1, .int 2, .int 0], vm := .none }]
def classes : Array Class := #[k0, k1, k2, k3, k4, k5, k6, k7, k8, k9, k10, k11]
def interned : List (Array UInt16 × Addr) := []
def slotsUsed : Nat := 22
def theMethod : MethodId := ⟨1, 1⟩
def args0 : Array Value := #[.int 4, .int 5, .int 7, .int 8]
def aboutOver (below : List Frame) : State where
  vm := { classes := classes, interned := interned.toArray }
  heap := heap
  slotsUsed := slotsUsed
  threads := #[{ frames := .invoking theMethod args0 :: below }]
def below0 : List Frame := [.native { method := ⟨0, 0⟩, args := #[] }]
def about1 : State := aboutOver below0
def p0 : Program := .bare "" "" ""
def e0 : Env := launch0.env 0 0 0
theorem w_frames : about1.frames = Frame.invoking theMethod args0 :: below0 := rfl
set_option maxRecDepth 65536 in
theorem w_args : argsFit about1.vm theMethod args0 = true := by decide +kernel
set_option maxRecDepth 65536 in
theorem w_heap : heapFits about1 = true := by decide +kernel
set_option maxRecDepth 65536 in
theorem w_runnable : about1.curStatus? = some .runnable := by decide +kernel
set_option maxRecDepth 65536 in
theorem w_alone : about1.alone = true := by decide +kernel
set_option maxRecDepth 65536 in
theorem w_named : about1.methodNamed? x = some theMethod := by decide +kernel
set_option maxRecDepth 65536 in
theorem w_hears : about1.hears theMethod below0 = true := by decide +kernel
set_option maxRecDepth 65536 in
theorem w_ripe : about1.ripe theMethod args0 below0 = true := by decide +kernel
theorem w_running : about1.status = .running := rfl
set_option maxRecDepth 65536 in
theorem w_room : about1.hasRoom e0.platform room_1 = true :=
  launch0.hasRoom_least _ room_1 (by decide +kernel) (by decide +kernel) (by decide +kernel) (by decide +kernel) (by decide +kernel) (by decide +kernel)
theorem allAtoms_all (ts : List Jvm.Cond) (a : Array Jvm.Value) (st : Jvm.State) : (allAtoms ts).before a st = ts.all (fun c => c.before a st) := by
  induction ts with
  | nil => rfl
  | cons c t ih =>
    show (Jvm.Cond.and c (allAtoms t)).before a st = _
    rw [Jvm.Cond.before_and, ih, List.all_cons]
def words1 : List Jvm.Cond := Jvm.Cond.code x code maxLocals ret :: tables_1
/-- a 'code' word, met by the world's own term for the bytes: nothing is compared byte by byte -/
theorem code_word {y : MethodName} {bytes : ByteArray} {mx : Nat} {rt : Option FieldType} {a : Array Value} {s : State} {m : MethodId} {meth : Method} {c : Code} (h1 : s.methodNamed? y = some m) (h2 : s.vm.method? m = some meth) (h3 : meth.code = some c) (h4 : c.code = bytes)
    (h5 : (c.maxLocals == mx && c.exceptionTable.isEmpty && decide (c.maxStack ≤ mostOperands) && decide (meth.sig.returnType = rt) && !meth.locks && decide (parseMethodDescriptor y.desc = some meth.sig)) = true) : (Jvm.Cond.code y bytes mx rt).before a s = true := by
  simp only [Bool.and_eq_true, beq_iff_eq, Bool.not_eq_true', decide_eq_true_eq] at h5
  obtain ⟨⟨⟨⟨⟨g1, g2⟩, g3⟩, g4⟩, g5⟩, g6⟩ := h5
  simp [Cond.before, Cond.holds, Cond.value, h1, h2, h3, h4, g1, g2, g3, g4, g5, g6]
def isCode : Jvm.Cond → Bool
  | .code _ _ _ _ => true
  | _ => false
theorem all_split {L : List Jvm.Cond} {P : Jvm.Cond → Bool} (h1 : L.all (fun c => isCode c || P c) = true) (h2 : ∀ c ∈ L.filter isCode, P c = true) : L.all P = true := by
  refine List.all_eq_true.mpr fun c hc => ?_
  have h := List.all_eq_true.mp h1 c hc
  rcases Bool.eq_false_or_eq_true (isCode c) with hi | hi
  · exact h2 c (List.mem_filter.mpr ⟨hc, hi⟩)
  · simpa [hi] using h
set_option maxRecDepth 65536 in
theorem w_c0 : (Jvm.Cond.code x code maxLocals ret).before args0 about1 = true := code_word (m := ⟨1, 1⟩) (meth := k1m1) (c := k1c1) (by decide +kernel) rfl rfl rfl (by decide +kernel)
set_option maxRecDepth 65536 in
theorem w_c1 : (Jvm.Cond.code ({ cls := "com/example/triplewright/triplewright/store/TripleOrder", name := "serving", desc := "(III)Lcom/example/triplewright/triplewright/store/TripleOrder;" } : Jvm.MethodName) prog_136_method_4_code (4 : Nat) (Option.some (Jvm.ClassFile.FieldType.object "com/example/triplewright/triplewright/store/TripleOrder"))).before args0 about1 = true := code_word (m := ⟨6, 0⟩) (meth := k6m0) (c := k6c0) (by decide +kernel) rfl rfl rfl (by decide +kernel)
set_option maxRecDepth 65536 in
theorem w_c2 : (Jvm.Cond.code ({ cls := "com/example/triplewright/triplewright/store/TripleOrder", name := "subjectColumn", desc := "()I" } : Jvm.MethodName) prog_136_method_5_code (1 : Nat) (Option.some Jvm.ClassFile.FieldType.int)).before args0 about1 = true := code_word (m := ⟨6, 1⟩) (meth := k6m1) (c := k6c1) (by decide +kernel) rfl rfl rfl (by decide +kernel)
set_option maxRecDepth 65536 in
theorem w_c3 : (Jvm.Cond.code ({ cls := "com/example/triplewright/triplewright/store/TripleOrder", name := "predicateColumn", desc := "()I" } : Jvm.MethodName) prog_136_method_6_code (1 : Nat) (Option.some Jvm.ClassFile.FieldType.int)).before args0 about1 = true := code_word (m := ⟨6, 2⟩) (meth := k6m2) (c := k6c2) (by decide +kernel) rfl rfl rfl (by decide +kernel)
set_option maxRecDepth 65536 in
theorem w_c4 : (Jvm.Cond.code ({ cls := "com/example/triplewright/triplewright/store/TripleOrder", name := "objectColumn", desc := "()I" } : Jvm.MethodName) prog_136_method_7_code (1 : Nat) (Option.some Jvm.ClassFile.FieldType.int)).before args0 about1 = true := code_word (m := ⟨6, 3⟩) (meth := k6m3) (c := k6c3) (by decide +kernel) rfl rfl rfl (by decide +kernel)
def codes1 : List Jvm.Cond := [Jvm.Cond.code x code maxLocals ret, Jvm.Cond.code ({ cls := "com/example/triplewright/triplewright/store/TripleOrder", name := "serving", desc := "(III)Lcom/example/triplewright/triplewright/store/TripleOrder;" } : Jvm.MethodName) prog_136_method_4_code (4 : Nat) (Option.some (Jvm.ClassFile.FieldType.object "com/example/triplewright/triplewright/store/TripleOrder")), Jvm.Cond.code ({ cls := "com/example/triplewright/triplewright/store/TripleOrder", name := "subjectColumn", desc := "()I" } : Jvm.MethodName) prog_136_method_5_code (1 : Nat) (Option.some Jvm.ClassFile.FieldType.int), Jvm.Cond.code ({ cls := "com/example/triplewright/triplewright/store/TripleOrder", name := "predicateColumn", desc := "()I" } : Jvm.MethodName) prog_136_method_6_code (1 : Nat) (Option.some Jvm.ClassFile.FieldType.int), Jvm.Cond.code ({ cls := "com/example/triplewright/triplewright/store/TripleOrder", name := "objectColumn", desc := "()I" } : Jvm.MethodName) prog_136_method_7_code (1 : Nat) (Option.some Jvm.ClassFile.FieldType.int)]
set_option maxRecDepth 65536 in
theorem codes_eq : words1.filter isCode = codes1 := rfl
theorem w_codes : ∀ c ∈ words1.filter isCode, c.before args0 about1 = true := by
  rw [codes_eq]
  intro c hc
  simp only [codes1, List.mem_cons, List.not_mem_nil, or_false] at hc
  rcases hc with rfl | rfl | rfl | rfl | rfl
  · exact w_c0
  · exact w_c1
  · exact w_c2
  · exact w_c3
  · exact w_c4
set_option maxRecDepth 65536 in
theorem w_t1 : (words1.take 24).all (fun c => isCode c || c.before args0 about1) = true := by decide +kernel
set_option maxRecDepth 65536 in
theorem w_t2 : (words1.drop 24).all (fun c => isCode c || c.before args0 about1) = true := by decide +kernel
theorem w_tables : (allAtoms (Jvm.Cond.code x code maxLocals ret :: tables_1)).before args0 about1 = true := by
  rw [allAtoms_all]
  show words1.all (fun c => c.before args0 about1) = true
  refine all_split ?_ w_codes
  rw [← List.take_append_drop 24 words1, List.all_append, w_t1, w_t2]
  rfl
set_option maxRecDepth 65536 in
theorem w_case : (Jvm.Cond.and given_1 narrow_1).before args0 about1 = true := by decide +kernel
theorem w_applies : (headSpec (Jvm.Cond.code x code maxLocals ret :: tables_1) room_1).applies x e0.platform about1 = true :=
  (Spec.applies_iff w_frames).mpr ⟨w_running, w_runnable, w_alone, w_named, w_hears, w_ripe, w_room, w_tables⟩
theorem atStart : AtStart classFile x code maxLocals ret World_1 tables_1 room_1 Calls_1 rest_1 Pre_1 launch0 p0 e0 about1 theMethod args0 below0 :=
  ⟨lists_1, trivial, launch0.admits_env _ _ _, launch0.least_env, fairChoices_fair.cas, fairChoices_fair.clock, w_frames, w_args, w_heap, w_applies, trivial, trivial, w_case⟩
end start1
theorem witness_1 : WitnessClaimed_1 := ⟨start1.p0, start1.e0, start1.about1, start1.theMethod, start1.args0, start1.below0, start1.atStart⟩
end Jvm.Pilot.@@N@@
