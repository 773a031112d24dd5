import JvmDerived
import JvmDerived.Pilot.@@N@@Statement
import JvmDerived.Pilot.@@N@@Code
set_option linter.unusedVariables false
set_option linter.unusedSimpArgs false
namespace Jvm.RoadKit
open Sem ClassFile Op Lib Jvm.Stand Jvm.Free Jvm.LawKit
section New
variable {p : Program} {l : Launch} {e : Env} {R : Room} {s : State} {m : MethodId} {args : Array Value} {below : List Frame} {meth : Method} {c : Code} {T : State} {locs : List Loc} {cells slots : Nat}
theorem retI (X : Stand p l e R s m args below meth c T locs cells slots) (hx : p.tables.exec = Jvm.exec) {pc : Nat} {Ls : Array Slot} {z : Int32} {rest : List Value} (hret : meth.sig.returnType = some .int) (hd : decode c.code pc = .ok (.ireturn, 1)) {fs : List Frame}
    (hl : ∀ (f : JFrame) (acts : List Action), f.method = m → f.locked = none → f.entered = [] → (doReturn e (T.setTop f) acts (some (.int z))).1 = T.setFrames fs) : Steps p.tables e below (T.setTop (mkF m pc Ls (.int z :: rest))) (T.setFrames fs) := by
  have hm' : T.vm.method? m = some meth := X.method'
  have hn : narrow .int (.int z) = .int z := rfl
  show Steps p.tables e below (T.setTop { method := m, pc := pc, locals := Ls, stack := _ :: rest, locked := none }) _
  jvm_step X.here [X.here.top, hx, hd, hm', hret, hn]
  first | (intro acts; rw [hl _ acts rfl rfl rfl]) | rw [hl _ _ rfl rfl rfl]
  exact Steps.refl _
/-- from S the invocation comes to its end, and Q says what it returned, the heap, the places written -/
def OFin (p : Program) (e : Env) (below : List Frame) (s : State) (k n : Nat) (Q : Option Value → Heap → List Loc → Prop) (S : State) : Prop :=
  ∃ t o, Steps p.tables e below S t ∧ t.status = .running ∧ Ended t below o ∧ ∃ v L, o = .returned v ∧ Q v t.heap L ∧ FrameEnd s o t L k n
variable {k n : Nat} {Q : Option Value → Heap → List Loc → Prop} {S S' : State}
theorem OFin.back (h : ∀ t, Steps p.tables e below S' t → Steps p.tables e below S t) (g : OFin p e below s k n Q S') : OFin p e below s k n Q S := by
  obtain ⟨t, o, h1, h2⟩ := g
  exact ⟨t, o, h t h1, h2⟩
theorem OFin.via (h : Steps p.tables e below S S') (g : OFin p e below s k n Q S') : OFin p e below s k n Q S := by
  obtain ⟨t, o, h1, h2⟩ := g
  exact ⟨t, o, h.trans h1, h2⟩
variable {h : Heap} {pc : Nat} {Ls : Array Slot} {z : Int32} {rest : List Value}
theorem OFin.outI (X : Stand p l e R s m args below meth c T locs cells slots) (hx : p.tables.exec = Jvm.exec) (hret : meth.sig.returnType = some .int) (hk : meth.locks = false) (hd : decode c.code pc = .ok (.ireturn, 1)) (hc : cells ≤ k) (hs : slots ≤ n) (eT : T.heap = h) (hq : Q (some (.int z)) h locs) :
    OFin p e below s k n Q (T.setTop (mkF m pc Ls (.int z :: rest))) := by
  obtain ⟨fs, hr, hrun, hended, hW, hsame⟩ := X.leave (v := some (.int z)) (fun h => by rw [hret] at h; cases h) hk
  exact ⟨_, _, retI X hx hret hd hr, hrun, hended, _, _, rfl, by show Q _ T.heap _; rw [eT]; exact hq, ⟨_, rfl⟩, hW, hsame.mono hc hs⟩
theorem OFin.outN {t : FieldType} (X : Stand p l e R s m args below meth c T locs cells slots) (hx : p.tables.exec = Jvm.exec) (hret : meth.sig.returnType = some t) (ht : t = .boolean ∨ t = .byte ∨ t = .char ∨ t = .short) (hk : meth.locks = false) (hd : decode c.code pc = .ok (.ireturn, 1)) (hc : cells ≤ k) (hs : slots ≤ n) (eT : T.heap = h) (hq : Q (some (.int (nar t z))) h locs) :
    OFin p e below s k n Q (T.setTop (mkF m pc Ls (.int z :: rest))) := by
  obtain ⟨fs, hr, hrun, hended, hW, hsame⟩ := X.leave (v := some (.int (nar t z))) (fun h => by rw [hret] at h; cases h) hk
  exact ⟨_, _, retN X hx hret ht hd hr, hrun, hended, _, _, rfl, by show Q _ T.heap _; rw [eT]; exact hq, ⟨_, rfl⟩, hW, hsame.mono hc hs⟩
theorem OFin.outA {t : FieldType} {w : Value} (X : Stand p l e R s m args below meth c T locs cells slots) (hx : p.tables.exec = Jvm.exec) (hret : meth.sig.returnType = some t) (ht : t.isReference = true) (hn : narrow t w = w) (hw : w.isRef = true) (hk : meth.locks = false) (hd : decode c.code pc = .ok (.areturn, 1)) (hc : cells ≤ k) (hs : slots ≤ n) (eT : T.heap = h) (hq : Q (some w) h locs) :
    OFin p e below s k n Q (T.setTop (mkF m pc Ls (w :: rest))) := by
  obtain ⟨fs, hr, hrun, hended, hW, hsame⟩ := X.leave (v := some w) (fun h => by rw [hret] at h; cases h) hk
  exact ⟨_, _, retOut X hx hret hn (Or.inr (Or.inr (Or.inr (Or.inr ⟨rfl, ht, hw⟩)))) hd hr, hrun, hended, _, _, rfl, by show Q _ T.heap _; rw [eT]; exact hq, ⟨_, rfl⟩, hW, hsame.mono hc hs⟩
theorem OFin.outJ {w : Int64} (X : Stand p l e R s m args below meth c T locs cells slots) (hx : p.tables.exec = Jvm.exec) (hret : meth.sig.returnType = some .long) (hk : meth.locks = false) (hd : decode c.code pc = .ok (.lreturn, 1)) (hc : cells ≤ k) (hs : slots ≤ n) (eT : T.heap = h) (hq : Q (some (.long w)) h locs) :
    OFin p e below s k n Q (T.setTop (mkF m pc Ls (.long w :: rest))) := by
  obtain ⟨fs, hr, hrun, hended, hW, hsame⟩ := X.leave (v := some (.long w)) (fun h => by rw [hret] at h; cases h) hk
  exact ⟨_, _, retOut X hx hret rfl (Or.inr (Or.inl ⟨rfl, rfl, _, rfl⟩)) hd hr, hrun, hended, _, _, rfl, by show Q _ T.heap _; rw [eT]; exact hq, ⟨_, rfl⟩, hW, hsame.mono hc hs⟩
theorem OFin.outV (X : Stand p l e R s m args below meth c T locs cells slots) (hx : p.tables.exec = Jvm.exec) (hret : meth.sig.returnType = none) (hk : meth.locks = false) (hd : decode c.code pc = .ok (.return_, 1)) (hc : cells ≤ k) (hs : slots ≤ n) (eT : T.heap = h) (hq : Q none h locs) :
    OFin p e below s k n Q (T.setTop (mkF m pc Ls [])) := by
  obtain ⟨fs, hr, hrun, hended, hW, hsame⟩ := X.leave (v := none) (fun _ => rfl) hk
  exact ⟨_, _, X.returnOut hx hret hd hr, hrun, hended, _, _, rfl, by show Q _ T.heap _; rw [eT]; exact hq, ⟨_, rfl⟩, hW, hsame.mono hc hs⟩
end New
end Jvm.RoadKit
namespace Jvm.Pilot.@@N@@
open Jvm Jvm.ClassFile Sem Op Lib Jvm.Free Jvm.Stand Jvm.LawKit Jvm.RoadKit Bundle Jvm.Pilot.@@N@@.Jvm.D

theorem own_fldI {Z : State} {args : Array Value} {t : Term} {a : Addr} {C n d : String} {k : Int32} (ht : t.eval args Z none [] Z = some (.ref a)) (h : (Jvm.Cond.eq (Jvm.Term.field t C n d) (Jvm.Term.int k)).value args Z none Z [] = some true) : Fld Z Z.heap a C n d (.int k) := by
  exact Fld.start ((fld_at ht).symm.trans (eqv_i (F := Jvm.Term.int k) rfl h))
theorem own_mod3 (x : Int32) : ((x &&& (2147483647 : Int32)) % (3 : Int32)) = (0 : Int32) ∨ ((x &&& (2147483647 : Int32)) % (3 : Int32)) = (1 : Int32) ∨ ((x &&& (2147483647 : Int32)) % (3 : Int32)) = (2 : Int32) := by
  have h := c_mask x 2147483647 31 (by decide) (by decide)
  have h2 : ((x &&& (2147483647 : Int32)) % (3 : Int32)).toInt = (x &&& (2147483647 : Int32)).toInt.tmod (3 : Int32).toInt := Int32.toInt_mod _ _
  have h3 : (3 : Int32).toInt = 3 := by decide
  have h4 : (0 : Int32).toInt = 0 := by decide
  have h5 : (1 : Int32).toInt = 1 := by decide
  have h6 : (2 : Int32).toInt = 2 := by decide
  rw [h3] at h2
  rw [← Int32.toInt_inj, ← Int32.toInt_inj, ← Int32.toInt_inj, h4, h5, h6]
  have h7 : 0 ≤ (x &&& (2147483647 : Int32)).toInt := by rw [h]; omega
  rw [Int.tmod_eq_emod_of_nonneg h7] at h2
  omega
theorem d1_0 : decode prog_136_method_8_code 0 = .ok (.iload_n 1, 1) := by decide +kernel
theorem d1_1 : decode prog_136_method_8_code 1 = .ok (.aload_n 0, 1) := by decide +kernel
theorem d1_2 : decode prog_136_method_8_code 2 = .ok (.getfield 32, 3) := by decide +kernel
theorem d1_5 : decode prog_136_method_8_code 5 = .ok (.if_icmp .ne 9, 3) := by decide +kernel
theorem d1_8 : decode prog_136_method_8_code 8 = .ok (.iload_n 2, 1) := by decide +kernel
theorem d1_9 : decode prog_136_method_8_code 9 = .ok (.istore 5, 2) := by decide +kernel
theorem d1_11 : decode prog_136_method_8_code 11 = .ok (.goto 21, 3) := by decide +kernel
theorem d1_14 : decode prog_136_method_8_code 14 = .ok (.iload_n 1, 1) := by decide +kernel
theorem d1_15 : decode prog_136_method_8_code 15 = .ok (.aload_n 0, 1) := by decide +kernel
theorem d1_16 : decode prog_136_method_8_code 16 = .ok (.getfield 36, 3) := by decide +kernel
theorem d1_19 : decode prog_136_method_8_code 19 = .ok (.if_icmp .ne 9, 3) := by decide +kernel
theorem d1_22 : decode prog_136_method_8_code 22 = .ok (.iload_n 3, 1) := by decide +kernel
theorem d1_23 : decode prog_136_method_8_code 23 = .ok (.istore 5, 2) := by decide +kernel
theorem d1_25 : decode prog_136_method_8_code 25 = .ok (.goto 7, 3) := by decide +kernel
theorem d1_28 : decode prog_136_method_8_code 28 = .ok (.iload 4, 2) := by decide +kernel
theorem d1_30 : decode prog_136_method_8_code 30 = .ok (.istore 5, 2) := by decide +kernel
theorem d1_32 : decode prog_136_method_8_code 32 = .ok (.iload 5, 2) := by decide +kernel
theorem d1_34 : decode prog_136_method_8_code 34 = .ok (.ireturn, 1) := by decide +kernel
theorem pn1 : plainName "com/example/triplewright/triplewright/store/TripleOrder" = true := by first | (simp [plainName, overriddenIn]; done) | decide +kernel
theorem ef1 (m : MethodId) (a : Addr) (c0 : Int32) (s0 : Int32) (p0 : Int32) (o0 : Int32) : entryFrame m #[(.ref a), (.int c0), (.int s0), (.int p0), (.int o0)] 6 = mkF m 0 #[.val (.ref a), .val (.int c0), .val (.int s0), .val (.int p0), .val (.int o0), .unset] [] := by first | (simp [entryFrame, mkF, argsToLocals, Value.category]; done) | rfl
def own_col (c0 : Int32) (u1 : Int32) (u2 : Int32) (s0 : Int32) (p0 : Int32) (o0 : Int32) : Int32 := (if c0 = u1 then s0 else (if c0 = u2 then p0 else o0))
def Q1 (Z : State) (a : Addr) (c0 : Int32) (s0 : Int32) (p0 : Int32) (o0 : Int32) (u1 : Int32) (u2 : Int32) (h0 : Heap) (n0 : Nat) (v : Option Value) (h : Heap) (L : List Loc) : Prop := v = some (.int (own_col c0 u1 u2 s0 p0 o0)) ∧ Fr n0 L ∧ h = h0
set_option maxRecDepth 65536 in
set_option maxHeartbeats 40000000 in
theorem rm1 (l : Launch) (Z : State) (a0 : Array Value) (hw : ∀ d ∈ tables_1, d.before a0 Z = true) (ws : List Jvm.Cond) (a : Addr) (c0 : Int32) (s0 : Int32) (p0 : Int32) (o0 : Int32) (u1 : Int32) (u2 : Int32) (h0 : Heap) (n0 : Nat) (Z0 : n0 ≤ h0.size) (F1 : Fld Z h0 a "com/example/triplewright/triplewright/store/TripleOrder" "subjectColumn" "I" (.int u1)) (F2 : Fld Z h0 a "com/example/triplewright/triplewright/store/TripleOrder" "predicateColumn" "I" (.int u2)) :
    MetFree l (⟨"com/example/triplewright/triplewright/store/TripleOrder", "column", "(IIII)I"⟩ : MethodName) (head1 (Jvm.Cond.code (⟨"com/example/triplewright/triplewright/store/TripleOrder", "column", "(IIII)I"⟩ : MethodName) prog_136_method_8_code 6 (some .int) :: ws) ({ frames := 0, cells := 0, slots := 0, locals := 0 } : Room)) (fun ar_ U => ar_ = #[(.ref a), (.int c0), (.int s0), (.int p0), (.int o0)] ∧ Z.Warmed39 U.vm ∧ U.heap = h0) (fun _ _ _ _ _ => True) (fun _ U o U' => ∃ v L, o = .returned v ∧ Q1 Z a c0 s0 p0 o0 u1 u2 h0 n0 v U'.heap L ∧ FrameEnd U o U' L ({ frames := 0, cells := 0, slots := 0, locals := 0 } : Room).cells ({ frames := 0, cells := 0, slots := 0, locals := 0 } : Room).slots) := by
  refine MetFree.of_bodySF (plainFor_of_name pn1) hisR ?_
  intro p e s m args below meth c s₁ Bd hml0 hP hK
  obtain ⟨rfl, hZ, hh⟩ := hP
  have hx := Bd.exec
  have hby := Bd.bytes
  have hml : c.maxLocals = 6 := hml0
  have hown : s.vm.findClass "com/example/triplewright/triplewright/store/TripleOrder" = some m.cls := findClass_of_methodNamed Bd.named
  have hnm := (name_of_methodNamed Bd.named Bd.method).1
  have X0 : Stand p l e ({ frames := 0, cells := 0, slots := 0, locals := 0 } : Room) s m #[(.ref a), (.int c0), (.int s0), (.int p0), (.int o0)] below meth c s₁ [] 0 0 := Stand.of_body Bd
  have e0 : s₁.heap = h0 := by rw [← hh, Bd.state]; rfl
  have N0 := Fr.nil n0
  show OFin p e below s _ _ (Q1 Z a c0 s0 p0 o0 u1 u2 h0 n0) (s₁.setTop (entryFrame m #[(.ref a), (.int c0), (.int s0), (.int p0), (.int o0)] 6))
  rw [ef1]
  obtain ⟨Q, hQ⟩ : ∃ Q, Q = Q1 Z a c0 s0 p0 o0 u1 u2 h0 n0 := ⟨_, rfl⟩
  rw [← hQ]
  show OFin p e below s _ _ Q (s₁.setTop (mkF m 0 #[.val (.ref a), .val (.int c0), .val (.int s0), .val (.int p0), .val (.int o0), .unset] []))
  refine OFin.back (fun _ hr => XS.iloadN X0.here hx rfl (hb hby d1_0) rfl hr) ?_
  show OFin p e below s _ _ Q (s₁.setTop (mkF m 1 #[.val (.ref a), .val (.int c0), .val (.int s0), .val (.int p0), .val (.int o0), .unset] [(.int c0)]))
  refine OFin.back (fun _ hr => XS.aloadN X0.here hx rfl (hb hby d1_1) rfl rfl hr) ?_
  show OFin p e below s _ _ Q (s₁.setTop (mkF m 2 #[.val (.ref a), .val (.int c0), .val (.int s0), .val (.int p0), .val (.int o0), .unset] [(.ref a), (.int c0)]))
  obtain ⟨T1, X1, e1, st1⟩ := getF X0 hx hZ hown (host := "") (Or.inl (hw _ (List.mem_of_getElem? (i := 9) rfl))) Via.refl e0 F1 (g := (mkF m 2 #[.val (.ref a), .val (.int c0), .val (.int s0), .val (.int p0), .val (.int o0), .unset] [(.ref a), (.int c0)])) rfl rfl (hb hby d1_2)
  refine OFin.back st1 ?_
  show OFin p e below s _ _ Q (T1.setTop (mkF m 5 #[.val (.ref a), .val (.int c0), .val (.int s0), .val (.int p0), .val (.int o0), .unset] [(.int u1), (.int c0)]))
  by_cases hc5_2 : c0 = u1
  · -- c0 = u1
    refine OFin.back (fun _ hr => XS.icmpNo X1.here hx rfl (hb hby d1_5) rfl (teq hc5_2).2 hr) ?_
    show OFin p e below s _ _ Q (T1.setTop (mkF m 8 #[.val (.ref a), .val (.int c0), .val (.int s0), .val (.int p0), .val (.int o0), .unset] []))
    refine OFin.back (fun _ hr => XS.iloadN X1.here hx rfl (hb hby d1_8) rfl hr) ?_
    show OFin p e below s _ _ Q (T1.setTop (mkF m 9 #[.val (.ref a), .val (.int c0), .val (.int s0), .val (.int p0), .val (.int o0), .unset] [(.int s0)]))
    refine OFin.back (fun _ hr => XS.istore X1.here hx rfl (hb hby d1_9) rfl (l' := #[.val (.ref a), .val (.int c0), .val (.int s0), .val (.int p0), .val (.int o0), .val (.int s0)]) rfl hr) ?_
    show OFin p e below s _ _ Q (T1.setTop (mkF m 11 #[.val (.ref a), .val (.int c0), .val (.int s0), .val (.int p0), .val (.int o0), .val (.int s0)] []))
    refine OFin.back (fun _ hr => XS.goto X1.here hx rfl (pc0 := 11) (pc' := 32) rfl (hb hby d1_11) (by decide) (by decide) hr) ?_
    show OFin p e below s _ _ Q (T1.setTop (mkF m 32 #[.val (.ref a), .val (.int c0), .val (.int s0), .val (.int p0), .val (.int o0), .val (.int s0)] []))
    refine OFin.back (fun _ hr => XS.iload X1.here hx rfl (hb hby d1_32) rfl hr) ?_
    show OFin p e below s _ _ Q (T1.setTop (mkF m 34 #[.val (.ref a), .val (.int c0), .val (.int s0), .val (.int p0), .val (.int o0), .val (.int s0)] [(.int s0)]))
    exact OFin.outI X1 hx Bd.returns Bd.notSynchronized (hb hby d1_34) (by decide) (by decide) e1 (by rw [hQ]; exact ⟨by rw [own_col, if_pos hc5_2]; try rfl, N0, rfl⟩)
  · -- not c0 = u1
    refine OFin.back (fun _ hr => XS.icmpYes X1.here hx rfl (pc0 := 5) (pc' := 14) rfl (hb hby d1_5) rfl (feq hc5_2).2 (by decide) (by decide) hr) ?_
    show OFin p e below s _ _ Q (T1.setTop (mkF m 14 #[.val (.ref a), .val (.int c0), .val (.int s0), .val (.int p0), .val (.int o0), .unset] []))
    refine OFin.back (fun _ hr => XS.iloadN X1.here hx rfl (hb hby d1_14) rfl hr) ?_
    show OFin p e below s _ _ Q (T1.setTop (mkF m 15 #[.val (.ref a), .val (.int c0), .val (.int s0), .val (.int p0), .val (.int o0), .unset] [(.int c0)]))
    refine OFin.back (fun _ hr => XS.aloadN X1.here hx rfl (hb hby d1_15) rfl rfl hr) ?_
    show OFin p e below s _ _ Q (T1.setTop (mkF m 16 #[.val (.ref a), .val (.int c0), .val (.int s0), .val (.int p0), .val (.int o0), .unset] [(.ref a), (.int c0)]))
    obtain ⟨T3, X3, e3, st3⟩ := getF X1 hx hZ hown (host := "") (Or.inl (hw _ (List.mem_of_getElem? (i := 11) rfl))) Via.refl e1 F2 (g := (mkF m 16 #[.val (.ref a), .val (.int c0), .val (.int s0), .val (.int p0), .val (.int o0), .unset] [(.ref a), (.int c0)])) rfl rfl (hb hby d1_16)
    refine OFin.back st3 ?_
    show OFin p e below s _ _ Q (T3.setTop (mkF m 19 #[.val (.ref a), .val (.int c0), .val (.int s0), .val (.int p0), .val (.int o0), .unset] [(.int u2), (.int c0)]))
    by_cases hc19_4 : c0 = u2
    · -- c0 = u2
      refine OFin.back (fun _ hr => XS.icmpNo X3.here hx rfl (hb hby d1_19) rfl (teq hc19_4).2 hr) ?_
      show OFin p e below s _ _ Q (T3.setTop (mkF m 22 #[.val (.ref a), .val (.int c0), .val (.int s0), .val (.int p0), .val (.int o0), .unset] []))
      refine OFin.back (fun _ hr => XS.iloadN X3.here hx rfl (hb hby d1_22) rfl hr) ?_
      show OFin p e below s _ _ Q (T3.setTop (mkF m 23 #[.val (.ref a), .val (.int c0), .val (.int s0), .val (.int p0), .val (.int o0), .unset] [(.int p0)]))
      refine OFin.back (fun _ hr => XS.istore X3.here hx rfl (hb hby d1_23) rfl (l' := #[.val (.ref a), .val (.int c0), .val (.int s0), .val (.int p0), .val (.int o0), .val (.int p0)]) rfl hr) ?_
      show OFin p e below s _ _ Q (T3.setTop (mkF m 25 #[.val (.ref a), .val (.int c0), .val (.int s0), .val (.int p0), .val (.int o0), .val (.int p0)] []))
      refine OFin.back (fun _ hr => XS.goto X3.here hx rfl (pc0 := 25) (pc' := 32) rfl (hb hby d1_25) (by decide) (by decide) hr) ?_
      show OFin p e below s _ _ Q (T3.setTop (mkF m 32 #[.val (.ref a), .val (.int c0), .val (.int s0), .val (.int p0), .val (.int o0), .val (.int p0)] []))
      refine OFin.back (fun _ hr => XS.iload X3.here hx rfl (hb hby d1_32) rfl hr) ?_
      show OFin p e below s _ _ Q (T3.setTop (mkF m 34 #[.val (.ref a), .val (.int c0), .val (.int s0), .val (.int p0), .val (.int o0), .val (.int p0)] [(.int p0)]))
      exact OFin.outI X3 hx Bd.returns Bd.notSynchronized (hb hby d1_34) (by decide) (by decide) e3 (by rw [hQ]; exact ⟨by rw [own_col, if_neg hc5_2, if_pos hc19_4]; try rfl, N0, rfl⟩)
    · -- not c0 = u2
      refine OFin.back (fun _ hr => XS.icmpYes X3.here hx rfl (pc0 := 19) (pc' := 28) rfl (hb hby d1_19) rfl (feq hc19_4).2 (by decide) (by decide) hr) ?_
      show OFin p e below s _ _ Q (T3.setTop (mkF m 28 #[.val (.ref a), .val (.int c0), .val (.int s0), .val (.int p0), .val (.int o0), .unset] []))
      refine OFin.back (fun _ hr => XS.iload X3.here hx rfl (hb hby d1_28) rfl hr) ?_
      show OFin p e below s _ _ Q (T3.setTop (mkF m 30 #[.val (.ref a), .val (.int c0), .val (.int s0), .val (.int p0), .val (.int o0), .unset] [(.int o0)]))
      refine OFin.back (fun _ hr => XS.istore X3.here hx rfl (hb hby d1_30) rfl (l' := #[.val (.ref a), .val (.int c0), .val (.int s0), .val (.int p0), .val (.int o0), .val (.int o0)]) rfl hr) ?_
      show OFin p e below s _ _ Q (T3.setTop (mkF m 32 #[.val (.ref a), .val (.int c0), .val (.int s0), .val (.int p0), .val (.int o0), .val (.int o0)] []))
      refine OFin.back (fun _ hr => XS.iload X3.here hx rfl (hb hby d1_32) rfl hr) ?_
      show OFin p e below s _ _ Q (T3.setTop (mkF m 34 #[.val (.ref a), .val (.int c0), .val (.int s0), .val (.int p0), .val (.int o0), .val (.int o0)] [(.int o0)]))
      exact OFin.outI X3 hx Bd.returns Bd.notSynchronized (hb hby d1_34) (by decide) (by decide) e3 (by rw [hQ]; exact ⟨by rw [own_col, if_neg hc5_2, if_neg hc19_4]; try rfl, N0, rfl⟩)
theorem pn0 : plainName "com/example/triplewright/triplewright/store/TripleOrderColumnPinLaw" = true := by first | (simp [plainName, overriddenIn]; done) | decide +kernel
theorem pd0_0 : parseMethodDescriptor "(IIII)I" = some ⟨[.int, .int, .int, .int], some .int⟩ := by decide +kernel
theorem ef0 (m : MethodId) (sel : Int32) (cl : Int32) (si : Int32) (pi : Int32) (oi : Int32) : entryFrame m #[(.int sel), (.int cl), (.int si), (.int pi), (.int oi)] maxLocals = mkF m 0 #[.val (.int sel), .val (.int cl), .val (.int si), .val (.int pi), .val (.int oi), .unset, .unset, .unset, .unset, .unset] [] := by first | (simp [entryFrame, mkF, argsToLocals, Value.category, maxLocals]; done) | rfl
def Q0 (Z : State) (sel : Int32) (cl : Int32) (si : Int32) (pi : Int32) (oi : Int32) (a_SPO : Addr) (a_POS : Addr) (a_OSP : Addr) (h0 : Heap) (n0 : Nat) (v : Option Value) (h : Heap) (L : List Loc) : Prop := v = some (.int 1) ∧ Fr n0 L
set_option maxRecDepth 65536 in
set_option maxHeartbeats 40000000 in
theorem rm0 (l : Launch) (Z : State) (a0 : Array Value) (hw : ∀ d ∈ tables_1, d.before a0 Z = true) (ws : List Jvm.Cond) (sel : Int32) (cl : Int32) (si : Int32) (pi : Int32) (oi : Int32) (a_SPO : Addr) (a_POS : Addr) (a_OSP : Addr) (h0 : Heap) (n0 : Nat) (Z0 : n0 ≤ h0.size) (S_SPO : Sta Z h0 "com/example/triplewright/triplewright/store/TripleOrder" "SPO" "Lcom/example/triplewright/triplewright/store/TripleOrder;" (.ref a_SPO)) (E_SPO : Exa Z h0 a_SPO "com/example/triplewright/triplewright/store/TripleOrder") (F_SPO_subjectColumn : Fld Z h0 a_SPO "com/example/triplewright/triplewright/store/TripleOrder" "subjectColumn" "I" (.int (0 : Int32))) (F_SPO_predicateColumn : Fld Z h0 a_SPO "com/example/triplewright/triplewright/store/TripleOrder" "predicateColumn" "I" (.int (1 : Int32))) (S_POS : Sta Z h0 "com/example/triplewright/triplewright/store/TripleOrder" "POS" "Lcom/example/triplewright/triplewright/store/TripleOrder;" (.ref a_POS)) (E_POS : Exa Z h0 a_POS "com/example/triplewright/triplewright/store/TripleOrder") (F_POS_subjectColumn : Fld Z h0 a_POS "com/example/triplewright/triplewright/store/TripleOrder" "subjectColumn" "I" (.int (2 : Int32))) (F_POS_predicateColumn : Fld Z h0 a_POS "com/example/triplewright/triplewright/store/TripleOrder" "predicateColumn" "I" (.int (0 : Int32))) (S_OSP : Sta Z h0 "com/example/triplewright/triplewright/store/TripleOrder" "OSP" "Lcom/example/triplewright/triplewright/store/TripleOrder;" (.ref a_OSP)) (E_OSP : Exa Z h0 a_OSP "com/example/triplewright/triplewright/store/TripleOrder") (F_OSP_subjectColumn : Fld Z h0 a_OSP "com/example/triplewright/triplewright/store/TripleOrder" "subjectColumn" "I" (.int (1 : Int32))) (F_OSP_predicateColumn : Fld Z h0 a_OSP "com/example/triplewright/triplewright/store/TripleOrder" "predicateColumn" "I" (.int (2 : Int32))) :
    MetFree l x (head1 (Jvm.Cond.code x code maxLocals ret :: ws) room_1) (fun ar_ U => ar_ = #[(.int sel), (.int cl), (.int si), (.int pi), (.int oi)] ∧ Z.Warmed39 U.vm ∧ U.heap = h0) (fun _ _ _ _ _ => True) (fun _ U o U' => ∃ v L, o = .returned v ∧ Q0 Z sel cl si pi oi a_SPO a_POS a_OSP h0 n0 v U'.heap L ∧ FrameEnd U o U' L room_1.cells room_1.slots) := by
  refine MetFree.of_bodySF (plainFor_of_name pn0) hisR ?_
  intro p e s m args below meth c s₁ Bd hml0 hP hK
  obtain ⟨rfl, hZ, hh⟩ := hP
  have hx := Bd.exec
  have hby := Bd.bytes
  have hml : c.maxLocals = 10 := hml0
  have hown : s.vm.findClass "com/example/triplewright/triplewright/store/TripleOrderColumnPinLaw" = some m.cls := findClass_of_methodNamed Bd.named
  have hnm := (name_of_methodNamed Bd.named Bd.method).1
  have X0 : Stand p l e room_1 s m #[(.int sel), (.int cl), (.int si), (.int pi), (.int oi)] below meth c s₁ [] 0 0 := Stand.of_body Bd
  have e0 : s₁.heap = h0 := by rw [← hh, Bd.state]; rfl
  have N0 := Fr.nil n0
  show OFin p e below s _ _ (Q0 Z sel cl si pi oi a_SPO a_POS a_OSP h0 n0) (s₁.setTop (entryFrame m #[(.int sel), (.int cl), (.int si), (.int pi), (.int oi)] maxLocals))
  rw [ef0]
  obtain ⟨Q, hQ⟩ : ∃ Q, Q = Q0 Z sel cl si pi oi a_SPO a_POS a_OSP h0 n0 := ⟨_, rfl⟩
  rw [← hQ]
  show OFin p e below s _ _ Q (s₁.setTop (mkF m 0 #[.val (.int sel), .val (.int cl), .val (.int si), .val (.int pi), .val (.int oi), .unset, .unset, .unset, .unset, .unset] []))
  refine OFin.back (fun _ hr => XS.iloadN X0.here hx rfl (hb hby at_0) rfl hr) ?_
  show OFin p e below s _ _ Q (s₁.setTop (mkF m 1 #[.val (.int sel), .val (.int cl), .val (.int si), .val (.int pi), .val (.int oi), .unset, .unset, .unset, .unset, .unset] [(.int sel)]))
  refine OFin.back (X0.ldcInt hx hown (mvT hZ (hw _ (List.mem_of_getElem? (i := 0) rfl))) (g := (mkF m 1 #[.val (.int sel), .val (.int cl), .val (.int si), .val (.int pi), .val (.int oi), .unset, .unset, .unset, .unset, .unset] [(.int sel)])) rfl (hb hby at_1)) ?_
  show OFin p e below s _ _ Q (s₁.setTop (mkF m 3 #[.val (.int sel), .val (.int cl), .val (.int si), .val (.int pi), .val (.int oi), .unset, .unset, .unset, .unset, .unset] [(.int (2147483647 : Int32)), (.int sel)]))
  refine OFin.back (fun _ hr => XS.iand X0.here hx rfl (hb hby at_3) rfl hr) ?_
  show OFin p e below s _ _ Q (s₁.setTop (mkF m 4 #[.val (.int sel), .val (.int cl), .val (.int si), .val (.int pi), .val (.int oi), .unset, .unset, .unset, .unset, .unset] [(.int (sel &&& (2147483647 : Int32)))]))
  refine OFin.back (fun _ hr => XS.iconst X0.here hx rfl (hb hby at_4) hr) ?_
  show OFin p e below s _ _ Q (s₁.setTop (mkF m 5 #[.val (.int sel), .val (.int cl), .val (.int si), .val (.int pi), .val (.int oi), .unset, .unset, .unset, .unset, .unset] [(.int (3 : Int32)), (.int (sel &&& (2147483647 : Int32)))]))
  refine OFin.back (fun _ hr => iremM (g := (mkF m 5 #[.val (.int sel), .val (.int cl), .val (.int si), .val (.int pi), .val (.int oi), .unset, .unset, .unset, .unset, .unset] [(.int (3 : Int32)), (.int (sel &&& (2147483647 : Int32)))])) X0 hx rfl (hb hby at_5) rfl (by decide) hr) ?_
  show OFin p e below s _ _ Q (s₁.setTop (mkF m 6 #[.val (.int sel), .val (.int cl), .val (.int si), .val (.int pi), .val (.int oi), .unset, .unset, .unset, .unset, .unset] [(.int ((sel &&& (2147483647 : Int32)) % (3 : Int32)))]))
  refine OFin.back (fun _ hr => XS.istore X0.here hx rfl (hb hby at_6) rfl (l' := #[.val (.int sel), .val (.int cl), .val (.int si), .val (.int pi), .val (.int oi), .val (.int ((sel &&& (2147483647 : Int32)) % (3 : Int32))), .unset, .unset, .unset, .unset]) rfl hr) ?_
  show OFin p e below s _ _ Q (s₁.setTop (mkF m 8 #[.val (.int sel), .val (.int cl), .val (.int si), .val (.int pi), .val (.int oi), .val (.int ((sel &&& (2147483647 : Int32)) % (3 : Int32))), .unset, .unset, .unset, .unset] []))
  rcases (own_mod3 sel) with hk1_0 | hk1_1 | hk1_2
  · rw [hk1_0]
    refine OFin.back (fun _ hr => XS.iloadN X0.here hx rfl (hb hby at_8) rfl hr) ?_
    show OFin p e below s _ _ Q (s₁.setTop (mkF m 9 #[.val (.int sel), .val (.int cl), .val (.int si), .val (.int pi), .val (.int oi), .val (.int (0 : Int32)), .unset, .unset, .unset, .unset] [(.int cl)]))
    refine OFin.back (X0.ldcInt hx hown (mvT hZ (hw _ (List.mem_of_getElem? (i := 0) rfl))) (g := (mkF m 9 #[.val (.int sel), .val (.int cl), .val (.int si), .val (.int pi), .val (.int oi), .val (.int (0 : Int32)), .unset, .unset, .unset, .unset] [(.int cl)])) rfl (hb hby at_9)) ?_
    show OFin p e below s _ _ Q (s₁.setTop (mkF m 11 #[.val (.int sel), .val (.int cl), .val (.int si), .val (.int pi), .val (.int oi), .val (.int (0 : Int32)), .unset, .unset, .unset, .unset] [(.int (2147483647 : Int32)), (.int cl)]))
    refine OFin.back (fun _ hr => XS.iand X0.here hx rfl (hb hby at_11) rfl hr) ?_
    show OFin p e below s _ _ Q (s₁.setTop (mkF m 12 #[.val (.int sel), .val (.int cl), .val (.int si), .val (.int pi), .val (.int oi), .val (.int (0 : Int32)), .unset, .unset, .unset, .unset] [(.int (cl &&& (2147483647 : Int32)))]))
    refine OFin.back (fun _ hr => XS.iconst X0.here hx rfl (hb hby at_12) hr) ?_
    show OFin p e below s _ _ Q (s₁.setTop (mkF m 13 #[.val (.int sel), .val (.int cl), .val (.int si), .val (.int pi), .val (.int oi), .val (.int (0 : Int32)), .unset, .unset, .unset, .unset] [(.int (3 : Int32)), (.int (cl &&& (2147483647 : Int32)))]))
    refine OFin.back (fun _ hr => iremM (g := (mkF m 13 #[.val (.int sel), .val (.int cl), .val (.int si), .val (.int pi), .val (.int oi), .val (.int (0 : Int32)), .unset, .unset, .unset, .unset] [(.int (3 : Int32)), (.int (cl &&& (2147483647 : Int32)))])) X0 hx rfl (hb hby at_13) rfl (by decide) hr) ?_
    show OFin p e below s _ _ Q (s₁.setTop (mkF m 14 #[.val (.int sel), .val (.int cl), .val (.int si), .val (.int pi), .val (.int oi), .val (.int (0 : Int32)), .unset, .unset, .unset, .unset] [(.int ((cl &&& (2147483647 : Int32)) % (3 : Int32)))]))
    refine OFin.back (fun _ hr => XS.istore X0.here hx rfl (hb hby at_14) rfl (l' := #[.val (.int sel), .val (.int cl), .val (.int si), .val (.int pi), .val (.int oi), .val (.int (0 : Int32)), .val (.int ((cl &&& (2147483647 : Int32)) % (3 : Int32))), .unset, .unset, .unset]) rfl hr) ?_
    show OFin p e below s _ _ Q (s₁.setTop (mkF m 16 #[.val (.int sel), .val (.int cl), .val (.int si), .val (.int pi), .val (.int oi), .val (.int (0 : Int32)), .val (.int ((cl &&& (2147483647 : Int32)) % (3 : Int32))), .unset, .unset, .unset] []))
    rcases (own_mod3 cl) with hl2_0 | hl2_1 | hl2_2
    · rw [hl2_0]
      refine OFin.back (fun _ hr => XS.iload X0.here hx rfl (hb hby at_16) rfl hr) ?_
      show OFin p e below s _ _ Q (s₁.setTop (mkF m 18 #[.val (.int sel), .val (.int cl), .val (.int si), .val (.int pi), .val (.int oi), .val (.int (0 : Int32)), .val (.int (0 : Int32)), .unset, .unset, .unset] [(.int (0 : Int32))]))
      refine OFin.back (fun _ hr => XS.ifNo X0.here hx rfl (hb hby at_18) rfl ((if0 _ _).trans (teq (by decide : (0 : Int32) = (0 : Int32))).2) hr) ?_
      show OFin p e below s _ _ Q (s₁.setTop (mkF m 21 #[.val (.int sel), .val (.int cl), .val (.int si), .val (.int pi), .val (.int oi), .val (.int (0 : Int32)), .val (.int (0 : Int32)), .unset, .unset, .unset] []))
      obtain ⟨T3, X3, e3, st3⟩ := getS2 X0 hx hZ hown (host := "") (Or.inl (hw _ (List.mem_of_getElem? (i := 1) rfl))) Via.refl e0 S_SPO (g := (mkF m 21 #[.val (.int sel), .val (.int cl), .val (.int si), .val (.int pi), .val (.int oi), .val (.int (0 : Int32)), .val (.int (0 : Int32)), .unset, .unset, .unset] [])) rfl (hb hby at_21)
      refine OFin.back st3 ?_
      show OFin p e below s _ _ Q (T3.setTop (mkF m 24 #[.val (.int sel), .val (.int cl), .val (.int si), .val (.int pi), .val (.int oi), .val (.int (0 : Int32)), .val (.int (0 : Int32)), .unset, .unset, .unset] [(.ref a_SPO)]))
      refine OFin.back (fun _ hr => XS.astore X3.here hx rfl (hb hby at_24) rfl rfl (l' := #[.val (.int sel), .val (.int cl), .val (.int si), .val (.int pi), .val (.int oi), .val (.int (0 : Int32)), .val (.int (0 : Int32)), .val (.ref a_SPO), .unset, .unset]) rfl hr) ?_
      show OFin p e below s _ _ Q (T3.setTop (mkF m 26 #[.val (.int sel), .val (.int cl), .val (.int si), .val (.int pi), .val (.int oi), .val (.int (0 : Int32)), .val (.int (0 : Int32)), .val (.ref a_SPO), .unset, .unset] []))
      refine OFin.back (fun _ hr => XS.goto X3.here hx rfl (pc0 := 26) (pc' := 48) rfl (hb hby at_26) (by decide) (by decide) hr) ?_
      show OFin p e below s _ _ Q (T3.setTop (mkF m 48 #[.val (.int sel), .val (.int cl), .val (.int si), .val (.int pi), .val (.int oi), .val (.int (0 : Int32)), .val (.int (0 : Int32)), .val (.ref a_SPO), .unset, .unset] []))
      refine OFin.back (fun _ hr => XS.iload X3.here hx rfl (hb hby at_48) rfl hr) ?_
      show OFin p e below s _ _ Q (T3.setTop (mkF m 50 #[.val (.int sel), .val (.int cl), .val (.int si), .val (.int pi), .val (.int oi), .val (.int (0 : Int32)), .val (.int (0 : Int32)), .val (.ref a_SPO), .unset, .unset] [(.int (0 : Int32))]))
      refine OFin.back (fun _ hr => XS.iload X3.here hx rfl (hb hby at_50) rfl hr) ?_
      show OFin p e below s _ _ Q (T3.setTop (mkF m 52 #[.val (.int sel), .val (.int cl), .val (.int si), .val (.int pi), .val (.int oi), .val (.int (0 : Int32)), .val (.int (0 : Int32)), .val (.ref a_SPO), .unset, .unset] [(.int (0 : Int32)), (.int (0 : Int32))]))
      refine OFin.back (fun _ hr => XS.iadd X3.here hx rfl (hb hby at_52) rfl hr) ?_
      show OFin p e below s _ _ Q (T3.setTop (mkF m 53 #[.val (.int sel), .val (.int cl), .val (.int si), .val (.int pi), .val (.int oi), .val (.int (0 : Int32)), .val (.int (0 : Int32)), .val (.ref a_SPO), .unset, .unset] [(.int (0 : Int32))]))
      refine OFin.back (fun _ hr => XS.iconst X3.here hx rfl (hb hby at_53) hr) ?_
      show OFin p e below s _ _ Q (T3.setTop (mkF m 54 #[.val (.int sel), .val (.int cl), .val (.int si), .val (.int pi), .val (.int oi), .val (.int (0 : Int32)), .val (.int (0 : Int32)), .val (.ref a_SPO), .unset, .unset] [(.int (3 : Int32)), (.int (0 : Int32))]))
      refine OFin.back (fun _ hr => iremM (g := (mkF m 54 #[.val (.int sel), .val (.int cl), .val (.int si), .val (.int pi), .val (.int oi), .val (.int (0 : Int32)), .val (.int (0 : Int32)), .val (.ref a_SPO), .unset, .unset] [(.int (3 : Int32)), (.int (0 : Int32))])) X3 hx rfl (hb hby at_54) rfl (by decide) hr) ?_
      show OFin p e below s _ _ Q (T3.setTop (mkF m 55 #[.val (.int sel), .val (.int cl), .val (.int si), .val (.int pi), .val (.int oi), .val (.int (0 : Int32)), .val (.int (0 : Int32)), .val (.ref a_SPO), .unset, .unset] [(.int (0 : Int32))]))
      refine OFin.back (fun _ hr => XS.istore X3.here hx rfl (hb hby at_55) rfl (l' := #[.val (.int sel), .val (.int cl), .val (.int si), .val (.int pi), .val (.int oi), .val (.int (0 : Int32)), .val (.int (0 : Int32)), .val (.ref a_SPO), .val (.int (0 : Int32)), .unset]) rfl hr) ?_
      show OFin p e below s _ _ Q (T3.setTop (mkF m 57 #[.val (.int sel), .val (.int cl), .val (.int si), .val (.int pi), .val (.int oi), .val (.int (0 : Int32)), .val (.int (0 : Int32)), .val (.ref a_SPO), .val (.int (0 : Int32)), .unset] []))
      refine OFin.back (fun _ hr => XS.iload X3.here hx rfl (hb hby at_57) rfl hr) ?_
      show OFin p e below s _ _ Q (T3.setTop (mkF m 59 #[.val (.int sel), .val (.int cl), .val (.int si), .val (.int pi), .val (.int oi), .val (.int (0 : Int32)), .val (.int (0 : Int32)), .val (.ref a_SPO), .val (.int (0 : Int32)), .unset] [(.int (0 : Int32))]))
      refine OFin.back (fun _ hr => XS.ifNo X3.here hx rfl (hb hby at_59) rfl ((if0 _ _).trans (teq (by decide : (0 : Int32) = (0 : Int32))).2) hr) ?_
      show OFin p e below s _ _ Q (T3.setTop (mkF m 62 #[.val (.int sel), .val (.int cl), .val (.int si), .val (.int pi), .val (.int oi), .val (.int (0 : Int32)), .val (.int (0 : Int32)), .val (.ref a_SPO), .val (.int (0 : Int32)), .unset] []))
      refine OFin.back (fun _ hr => XS.iloadN X3.here hx rfl (hb hby at_62) rfl hr) ?_
      show OFin p e below s _ _ Q (T3.setTop (mkF m 63 #[.val (.int sel), .val (.int cl), .val (.int si), .val (.int pi), .val (.int oi), .val (.int (0 : Int32)), .val (.int (0 : Int32)), .val (.ref a_SPO), .val (.int (0 : Int32)), .unset] [(.int si)]))
      refine OFin.back (fun _ hr => XS.istore X3.here hx rfl (hb hby at_63) rfl (l' := #[.val (.int sel), .val (.int cl), .val (.int si), .val (.int pi), .val (.int oi), .val (.int (0 : Int32)), .val (.int (0 : Int32)), .val (.ref a_SPO), .val (.int (0 : Int32)), .val (.int si)]) rfl hr) ?_
      show OFin p e below s _ _ Q (T3.setTop (mkF m 65 #[.val (.int sel), .val (.int cl), .val (.int si), .val (.int pi), .val (.int oi), .val (.int (0 : Int32)), .val (.int (0 : Int32)), .val (.ref a_SPO), .val (.int (0 : Int32)), .val (.int si)] []))
      refine OFin.back (fun _ hr => XS.goto X3.here hx rfl (pc0 := 65) (pc' := 84) rfl (hb hby at_65) (by decide) (by decide) hr) ?_
      show OFin p e below s _ _ Q (T3.setTop (mkF m 84 #[.val (.int sel), .val (.int cl), .val (.int si), .val (.int pi), .val (.int oi), .val (.int (0 : Int32)), .val (.int (0 : Int32)), .val (.ref a_SPO), .val (.int (0 : Int32)), .val (.int si)] []))
      refine OFin.back (fun _ hr => XS.aload X3.here hx rfl (hb hby at_84) rfl rfl hr) ?_
      show OFin p e below s _ _ Q (T3.setTop (mkF m 86 #[.val (.int sel), .val (.int cl), .val (.int si), .val (.int pi), .val (.int oi), .val (.int (0 : Int32)), .val (.int (0 : Int32)), .val (.ref a_SPO), .val (.int (0 : Int32)), .val (.int si)] [(.ref a_SPO)]))
      refine OFin.back (fun _ hr => XS.iload X3.here hx rfl (hb hby at_86) rfl hr) ?_
      show OFin p e below s _ _ Q (T3.setTop (mkF m 88 #[.val (.int sel), .val (.int cl), .val (.int si), .val (.int pi), .val (.int oi), .val (.int (0 : Int32)), .val (.int (0 : Int32)), .val (.ref a_SPO), .val (.int (0 : Int32)), .val (.int si)] [(.int (0 : Int32)), (.ref a_SPO)]))
      refine OFin.back (fun _ hr => XS.iloadN X3.here hx rfl (hb hby at_88) rfl hr) ?_
      show OFin p e below s _ _ Q (T3.setTop (mkF m 89 #[.val (.int sel), .val (.int cl), .val (.int si), .val (.int pi), .val (.int oi), .val (.int (0 : Int32)), .val (.int (0 : Int32)), .val (.ref a_SPO), .val (.int (0 : Int32)), .val (.int si)] [(.int si), (.int (0 : Int32)), (.ref a_SPO)]))
      refine OFin.back (fun _ hr => XS.iloadN X3.here hx rfl (hb hby at_89) rfl hr) ?_
      show OFin p e below s _ _ Q (T3.setTop (mkF m 90 #[.val (.int sel), .val (.int cl), .val (.int si), .val (.int pi), .val (.int oi), .val (.int (0 : Int32)), .val (.int (0 : Int32)), .val (.ref a_SPO), .val (.int (0 : Int32)), .val (.int si)] [(.int pi), (.int si), (.int (0 : Int32)), (.ref a_SPO)]))
      refine OFin.back (fun _ hr => XS.iload X3.here hx rfl (hb hby at_90) rfl hr) ?_
      show OFin p e below s _ _ Q (T3.setTop (mkF m 92 #[.val (.int sel), .val (.int cl), .val (.int si), .val (.int pi), .val (.int oi), .val (.int (0 : Int32)), .val (.int (0 : Int32)), .val (.ref a_SPO), .val (.int (0 : Int32)), .val (.int si)] [(.int oi), (.int pi), (.int si), (.int (0 : Int32)), (.ref a_SPO)]))
      obtain ⟨cq4, kq4, q4a, q4b, q4c⟩ := isOf hZ e3 E_SPO
      obtain ⟨_, _, ⟨T4, L4, k4, n4⟩, -, X4, ⟨Lc4, hQ4, l4, y4, z4⟩, st4⟩ := X3.virtualBack hx (y := (⟨"com/example/triplewright/triplewright/store/TripleOrder", "column", "(IIII)I"⟩ : MethodName)) (z := (⟨"com/example/triplewright/triplewright/store/TripleOrder", "column", "(IIII)I"⟩ : MethodName)) hown (mvT hZ (hw _ (List.mem_of_getElem? (i := 4) rfl))) (mvT hZ (hw _ (List.mem_of_getElem? (i := 5) rfl))) (notFace_of_selects (args := #[]) (mvT hZ (hw _ (List.mem_of_getElem? (i := 7) rfl)))) (mvT hZ (hw _ (List.mem_of_getElem? (i := 7) rfl))) (mvT hZ (hw _ (List.mem_of_getElem? (i := 6) rfl))) (by decide) (backOf (W := 0) (rm1 l Z a0 hw [] a_SPO (0 : Int32) si pi oi (0 : Int32) (1 : Int32) h0 n0 Z0 F_SPO_subjectColumn F_SPO_predicateColumn) hZ (hw _ (List.mem_of_getElem? (i := 8) rfl)) (hw _ (List.mem_of_getElem? (i := 2) rfl)) (by decide) (by decide)) q4a q4c (g := (mkF m 92 #[.val (.int sel), .val (.int cl), .val (.int si), .val (.int pi), .val (.int oi), .val (.int (0 : Int32)), .val (.int (0 : Int32)), .val (.ref a_SPO), .val (.int (0 : Int32)), .val (.int si)] [(.int oi), (.int pi), (.int si), (.int (0 : Int32)), (.ref a_SPO)])) rfl (by rw [hml]; rfl) (Steps.refl _) (argsL := [(.int (0 : Int32)), (.int si), (.int pi), (.int oi)]) (rest := []) (lenOf pd0_0 rfl) rfl (by show 2 * 0 + _ ≤ _; exact Nat.le_of_eq rfl) (hb hby at_92) (fun _ _ => ⟨rfl, e3, (by decide : 0 + 0 ≤ _), (by decide : 0 + 0 ≤ _)⟩)
      dsimp only [Pt.U, Pt.locs, Pt.cells, Pt.slots] at X4 l4 y4 z4 st4 hQ4
      subst l4 y4 z4
      obtain ⟨rfl, N4q, e4⟩ := hQ4
      have N4 := Fr.app N0 N4q
      refine OFin.via st4 ?_
      rw [show (own_col (0 : Int32) (0 : Int32) (1 : Int32) si pi oi) = si from by simp [own_col]]
      show OFin p e below s _ _ Q (T4.setTop (mkF m 95 #[.val (.int sel), .val (.int cl), .val (.int si), .val (.int pi), .val (.int oi), .val (.int (0 : Int32)), .val (.int (0 : Int32)), .val (.ref a_SPO), .val (.int (0 : Int32)), .val (.int si)] [(.int si)]))
      refine OFin.back (fun _ hr => XS.iload X4.here hx rfl (hb hby at_95) rfl hr) ?_
      show OFin p e below s _ _ Q (T4.setTop (mkF m 97 #[.val (.int sel), .val (.int cl), .val (.int si), .val (.int pi), .val (.int oi), .val (.int (0 : Int32)), .val (.int (0 : Int32)), .val (.ref a_SPO), .val (.int (0 : Int32)), .val (.int si)] [(.int si), (.int si)]))
      refine OFin.back (fun _ hr => XS.icmpNo X4.here hx rfl (hb hby at_97) rfl (teq rfl).2 hr) ?_
      show OFin p e below s _ _ Q (T4.setTop (mkF m 100 #[.val (.int sel), .val (.int cl), .val (.int si), .val (.int pi), .val (.int oi), .val (.int (0 : Int32)), .val (.int (0 : Int32)), .val (.ref a_SPO), .val (.int (0 : Int32)), .val (.int si)] []))
      refine OFin.back (fun _ hr => XS.iconst X4.here hx rfl (hb hby at_100) hr) ?_
      show OFin p e below s _ _ Q (T4.setTop (mkF m 101 #[.val (.int sel), .val (.int cl), .val (.int si), .val (.int pi), .val (.int oi), .val (.int (0 : Int32)), .val (.int (0 : Int32)), .val (.ref a_SPO), .val (.int (0 : Int32)), .val (.int si)] [(.int (1 : Int32))]))
      refine OFin.back (fun _ hr => XS.goto X4.here hx rfl (pc0 := 101) (pc' := 105) rfl (hb hby at_101) (by decide) (by decide) hr) ?_
      show OFin p e below s _ _ Q (T4.setTop (mkF m 105 #[.val (.int sel), .val (.int cl), .val (.int si), .val (.int pi), .val (.int oi), .val (.int (0 : Int32)), .val (.int (0 : Int32)), .val (.ref a_SPO), .val (.int (0 : Int32)), .val (.int si)] [(.int (1 : Int32))]))
      exact OFin.outN (t := .boolean) X4 hx Bd.returns (by simp) Bd.notSynchronized (hb hby at_105) (by decide) (by decide) e4 (by rw [hQ]; exact ⟨rfl, N4⟩)
    · rw [hl2_1]
      refine OFin.back (fun _ hr => XS.iload X0.here hx rfl (hb hby at_16) rfl hr) ?_
      show OFin p e below s _ _ Q (s₁.setTop (mkF m 18 #[.val (.int sel), .val (.int cl), .val (.int si), .val (.int pi), .val (.int oi), .val (.int (0 : Int32)), .val (.int (1 : Int32)), .unset, .unset, .unset] [(.int (0 : Int32))]))
      refine OFin.back (fun _ hr => XS.ifNo X0.here hx rfl (hb hby at_18) rfl ((if0 _ _).trans (teq (by decide : (0 : Int32) = (0 : Int32))).2) hr) ?_
      show OFin p e below s _ _ Q (s₁.setTop (mkF m 21 #[.val (.int sel), .val (.int cl), .val (.int si), .val (.int pi), .val (.int oi), .val (.int (0 : Int32)), .val (.int (1 : Int32)), .unset, .unset, .unset] []))
      obtain ⟨T5, X5, e5, st5⟩ := getS2 X0 hx hZ hown (host := "") (Or.inl (hw _ (List.mem_of_getElem? (i := 1) rfl))) Via.refl e0 S_SPO (g := (mkF m 21 #[.val (.int sel), .val (.int cl), .val (.int si), .val (.int pi), .val (.int oi), .val (.int (0 : Int32)), .val (.int (1 : Int32)), .unset, .unset, .unset] [])) rfl (hb hby at_21)
      refine OFin.back st5 ?_
      show OFin p e below s _ _ Q (T5.setTop (mkF m 24 #[.val (.int sel), .val (.int cl), .val (.int si), .val (.int pi), .val (.int oi), .val (.int (0 : Int32)), .val (.int (1 : Int32)), .unset, .unset, .unset] [(.ref a_SPO)]))
      refine OFin.back (fun _ hr => XS.astore X5.here hx rfl (hb hby at_24) rfl rfl (l' := #[.val (.int sel), .val (.int cl), .val (.int si), .val (.int pi), .val (.int oi), .val (.int (0 : Int32)), .val (.int (1 : Int32)), .val (.ref a_SPO), .unset, .unset]) rfl hr) ?_
      show OFin p e below s _ _ Q (T5.setTop (mkF m 26 #[.val (.int sel), .val (.int cl), .val (.int si), .val (.int pi), .val (.int oi), .val (.int (0 : Int32)), .val (.int (1 : Int32)), .val (.ref a_SPO), .unset, .unset] []))
      refine OFin.back (fun _ hr => XS.goto X5.here hx rfl (pc0 := 26) (pc' := 48) rfl (hb hby at_26) (by decide) (by decide) hr) ?_
      show OFin p e below s _ _ Q (T5.setTop (mkF m 48 #[.val (.int sel), .val (.int cl), .val (.int si), .val (.int pi), .val (.int oi), .val (.int (0 : Int32)), .val (.int (1 : Int32)), .val (.ref a_SPO), .unset, .unset] []))
      refine OFin.back (fun _ hr => XS.iload X5.here hx rfl (hb hby at_48) rfl hr) ?_
      show OFin p e below s _ _ Q (T5.setTop (mkF m 50 #[.val (.int sel), .val (.int cl), .val (.int si), .val (.int pi), .val (.int oi), .val (.int (0 : Int32)), .val (.int (1 : Int32)), .val (.ref a_SPO), .unset, .unset] [(.int (1 : Int32))]))
      refine OFin.back (fun _ hr => XS.iload X5.here hx rfl (hb hby at_50) rfl hr) ?_
      show OFin p e below s _ _ Q (T5.setTop (mkF m 52 #[.val (.int sel), .val (.int cl), .val (.int si), .val (.int pi), .val (.int oi), .val (.int (0 : Int32)), .val (.int (1 : Int32)), .val (.ref a_SPO), .unset, .unset] [(.int (0 : Int32)), (.int (1 : Int32))]))
      refine OFin.back (fun _ hr => XS.iadd X5.here hx rfl (hb hby at_52) rfl hr) ?_
      show OFin p e below s _ _ Q (T5.setTop (mkF m 53 #[.val (.int sel), .val (.int cl), .val (.int si), .val (.int pi), .val (.int oi), .val (.int (0 : Int32)), .val (.int (1 : Int32)), .val (.ref a_SPO), .unset, .unset] [(.int (1 : Int32))]))
      refine OFin.back (fun _ hr => XS.iconst X5.here hx rfl (hb hby at_53) hr) ?_
      show OFin p e below s _ _ Q (T5.setTop (mkF m 54 #[.val (.int sel), .val (.int cl), .val (.int si), .val (.int pi), .val (.int oi), .val (.int (0 : Int32)), .val (.int (1 : Int32)), .val (.ref a_SPO), .unset, .unset] [(.int (3 : Int32)), (.int (1 : Int32))]))
      refine OFin.back (fun _ hr => iremM (g := (mkF m 54 #[.val (.int sel), .val (.int cl), .val (.int si), .val (.int pi), .val (.int oi), .val (.int (0 : Int32)), .val (.int (1 : Int32)), .val (.ref a_SPO), .unset, .unset] [(.int (3 : Int32)), (.int (1 : Int32))])) X5 hx rfl (hb hby at_54) rfl (by decide) hr) ?_
      show OFin p e below s _ _ Q (T5.setTop (mkF m 55 #[.val (.int sel), .val (.int cl), .val (.int si), .val (.int pi), .val (.int oi), .val (.int (0 : Int32)), .val (.int (1 : Int32)), .val (.ref a_SPO), .unset, .unset] [(.int (1 : Int32))]))
      refine OFin.back (fun _ hr => XS.istore X5.here hx rfl (hb hby at_55) rfl (l' := #[.val (.int sel), .val (.int cl), .val (.int si), .val (.int pi), .val (.int oi), .val (.int (0 : Int32)), .val (.int (1 : Int32)), .val (.ref a_SPO), .val (.int (1 : Int32)), .unset]) rfl hr) ?_
      show OFin p e below s _ _ Q (T5.setTop (mkF m 57 #[.val (.int sel), .val (.int cl), .val (.int si), .val (.int pi), .val (.int oi), .val (.int (0 : Int32)), .val (.int (1 : Int32)), .val (.ref a_SPO), .val (.int (1 : Int32)), .unset] []))
      refine OFin.back (fun _ hr => XS.iload X5.here hx rfl (hb hby at_57) rfl hr) ?_
      show OFin p e below s _ _ Q (T5.setTop (mkF m 59 #[.val (.int sel), .val (.int cl), .val (.int si), .val (.int pi), .val (.int oi), .val (.int (0 : Int32)), .val (.int (1 : Int32)), .val (.ref a_SPO), .val (.int (1 : Int32)), .unset] [(.int (1 : Int32))]))
      refine OFin.back (fun _ hr => XS.ifYes X5.here hx rfl (pc0 := 59) (pc' := 68) rfl (hb hby at_59) rfl ((if0 _ _).trans (feq (by decide : ¬ ((1 : Int32) = (0 : Int32)))).2) (by decide) (by decide) hr) ?_
      show OFin p e below s _ _ Q (T5.setTop (mkF m 68 #[.val (.int sel), .val (.int cl), .val (.int si), .val (.int pi), .val (.int oi), .val (.int (0 : Int32)), .val (.int (1 : Int32)), .val (.ref a_SPO), .val (.int (1 : Int32)), .unset] []))
      refine OFin.back (fun _ hr => XS.iload X5.here hx rfl (hb hby at_68) rfl hr) ?_
      show OFin p e below s _ _ Q (T5.setTop (mkF m 70 #[.val (.int sel), .val (.int cl), .val (.int si), .val (.int pi), .val (.int oi), .val (.int (0 : Int32)), .val (.int (1 : Int32)), .val (.ref a_SPO), .val (.int (1 : Int32)), .unset] [(.int (1 : Int32))]))
      refine OFin.back (fun _ hr => XS.iconst X5.here hx rfl (hb hby at_70) hr) ?_
      show OFin p e below s _ _ Q (T5.setTop (mkF m 71 #[.val (.int sel), .val (.int cl), .val (.int si), .val (.int pi), .val (.int oi), .val (.int (0 : Int32)), .val (.int (1 : Int32)), .val (.ref a_SPO), .val (.int (1 : Int32)), .unset] [(.int (1 : Int32)), (.int (1 : Int32))]))
      refine OFin.back (fun _ hr => XS.icmpNo X5.here hx rfl (hb hby at_71) rfl (teq (by decide : (1 : Int32) = (1 : Int32))).2 hr) ?_
      show OFin p e below s _ _ Q (T5.setTop (mkF m 74 #[.val (.int sel), .val (.int cl), .val (.int si), .val (.int pi), .val (.int oi), .val (.int (0 : Int32)), .val (.int (1 : Int32)), .val (.ref a_SPO), .val (.int (1 : Int32)), .unset] []))
      refine OFin.back (fun _ hr => XS.iloadN X5.here hx rfl (hb hby at_74) rfl hr) ?_
      show OFin p e below s _ _ Q (T5.setTop (mkF m 75 #[.val (.int sel), .val (.int cl), .val (.int si), .val (.int pi), .val (.int oi), .val (.int (0 : Int32)), .val (.int (1 : Int32)), .val (.ref a_SPO), .val (.int (1 : Int32)), .unset] [(.int pi)]))
      refine OFin.back (fun _ hr => XS.istore X5.here hx rfl (hb hby at_75) rfl (l' := #[.val (.int sel), .val (.int cl), .val (.int si), .val (.int pi), .val (.int oi), .val (.int (0 : Int32)), .val (.int (1 : Int32)), .val (.ref a_SPO), .val (.int (1 : Int32)), .val (.int pi)]) rfl hr) ?_
      show OFin p e below s _ _ Q (T5.setTop (mkF m 77 #[.val (.int sel), .val (.int cl), .val (.int si), .val (.int pi), .val (.int oi), .val (.int (0 : Int32)), .val (.int (1 : Int32)), .val (.ref a_SPO), .val (.int (1 : Int32)), .val (.int pi)] []))
      refine OFin.back (fun _ hr => XS.goto X5.here hx rfl (pc0 := 77) (pc' := 84) rfl (hb hby at_77) (by decide) (by decide) hr) ?_
      show OFin p e below s _ _ Q (T5.setTop (mkF m 84 #[.val (.int sel), .val (.int cl), .val (.int si), .val (.int pi), .val (.int oi), .val (.int (0 : Int32)), .val (.int (1 : Int32)), .val (.ref a_SPO), .val (.int (1 : Int32)), .val (.int pi)] []))
      refine OFin.back (fun _ hr => XS.aload X5.here hx rfl (hb hby at_84) rfl rfl hr) ?_
      show OFin p e below s _ _ Q (T5.setTop (mkF m 86 #[.val (.int sel), .val (.int cl), .val (.int si), .val (.int pi), .val (.int oi), .val (.int (0 : Int32)), .val (.int (1 : Int32)), .val (.ref a_SPO), .val (.int (1 : Int32)), .val (.int pi)] [(.ref a_SPO)]))
      refine OFin.back (fun _ hr => XS.iload X5.here hx rfl (hb hby at_86) rfl hr) ?_
      show OFin p e below s _ _ Q (T5.setTop (mkF m 88 #[.val (.int sel), .val (.int cl), .val (.int si), .val (.int pi), .val (.int oi), .val (.int (0 : Int32)), .val (.int (1 : Int32)), .val (.ref a_SPO), .val (.int (1 : Int32)), .val (.int pi)] [(.int (1 : Int32)), (.ref a_SPO)]))
      refine OFin.back (fun _ hr => XS.iloadN X5.here hx rfl (hb hby at_88) rfl hr) ?_
      show OFin p e below s _ _ Q (T5.setTop (mkF m 89 #[.val (.int sel), .val (.int cl), .val (.int si), .val (.int pi), .val (.int oi), .val (.int (0 : Int32)), .val (.int (1 : Int32)), .val (.ref a_SPO), .val (.int (1 : Int32)), .val (.int pi)] [(.int si), (.int (1 : Int32)), (.ref a_SPO)]))
      refine OFin.back (fun _ hr => XS.iloadN X5.here hx rfl (hb hby at_89) rfl hr) ?_
      show OFin p e below s _ _ Q (T5.setTop (mkF m 90 #[.val (.int sel), .val (.int cl), .val (.int si), .val (.int pi), .val (.int oi), .val (.int (0 : Int32)), .val (.int (1 : Int32)), .val (.ref a_SPO), .val (.int (1 : Int32)), .val (.int pi)] [(.int pi), (.int si), (.int (1 : Int32)), (.ref a_SPO)]))
      refine OFin.back (fun _ hr => XS.iload X5.here hx rfl (hb hby at_90) rfl hr) ?_
      show OFin p e below s _ _ Q (T5.setTop (mkF m 92 #[.val (.int sel), .val (.int cl), .val (.int si), .val (.int pi), .val (.int oi), .val (.int (0 : Int32)), .val (.int (1 : Int32)), .val (.ref a_SPO), .val (.int (1 : Int32)), .val (.int pi)] [(.int oi), (.int pi), (.int si), (.int (1 : Int32)), (.ref a_SPO)]))
      obtain ⟨cq6, kq6, q6a, q6b, q6c⟩ := isOf hZ e5 E_SPO
      obtain ⟨_, _, ⟨T6, L6, k6, n6⟩, -, X6, ⟨Lc6, hQ6, l6, y6, z6⟩, st6⟩ := X5.virtualBack hx (y := (⟨"com/example/triplewright/triplewright/store/TripleOrder", "column", "(IIII)I"⟩ : MethodName)) (z := (⟨"com/example/triplewright/triplewright/store/TripleOrder", "column", "(IIII)I"⟩ : MethodName)) hown (mvT hZ (hw _ (List.mem_of_getElem? (i := 4) rfl))) (mvT hZ (hw _ (List.mem_of_getElem? (i := 5) rfl))) (notFace_of_selects (args := #[]) (mvT hZ (hw _ (List.mem_of_getElem? (i := 7) rfl)))) (mvT hZ (hw _ (List.mem_of_getElem? (i := 7) rfl))) (mvT hZ (hw _ (List.mem_of_getElem? (i := 6) rfl))) (by decide) (backOf (W := 0) (rm1 l Z a0 hw [] a_SPO (1 : Int32) si pi oi (0 : Int32) (1 : Int32) h0 n0 Z0 F_SPO_subjectColumn F_SPO_predicateColumn) hZ (hw _ (List.mem_of_getElem? (i := 8) rfl)) (hw _ (List.mem_of_getElem? (i := 2) rfl)) (by decide) (by decide)) q6a q6c (g := (mkF m 92 #[.val (.int sel), .val (.int cl), .val (.int si), .val (.int pi), .val (.int oi), .val (.int (0 : Int32)), .val (.int (1 : Int32)), .val (.ref a_SPO), .val (.int (1 : Int32)), .val (.int pi)] [(.int oi), (.int pi), (.int si), (.int (1 : Int32)), (.ref a_SPO)])) rfl (by rw [hml]; rfl) (Steps.refl _) (argsL := [(.int (1 : Int32)), (.int si), (.int pi), (.int oi)]) (rest := []) (lenOf pd0_0 rfl) rfl (by show 2 * 0 + _ ≤ _; exact Nat.le_of_eq rfl) (hb hby at_92) (fun _ _ => ⟨rfl, e5, (by decide : 0 + 0 ≤ _), (by decide : 0 + 0 ≤ _)⟩)
      dsimp only [Pt.U, Pt.locs, Pt.cells, Pt.slots] at X6 l6 y6 z6 st6 hQ6
      subst l6 y6 z6
      obtain ⟨rfl, N6q, e6⟩ := hQ6
      have N6 := Fr.app N0 N6q
      refine OFin.via st6 ?_
      rw [show (own_col (1 : Int32) (0 : Int32) (1 : Int32) si pi oi) = pi from by simp [own_col]]
      show OFin p e below s _ _ Q (T6.setTop (mkF m 95 #[.val (.int sel), .val (.int cl), .val (.int si), .val (.int pi), .val (.int oi), .val (.int (0 : Int32)), .val (.int (1 : Int32)), .val (.ref a_SPO), .val (.int (1 : Int32)), .val (.int pi)] [(.int pi)]))
      refine OFin.back (fun _ hr => XS.iload X6.here hx rfl (hb hby at_95) rfl hr) ?_
      show OFin p e below s _ _ Q (T6.setTop (mkF m 97 #[.val (.int sel), .val (.int cl), .val (.int si), .val (.int pi), .val (.int oi), .val (.int (0 : Int32)), .val (.int (1 : Int32)), .val (.ref a_SPO), .val (.int (1 : Int32)), .val (.int pi)] [(.int pi), (.int pi)]))
      refine OFin.back (fun _ hr => XS.icmpNo X6.here hx rfl (hb hby at_97) rfl (teq rfl).2 hr) ?_
      show OFin p e below s _ _ Q (T6.setTop (mkF m 100 #[.val (.int sel), .val (.int cl), .val (.int si), .val (.int pi), .val (.int oi), .val (.int (0 : Int32)), .val (.int (1 : Int32)), .val (.ref a_SPO), .val (.int (1 : Int32)), .val (.int pi)] []))
      refine OFin.back (fun _ hr => XS.iconst X6.here hx rfl (hb hby at_100) hr) ?_
      show OFin p e below s _ _ Q (T6.setTop (mkF m 101 #[.val (.int sel), .val (.int cl), .val (.int si), .val (.int pi), .val (.int oi), .val (.int (0 : Int32)), .val (.int (1 : Int32)), .val (.ref a_SPO), .val (.int (1 : Int32)), .val (.int pi)] [(.int (1 : Int32))]))
      refine OFin.back (fun _ hr => XS.goto X6.here hx rfl (pc0 := 101) (pc' := 105) rfl (hb hby at_101) (by decide) (by decide) hr) ?_
      show OFin p e below s _ _ Q (T6.setTop (mkF m 105 #[.val (.int sel), .val (.int cl), .val (.int si), .val (.int pi), .val (.int oi), .val (.int (0 : Int32)), .val (.int (1 : Int32)), .val (.ref a_SPO), .val (.int (1 : Int32)), .val (.int pi)] [(.int (1 : Int32))]))
      exact OFin.outN (t := .boolean) X6 hx Bd.returns (by simp) Bd.notSynchronized (hb hby at_105) (by decide) (by decide) e6 (by rw [hQ]; exact ⟨rfl, N6⟩)
    · rw [hl2_2]
      refine OFin.back (fun _ hr => XS.iload X0.here hx rfl (hb hby at_16) rfl hr) ?_
      show OFin p e below s _ _ Q (s₁.setTop (mkF m 18 #[.val (.int sel), .val (.int cl), .val (.int si), .val (.int pi), .val (.int oi), .val (.int (0 : Int32)), .val (.int (2 : Int32)), .unset, .unset, .unset] [(.int (0 : Int32))]))
      refine OFin.back (fun _ hr => XS.ifNo X0.here hx rfl (hb hby at_18) rfl ((if0 _ _).trans (teq (by decide : (0 : Int32) = (0 : Int32))).2) hr) ?_
      show OFin p e below s _ _ Q (s₁.setTop (mkF m 21 #[.val (.int sel), .val (.int cl), .val (.int si), .val (.int pi), .val (.int oi), .val (.int (0 : Int32)), .val (.int (2 : Int32)), .unset, .unset, .unset] []))
      obtain ⟨T7, X7, e7, st7⟩ := getS2 X0 hx hZ hown (host := "") (Or.inl (hw _ (List.mem_of_getElem? (i := 1) rfl))) Via.refl e0 S_SPO (g := (mkF m 21 #[.val (.int sel), .val (.int cl), .val (.int si), .val (.int pi), .val (.int oi), .val (.int (0 : Int32)), .val (.int (2 : Int32)), .unset, .unset, .unset] [])) rfl (hb hby at_21)
      refine OFin.back st7 ?_
      show OFin p e below s _ _ Q (T7.setTop (mkF m 24 #[.val (.int sel), .val (.int cl), .val (.int si), .val (.int pi), .val (.int oi), .val (.int (0 : Int32)), .val (.int (2 : Int32)), .unset, .unset, .unset] [(.ref a_SPO)]))
      refine OFin.back (fun _ hr => XS.astore X7.here hx rfl (hb hby at_24) rfl rfl (l' := #[.val (.int sel), .val (.int cl), .val (.int si), .val (.int pi), .val (.int oi), .val (.int (0 : Int32)), .val (.int (2 : Int32)), .val (.ref a_SPO), .unset, .unset]) rfl hr) ?_
      show OFin p e below s _ _ Q (T7.setTop (mkF m 26 #[.val (.int sel), .val (.int cl), .val (.int si), .val (.int pi), .val (.int oi), .val (.int (0 : Int32)), .val (.int (2 : Int32)), .val (.ref a_SPO), .unset, .unset] []))
      refine OFin.back (fun _ hr => XS.goto X7.here hx rfl (pc0 := 26) (pc' := 48) rfl (hb hby at_26) (by decide) (by decide) hr) ?_
      show OFin p e below s _ _ Q (T7.setTop (mkF m 48 #[.val (.int sel), .val (.int cl), .val (.int si), .val (.int pi), .val (.int oi), .val (.int (0 : Int32)), .val (.int (2 : Int32)), .val (.ref a_SPO), .unset, .unset] []))
      refine OFin.back (fun _ hr => XS.iload X7.here hx rfl (hb hby at_48) rfl hr) ?_
      show OFin p e below s _ _ Q (T7.setTop (mkF m 50 #[.val (.int sel), .val (.int cl), .val (.int si), .val (.int pi), .val (.int oi), .val (.int (0 : Int32)), .val (.int (2 : Int32)), .val (.ref a_SPO), .unset, .unset] [(.int (2 : Int32))]))
      refine OFin.back (fun _ hr => XS.iload X7.here hx rfl (hb hby at_50) rfl hr) ?_
      show OFin p e below s _ _ Q (T7.setTop (mkF m 52 #[.val (.int sel), .val (.int cl), .val (.int si), .val (.int pi), .val (.int oi), .val (.int (0 : Int32)), .val (.int (2 : Int32)), .val (.ref a_SPO), .unset, .unset] [(.int (0 : Int32)), (.int (2 : Int32))]))
      refine OFin.back (fun _ hr => XS.iadd X7.here hx rfl (hb hby at_52) rfl hr) ?_
      show OFin p e below s _ _ Q (T7.setTop (mkF m 53 #[.val (.int sel), .val (.int cl), .val (.int si), .val (.int pi), .val (.int oi), .val (.int (0 : Int32)), .val (.int (2 : Int32)), .val (.ref a_SPO), .unset, .unset] [(.int (2 : Int32))]))
      refine OFin.back (fun _ hr => XS.iconst X7.here hx rfl (hb hby at_53) hr) ?_
      show OFin p e below s _ _ Q (T7.setTop (mkF m 54 #[.val (.int sel), .val (.int cl), .val (.int si), .val (.int pi), .val (.int oi), .val (.int (0 : Int32)), .val (.int (2 : Int32)), .val (.ref a_SPO), .unset, .unset] [(.int (3 : Int32)), (.int (2 : Int32))]))
      refine OFin.back (fun _ hr => iremM (g := (mkF m 54 #[.val (.int sel), .val (.int cl), .val (.int si), .val (.int pi), .val (.int oi), .val (.int (0 : Int32)), .val (.int (2 : Int32)), .val (.ref a_SPO), .unset, .unset] [(.int (3 : Int32)), (.int (2 : Int32))])) X7 hx rfl (hb hby at_54) rfl (by decide) hr) ?_
      show OFin p e below s _ _ Q (T7.setTop (mkF m 55 #[.val (.int sel), .val (.int cl), .val (.int si), .val (.int pi), .val (.int oi), .val (.int (0 : Int32)), .val (.int (2 : Int32)), .val (.ref a_SPO), .unset, .unset] [(.int (2 : Int32))]))
      refine OFin.back (fun _ hr => XS.istore X7.here hx rfl (hb hby at_55) rfl (l' := #[.val (.int sel), .val (.int cl), .val (.int si), .val (.int pi), .val (.int oi), .val (.int (0 : Int32)), .val (.int (2 : Int32)), .val (.ref a_SPO), .val (.int (2 : Int32)), .unset]) rfl hr) ?_
      show OFin p e below s _ _ Q (T7.setTop (mkF m 57 #[.val (.int sel), .val (.int cl), .val (.int si), .val (.int pi), .val (.int oi), .val (.int (0 : Int32)), .val (.int (2 : Int32)), .val (.ref a_SPO), .val (.int (2 : Int32)), .unset] []))
      refine OFin.back (fun _ hr => XS.iload X7.here hx rfl (hb hby at_57) rfl hr) ?_
      show OFin p e below s _ _ Q (T7.setTop (mkF m 59 #[.val (.int sel), .val (.int cl), .val (.int si), .val (.int pi), .val (.int oi), .val (.int (0 : Int32)), .val (.int (2 : Int32)), .val (.ref a_SPO), .val (.int (2 : Int32)), .unset] [(.int (2 : Int32))]))
      refine OFin.back (fun _ hr => XS.ifYes X7.here hx rfl (pc0 := 59) (pc' := 68) rfl (hb hby at_59) rfl ((if0 _ _).trans (feq (by decide : ¬ ((2 : Int32) = (0 : Int32)))).2) (by decide) (by decide) hr) ?_
      show OFin p e below s _ _ Q (T7.setTop (mkF m 68 #[.val (.int sel), .val (.int cl), .val (.int si), .val (.int pi), .val (.int oi), .val (.int (0 : Int32)), .val (.int (2 : Int32)), .val (.ref a_SPO), .val (.int (2 : Int32)), .unset] []))
      refine OFin.back (fun _ hr => XS.iload X7.here hx rfl (hb hby at_68) rfl hr) ?_
      show OFin p e below s _ _ Q (T7.setTop (mkF m 70 #[.val (.int sel), .val (.int cl), .val (.int si), .val (.int pi), .val (.int oi), .val (.int (0 : Int32)), .val (.int (2 : Int32)), .val (.ref a_SPO), .val (.int (2 : Int32)), .unset] [(.int (2 : Int32))]))
      refine OFin.back (fun _ hr => XS.iconst X7.here hx rfl (hb hby at_70) hr) ?_
      show OFin p e below s _ _ Q (T7.setTop (mkF m 71 #[.val (.int sel), .val (.int cl), .val (.int si), .val (.int pi), .val (.int oi), .val (.int (0 : Int32)), .val (.int (2 : Int32)), .val (.ref a_SPO), .val (.int (2 : Int32)), .unset] [(.int (1 : Int32)), (.int (2 : Int32))]))
      refine OFin.back (fun _ hr => XS.icmpYes X7.here hx rfl (pc0 := 71) (pc' := 80) rfl (hb hby at_71) rfl (feq (by decide : ¬ ((2 : Int32) = (1 : Int32)))).2 (by decide) (by decide) hr) ?_
      show OFin p e below s _ _ Q (T7.setTop (mkF m 80 #[.val (.int sel), .val (.int cl), .val (.int si), .val (.int pi), .val (.int oi), .val (.int (0 : Int32)), .val (.int (2 : Int32)), .val (.ref a_SPO), .val (.int (2 : Int32)), .unset] []))
      refine OFin.back (fun _ hr => XS.iload X7.here hx rfl (hb hby at_80) rfl hr) ?_
      show OFin p e below s _ _ Q (T7.setTop (mkF m 82 #[.val (.int sel), .val (.int cl), .val (.int si), .val (.int pi), .val (.int oi), .val (.int (0 : Int32)), .val (.int (2 : Int32)), .val (.ref a_SPO), .val (.int (2 : Int32)), .unset] [(.int oi)]))
      refine OFin.back (fun _ hr => XS.istore X7.here hx rfl (hb hby at_82) rfl (l' := #[.val (.int sel), .val (.int cl), .val (.int si), .val (.int pi), .val (.int oi), .val (.int (0 : Int32)), .val (.int (2 : Int32)), .val (.ref a_SPO), .val (.int (2 : Int32)), .val (.int oi)]) rfl hr) ?_
      show OFin p e below s _ _ Q (T7.setTop (mkF m 84 #[.val (.int sel), .val (.int cl), .val (.int si), .val (.int pi), .val (.int oi), .val (.int (0 : Int32)), .val (.int (2 : Int32)), .val (.ref a_SPO), .val (.int (2 : Int32)), .val (.int oi)] []))
      refine OFin.back (fun _ hr => XS.aload X7.here hx rfl (hb hby at_84) rfl rfl hr) ?_
      show OFin p e below s _ _ Q (T7.setTop (mkF m 86 #[.val (.int sel), .val (.int cl), .val (.int si), .val (.int pi), .val (.int oi), .val (.int (0 : Int32)), .val (.int (2 : Int32)), .val (.ref a_SPO), .val (.int (2 : Int32)), .val (.int oi)] [(.ref a_SPO)]))
      refine OFin.back (fun _ hr => XS.iload X7.here hx rfl (hb hby at_86) rfl hr) ?_
      show OFin p e below s _ _ Q (T7.setTop (mkF m 88 #[.val (.int sel), .val (.int cl), .val (.int si), .val (.int pi), .val (.int oi), .val (.int (0 : Int32)), .val (.int (2 : Int32)), .val (.ref a_SPO), .val (.int (2 : Int32)), .val (.int oi)] [(.int (2 : Int32)), (.ref a_SPO)]))
      refine OFin.back (fun _ hr => XS.iloadN X7.here hx rfl (hb hby at_88) rfl hr) ?_
      show OFin p e below s _ _ Q (T7.setTop (mkF m 89 #[.val (.int sel), .val (.int cl), .val (.int si), .val (.int pi), .val (.int oi), .val (.int (0 : Int32)), .val (.int (2 : Int32)), .val (.ref a_SPO), .val (.int (2 : Int32)), .val (.int oi)] [(.int si), (.int (2 : Int32)), (.ref a_SPO)]))
      refine OFin.back (fun _ hr => XS.iloadN X7.here hx rfl (hb hby at_89) rfl hr) ?_
      show OFin p e below s _ _ Q (T7.setTop (mkF m 90 #[.val (.int sel), .val (.int cl), .val (.int si), .val (.int pi), .val (.int oi), .val (.int (0 : Int32)), .val (.int (2 : Int32)), .val (.ref a_SPO), .val (.int (2 : Int32)), .val (.int oi)] [(.int pi), (.int si), (.int (2 : Int32)), (.ref a_SPO)]))
      refine OFin.back (fun _ hr => XS.iload X7.here hx rfl (hb hby at_90) rfl hr) ?_
      show OFin p e below s _ _ Q (T7.setTop (mkF m 92 #[.val (.int sel), .val (.int cl), .val (.int si), .val (.int pi), .val (.int oi), .val (.int (0 : Int32)), .val (.int (2 : Int32)), .val (.ref a_SPO), .val (.int (2 : Int32)), .val (.int oi)] [(.int oi), (.int pi), (.int si), (.int (2 : Int32)), (.ref a_SPO)]))
      obtain ⟨cq8, kq8, q8a, q8b, q8c⟩ := isOf hZ e7 E_SPO
      obtain ⟨_, _, ⟨T8, L8, k8, n8⟩, -, X8, ⟨Lc8, hQ8, l8, y8, z8⟩, st8⟩ := X7.virtualBack hx (y := (⟨"com/example/triplewright/triplewright/store/TripleOrder", "column", "(IIII)I"⟩ : MethodName)) (z := (⟨"com/example/triplewright/triplewright/store/TripleOrder", "column", "(IIII)I"⟩ : MethodName)) hown (mvT hZ (hw _ (List.mem_of_getElem? (i := 4) rfl))) (mvT hZ (hw _ (List.mem_of_getElem? (i := 5) rfl))) (notFace_of_selects (args := #[]) (mvT hZ (hw _ (List.mem_of_getElem? (i := 7) rfl)))) (mvT hZ (hw _ (List.mem_of_getElem? (i := 7) rfl))) (mvT hZ (hw _ (List.mem_of_getElem? (i := 6) rfl))) (by decide) (backOf (W := 0) (rm1 l Z a0 hw [] a_SPO (2 : Int32) si pi oi (0 : Int32) (1 : Int32) h0 n0 Z0 F_SPO_subjectColumn F_SPO_predicateColumn) hZ (hw _ (List.mem_of_getElem? (i := 8) rfl)) (hw _ (List.mem_of_getElem? (i := 2) rfl)) (by decide) (by decide)) q8a q8c (g := (mkF m 92 #[.val (.int sel), .val (.int cl), .val (.int si), .val (.int pi), .val (.int oi), .val (.int (0 : Int32)), .val (.int (2 : Int32)), .val (.ref a_SPO), .val (.int (2 : Int32)), .val (.int oi)] [(.int oi), (.int pi), (.int si), (.int (2 : Int32)), (.ref a_SPO)])) rfl (by rw [hml]; rfl) (Steps.refl _) (argsL := [(.int (2 : Int32)), (.int si), (.int pi), (.int oi)]) (rest := []) (lenOf pd0_0 rfl) rfl (by show 2 * 0 + _ ≤ _; exact Nat.le_of_eq rfl) (hb hby at_92) (fun _ _ => ⟨rfl, e7, (by decide : 0 + 0 ≤ _), (by decide : 0 + 0 ≤ _)⟩)
      dsimp only [Pt.U, Pt.locs, Pt.cells, Pt.slots] at X8 l8 y8 z8 st8 hQ8
      subst l8 y8 z8
      obtain ⟨rfl, N8q, e8⟩ := hQ8
      have N8 := Fr.app N0 N8q
      refine OFin.via st8 ?_
      rw [show (own_col (2 : Int32) (0 : Int32) (1 : Int32) si pi oi) = oi from by simp [own_col]]
      show OFin p e below s _ _ Q (T8.setTop (mkF m 95 #[.val (.int sel), .val (.int cl), .val (.int si), .val (.int pi), .val (.int oi), .val (.int (0 : Int32)), .val (.int (2 : Int32)), .val (.ref a_SPO), .val (.int (2 : Int32)), .val (.int oi)] [(.int oi)]))
      refine OFin.back (fun _ hr => XS.iload X8.here hx rfl (hb hby at_95) rfl hr) ?_
      show OFin p e below s _ _ Q (T8.setTop (mkF m 97 #[.val (.int sel), .val (.int cl), .val (.int si), .val (.int pi), .val (.int oi), .val (.int (0 : Int32)), .val (.int (2 : Int32)), .val (.ref a_SPO), .val (.int (2 : Int32)), .val (.int oi)] [(.int oi), (.int oi)]))
      refine OFin.back (fun _ hr => XS.icmpNo X8.here hx rfl (hb hby at_97) rfl (teq rfl).2 hr) ?_
      show OFin p e below s _ _ Q (T8.setTop (mkF m 100 #[.val (.int sel), .val (.int cl), .val (.int si), .val (.int pi), .val (.int oi), .val (.int (0 : Int32)), .val (.int (2 : Int32)), .val (.ref a_SPO), .val (.int (2 : Int32)), .val (.int oi)] []))
      refine OFin.back (fun _ hr => XS.iconst X8.here hx rfl (hb hby at_100) hr) ?_
      show OFin p e below s _ _ Q (T8.setTop (mkF m 101 #[.val (.int sel), .val (.int cl), .val (.int si), .val (.int pi), .val (.int oi), .val (.int (0 : Int32)), .val (.int (2 : Int32)), .val (.ref a_SPO), .val (.int (2 : Int32)), .val (.int oi)] [(.int (1 : Int32))]))
      refine OFin.back (fun _ hr => XS.goto X8.here hx rfl (pc0 := 101) (pc' := 105) rfl (hb hby at_101) (by decide) (by decide) hr) ?_
      show OFin p e below s _ _ Q (T8.setTop (mkF m 105 #[.val (.int sel), .val (.int cl), .val (.int si), .val (.int pi), .val (.int oi), .val (.int (0 : Int32)), .val (.int (2 : Int32)), .val (.ref a_SPO), .val (.int (2 : Int32)), .val (.int oi)] [(.int (1 : Int32))]))
      exact OFin.outN (t := .boolean) X8 hx Bd.returns (by simp) Bd.notSynchronized (hb hby at_105) (by decide) (by decide) e8 (by rw [hQ]; exact ⟨rfl, N8⟩)
  · rw [hk1_1]
    refine OFin.back (fun _ hr => XS.iloadN X0.here hx rfl (hb hby at_8) rfl hr) ?_
    show OFin p e below s _ _ Q (s₁.setTop (mkF m 9 #[.val (.int sel), .val (.int cl), .val (.int si), .val (.int pi), .val (.int oi), .val (.int (1 : Int32)), .unset, .unset, .unset, .unset] [(.int cl)]))
    refine OFin.back (X0.ldcInt hx hown (mvT hZ (hw _ (List.mem_of_getElem? (i := 0) rfl))) (g := (mkF m 9 #[.val (.int sel), .val (.int cl), .val (.int si), .val (.int pi), .val (.int oi), .val (.int (1 : Int32)), .unset, .unset, .unset, .unset] [(.int cl)])) rfl (hb hby at_9)) ?_
    show OFin p e below s _ _ Q (s₁.setTop (mkF m 11 #[.val (.int sel), .val (.int cl), .val (.int si), .val (.int pi), .val (.int oi), .val (.int (1 : Int32)), .unset, .unset, .unset, .unset] [(.int (2147483647 : Int32)), (.int cl)]))
    refine OFin.back (fun _ hr => XS.iand X0.here hx rfl (hb hby at_11) rfl hr) ?_
    show OFin p e below s _ _ Q (s₁.setTop (mkF m 12 #[.val (.int sel), .val (.int cl), .val (.int si), .val (.int pi), .val (.int oi), .val (.int (1 : Int32)), .unset, .unset, .unset, .unset] [(.int (cl &&& (2147483647 : Int32)))]))
    refine OFin.back (fun _ hr => XS.iconst X0.here hx rfl (hb hby at_12) hr) ?_
    show OFin p e below s _ _ Q (s₁.setTop (mkF m 13 #[.val (.int sel), .val (.int cl), .val (.int si), .val (.int pi), .val (.int oi), .val (.int (1 : Int32)), .unset, .unset, .unset, .unset] [(.int (3 : Int32)), (.int (cl &&& (2147483647 : Int32)))]))
    refine OFin.back (fun _ hr => iremM (g := (mkF m 13 #[.val (.int sel), .val (.int cl), .val (.int si), .val (.int pi), .val (.int oi), .val (.int (1 : Int32)), .unset, .unset, .unset, .unset] [(.int (3 : Int32)), (.int (cl &&& (2147483647 : Int32)))])) X0 hx rfl (hb hby at_13) rfl (by decide) hr) ?_
    show OFin p e below s _ _ Q (s₁.setTop (mkF m 14 #[.val (.int sel), .val (.int cl), .val (.int si), .val (.int pi), .val (.int oi), .val (.int (1 : Int32)), .unset, .unset, .unset, .unset] [(.int ((cl &&& (2147483647 : Int32)) % (3 : Int32)))]))
    refine OFin.back (fun _ hr => XS.istore X0.here hx rfl (hb hby at_14) rfl (l' := #[.val (.int sel), .val (.int cl), .val (.int si), .val (.int pi), .val (.int oi), .val (.int (1 : Int32)), .val (.int ((cl &&& (2147483647 : Int32)) % (3 : Int32))), .unset, .unset, .unset]) rfl hr) ?_
    show OFin p e below s _ _ Q (s₁.setTop (mkF m 16 #[.val (.int sel), .val (.int cl), .val (.int si), .val (.int pi), .val (.int oi), .val (.int (1 : Int32)), .val (.int ((cl &&& (2147483647 : Int32)) % (3 : Int32))), .unset, .unset, .unset] []))
    rcases (own_mod3 cl) with hl9_0 | hl9_1 | hl9_2
    · rw [hl9_0]
      refine OFin.back (fun _ hr => XS.iload X0.here hx rfl (hb hby at_16) rfl hr) ?_
      show OFin p e below s _ _ Q (s₁.setTop (mkF m 18 #[.val (.int sel), .val (.int cl), .val (.int si), .val (.int pi), .val (.int oi), .val (.int (1 : Int32)), .val (.int (0 : Int32)), .unset, .unset, .unset] [(.int (1 : Int32))]))
      refine OFin.back (fun _ hr => XS.ifYes X0.here hx rfl (pc0 := 18) (pc' := 29) rfl (hb hby at_18) rfl ((if0 _ _).trans (feq (by decide : ¬ ((1 : Int32) = (0 : Int32)))).2) (by decide) (by decide) hr) ?_
      show OFin p e below s _ _ Q (s₁.setTop (mkF m 29 #[.val (.int sel), .val (.int cl), .val (.int si), .val (.int pi), .val (.int oi), .val (.int (1 : Int32)), .val (.int (0 : Int32)), .unset, .unset, .unset] []))
      refine OFin.back (fun _ hr => XS.iload X0.here hx rfl (hb hby at_29) rfl hr) ?_
      show OFin p e below s _ _ Q (s₁.setTop (mkF m 31 #[.val (.int sel), .val (.int cl), .val (.int si), .val (.int pi), .val (.int oi), .val (.int (1 : Int32)), .val (.int (0 : Int32)), .unset, .unset, .unset] [(.int (1 : Int32))]))
      refine OFin.back (fun _ hr => XS.iconst X0.here hx rfl (hb hby at_31) hr) ?_
      show OFin p e below s _ _ Q (s₁.setTop (mkF m 32 #[.val (.int sel), .val (.int cl), .val (.int si), .val (.int pi), .val (.int oi), .val (.int (1 : Int32)), .val (.int (0 : Int32)), .unset, .unset, .unset] [(.int (1 : Int32)), (.int (1 : Int32))]))
      refine OFin.back (fun _ hr => XS.icmpNo X0.here hx rfl (hb hby at_32) rfl (teq (by decide : (1 : Int32) = (1 : Int32))).2 hr) ?_
      show OFin p e below s _ _ Q (s₁.setTop (mkF m 35 #[.val (.int sel), .val (.int cl), .val (.int si), .val (.int pi), .val (.int oi), .val (.int (1 : Int32)), .val (.int (0 : Int32)), .unset, .unset, .unset] []))
      obtain ⟨T10, X10, e10, st10⟩ := getS2 X0 hx hZ hown (host := "") (Or.inl (hw _ (List.mem_of_getElem? (i := 15) rfl))) Via.refl e0 S_POS (g := (mkF m 35 #[.val (.int sel), .val (.int cl), .val (.int si), .val (.int pi), .val (.int oi), .val (.int (1 : Int32)), .val (.int (0 : Int32)), .unset, .unset, .unset] [])) rfl (hb hby at_35)
      refine OFin.back st10 ?_
      show OFin p e below s _ _ Q (T10.setTop (mkF m 38 #[.val (.int sel), .val (.int cl), .val (.int si), .val (.int pi), .val (.int oi), .val (.int (1 : Int32)), .val (.int (0 : Int32)), .unset, .unset, .unset] [(.ref a_POS)]))
      refine OFin.back (fun _ hr => XS.astore X10.here hx rfl (hb hby at_38) rfl rfl (l' := #[.val (.int sel), .val (.int cl), .val (.int si), .val (.int pi), .val (.int oi), .val (.int (1 : Int32)), .val (.int (0 : Int32)), .val (.ref a_POS), .unset, .unset]) rfl hr) ?_
      show OFin p e below s _ _ Q (T10.setTop (mkF m 40 #[.val (.int sel), .val (.int cl), .val (.int si), .val (.int pi), .val (.int oi), .val (.int (1 : Int32)), .val (.int (0 : Int32)), .val (.ref a_POS), .unset, .unset] []))
      refine OFin.back (fun _ hr => XS.goto X10.here hx rfl (pc0 := 40) (pc' := 48) rfl (hb hby at_40) (by decide) (by decide) hr) ?_
      show OFin p e below s _ _ Q (T10.setTop (mkF m 48 #[.val (.int sel), .val (.int cl), .val (.int si), .val (.int pi), .val (.int oi), .val (.int (1 : Int32)), .val (.int (0 : Int32)), .val (.ref a_POS), .unset, .unset] []))
      refine OFin.back (fun _ hr => XS.iload X10.here hx rfl (hb hby at_48) rfl hr) ?_
      show OFin p e below s _ _ Q (T10.setTop (mkF m 50 #[.val (.int sel), .val (.int cl), .val (.int si), .val (.int pi), .val (.int oi), .val (.int (1 : Int32)), .val (.int (0 : Int32)), .val (.ref a_POS), .unset, .unset] [(.int (0 : Int32))]))
      refine OFin.back (fun _ hr => XS.iload X10.here hx rfl (hb hby at_50) rfl hr) ?_
      show OFin p e below s _ _ Q (T10.setTop (mkF m 52 #[.val (.int sel), .val (.int cl), .val (.int si), .val (.int pi), .val (.int oi), .val (.int (1 : Int32)), .val (.int (0 : Int32)), .val (.ref a_POS), .unset, .unset] [(.int (1 : Int32)), (.int (0 : Int32))]))
      refine OFin.back (fun _ hr => XS.iadd X10.here hx rfl (hb hby at_52) rfl hr) ?_
      show OFin p e below s _ _ Q (T10.setTop (mkF m 53 #[.val (.int sel), .val (.int cl), .val (.int si), .val (.int pi), .val (.int oi), .val (.int (1 : Int32)), .val (.int (0 : Int32)), .val (.ref a_POS), .unset, .unset] [(.int (1 : Int32))]))
      refine OFin.back (fun _ hr => XS.iconst X10.here hx rfl (hb hby at_53) hr) ?_
      show OFin p e below s _ _ Q (T10.setTop (mkF m 54 #[.val (.int sel), .val (.int cl), .val (.int si), .val (.int pi), .val (.int oi), .val (.int (1 : Int32)), .val (.int (0 : Int32)), .val (.ref a_POS), .unset, .unset] [(.int (3 : Int32)), (.int (1 : Int32))]))
      refine OFin.back (fun _ hr => iremM (g := (mkF m 54 #[.val (.int sel), .val (.int cl), .val (.int si), .val (.int pi), .val (.int oi), .val (.int (1 : Int32)), .val (.int (0 : Int32)), .val (.ref a_POS), .unset, .unset] [(.int (3 : Int32)), (.int (1 : Int32))])) X10 hx rfl (hb hby at_54) rfl (by decide) hr) ?_
      show OFin p e below s _ _ Q (T10.setTop (mkF m 55 #[.val (.int sel), .val (.int cl), .val (.int si), .val (.int pi), .val (.int oi), .val (.int (1 : Int32)), .val (.int (0 : Int32)), .val (.ref a_POS), .unset, .unset] [(.int (1 : Int32))]))
      refine OFin.back (fun _ hr => XS.istore X10.here hx rfl (hb hby at_55) rfl (l' := #[.val (.int sel), .val (.int cl), .val (.int si), .val (.int pi), .val (.int oi), .val (.int (1 : Int32)), .val (.int (0 : Int32)), .val (.ref a_POS), .val (.int (1 : Int32)), .unset]) rfl hr) ?_
      show OFin p e below s _ _ Q (T10.setTop (mkF m 57 #[.val (.int sel), .val (.int cl), .val (.int si), .val (.int pi), .val (.int oi), .val (.int (1 : Int32)), .val (.int (0 : Int32)), .val (.ref a_POS), .val (.int (1 : Int32)), .unset] []))
      refine OFin.back (fun _ hr => XS.iload X10.here hx rfl (hb hby at_57) rfl hr) ?_
      show OFin p e below s _ _ Q (T10.setTop (mkF m 59 #[.val (.int sel), .val (.int cl), .val (.int si), .val (.int pi), .val (.int oi), .val (.int (1 : Int32)), .val (.int (0 : Int32)), .val (.ref a_POS), .val (.int (1 : Int32)), .unset] [(.int (1 : Int32))]))
      refine OFin.back (fun _ hr => XS.ifYes X10.here hx rfl (pc0 := 59) (pc' := 68) rfl (hb hby at_59) rfl ((if0 _ _).trans (feq (by decide : ¬ ((1 : Int32) = (0 : Int32)))).2) (by decide) (by decide) hr) ?_
      show OFin p e below s _ _ Q (T10.setTop (mkF m 68 #[.val (.int sel), .val (.int cl), .val (.int si), .val (.int pi), .val (.int oi), .val (.int (1 : Int32)), .val (.int (0 : Int32)), .val (.ref a_POS), .val (.int (1 : Int32)), .unset] []))
      refine OFin.back (fun _ hr => XS.iload X10.here hx rfl (hb hby at_68) rfl hr) ?_
      show OFin p e below s _ _ Q (T10.setTop (mkF m 70 #[.val (.int sel), .val (.int cl), .val (.int si), .val (.int pi), .val (.int oi), .val (.int (1 : Int32)), .val (.int (0 : Int32)), .val (.ref a_POS), .val (.int (1 : Int32)), .unset] [(.int (1 : Int32))]))
      refine OFin.back (fun _ hr => XS.iconst X10.here hx rfl (hb hby at_70) hr) ?_
      show OFin p e below s _ _ Q (T10.setTop (mkF m 71 #[.val (.int sel), .val (.int cl), .val (.int si), .val (.int pi), .val (.int oi), .val (.int (1 : Int32)), .val (.int (0 : Int32)), .val (.ref a_POS), .val (.int (1 : Int32)), .unset] [(.int (1 : Int32)), (.int (1 : Int32))]))
      refine OFin.back (fun _ hr => XS.icmpNo X10.here hx rfl (hb hby at_71) rfl (teq (by decide : (1 : Int32) = (1 : Int32))).2 hr) ?_
      show OFin p e below s _ _ Q (T10.setTop (mkF m 74 #[.val (.int sel), .val (.int cl), .val (.int si), .val (.int pi), .val (.int oi), .val (.int (1 : Int32)), .val (.int (0 : Int32)), .val (.ref a_POS), .val (.int (1 : Int32)), .unset] []))
      refine OFin.back (fun _ hr => XS.iloadN X10.here hx rfl (hb hby at_74) rfl hr) ?_
      show OFin p e below s _ _ Q (T10.setTop (mkF m 75 #[.val (.int sel), .val (.int cl), .val (.int si), .val (.int pi), .val (.int oi), .val (.int (1 : Int32)), .val (.int (0 : Int32)), .val (.ref a_POS), .val (.int (1 : Int32)), .unset] [(.int pi)]))
      refine OFin.back (fun _ hr => XS.istore X10.here hx rfl (hb hby at_75) rfl (l' := #[.val (.int sel), .val (.int cl), .val (.int si), .val (.int pi), .val (.int oi), .val (.int (1 : Int32)), .val (.int (0 : Int32)), .val (.ref a_POS), .val (.int (1 : Int32)), .val (.int pi)]) rfl hr) ?_
      show OFin p e below s _ _ Q (T10.setTop (mkF m 77 #[.val (.int sel), .val (.int cl), .val (.int si), .val (.int pi), .val (.int oi), .val (.int (1 : Int32)), .val (.int (0 : Int32)), .val (.ref a_POS), .val (.int (1 : Int32)), .val (.int pi)] []))
      refine OFin.back (fun _ hr => XS.goto X10.here hx rfl (pc0 := 77) (pc' := 84) rfl (hb hby at_77) (by decide) (by decide) hr) ?_
      show OFin p e below s _ _ Q (T10.setTop (mkF m 84 #[.val (.int sel), .val (.int cl), .val (.int si), .val (.int pi), .val (.int oi), .val (.int (1 : Int32)), .val (.int (0 : Int32)), .val (.ref a_POS), .val (.int (1 : Int32)), .val (.int pi)] []))
      refine OFin.back (fun _ hr => XS.aload X10.here hx rfl (hb hby at_84) rfl rfl hr) ?_
      show OFin p e below s _ _ Q (T10.setTop (mkF m 86 #[.val (.int sel), .val (.int cl), .val (.int si), .val (.int pi), .val (.int oi), .val (.int (1 : Int32)), .val (.int (0 : Int32)), .val (.ref a_POS), .val (.int (1 : Int32)), .val (.int pi)] [(.ref a_POS)]))
      refine OFin.back (fun _ hr => XS.iload X10.here hx rfl (hb hby at_86) rfl hr) ?_
      show OFin p e below s _ _ Q (T10.setTop (mkF m 88 #[.val (.int sel), .val (.int cl), .val (.int si), .val (.int pi), .val (.int oi), .val (.int (1 : Int32)), .val (.int (0 : Int32)), .val (.ref a_POS), .val (.int (1 : Int32)), .val (.int pi)] [(.int (0 : Int32)), (.ref a_POS)]))
      refine OFin.back (fun _ hr => XS.iloadN X10.here hx rfl (hb hby at_88) rfl hr) ?_
      show OFin p e below s _ _ Q (T10.setTop (mkF m 89 #[.val (.int sel), .val (.int cl), .val (.int si), .val (.int pi), .val (.int oi), .val (.int (1 : Int32)), .val (.int (0 : Int32)), .val (.ref a_POS), .val (.int (1 : Int32)), .val (.int pi)] [(.int si), (.int (0 : Int32)), (.ref a_POS)]))
      refine OFin.back (fun _ hr => XS.iloadN X10.here hx rfl (hb hby at_89) rfl hr) ?_
      show OFin p e below s _ _ Q (T10.setTop (mkF m 90 #[.val (.int sel), .val (.int cl), .val (.int si), .val (.int pi), .val (.int oi), .val (.int (1 : Int32)), .val (.int (0 : Int32)), .val (.ref a_POS), .val (.int (1 : Int32)), .val (.int pi)] [(.int pi), (.int si), (.int (0 : Int32)), (.ref a_POS)]))
      refine OFin.back (fun _ hr => XS.iload X10.here hx rfl (hb hby at_90) rfl hr) ?_
      show OFin p e below s _ _ Q (T10.setTop (mkF m 92 #[.val (.int sel), .val (.int cl), .val (.int si), .val (.int pi), .val (.int oi), .val (.int (1 : Int32)), .val (.int (0 : Int32)), .val (.ref a_POS), .val (.int (1 : Int32)), .val (.int pi)] [(.int oi), (.int pi), (.int si), (.int (0 : Int32)), (.ref a_POS)]))
      obtain ⟨cq11, kq11, q11a, q11b, q11c⟩ := isOf hZ e10 E_POS
      obtain ⟨_, _, ⟨T11, L11, k11, n11⟩, -, X11, ⟨Lc11, hQ11, l11, y11, z11⟩, st11⟩ := X10.virtualBack hx (y := (⟨"com/example/triplewright/triplewright/store/TripleOrder", "column", "(IIII)I"⟩ : MethodName)) (z := (⟨"com/example/triplewright/triplewright/store/TripleOrder", "column", "(IIII)I"⟩ : MethodName)) hown (mvT hZ (hw _ (List.mem_of_getElem? (i := 4) rfl))) (mvT hZ (hw _ (List.mem_of_getElem? (i := 5) rfl))) (notFace_of_selects (args := #[]) (mvT hZ (hw _ (List.mem_of_getElem? (i := 7) rfl)))) (mvT hZ (hw _ (List.mem_of_getElem? (i := 7) rfl))) (mvT hZ (hw _ (List.mem_of_getElem? (i := 6) rfl))) (by decide) (backOf (W := 0) (rm1 l Z a0 hw [] a_POS (0 : Int32) si pi oi (2 : Int32) (0 : Int32) h0 n0 Z0 F_POS_subjectColumn F_POS_predicateColumn) hZ (hw _ (List.mem_of_getElem? (i := 8) rfl)) (hw _ (List.mem_of_getElem? (i := 2) rfl)) (by decide) (by decide)) q11a q11c (g := (mkF m 92 #[.val (.int sel), .val (.int cl), .val (.int si), .val (.int pi), .val (.int oi), .val (.int (1 : Int32)), .val (.int (0 : Int32)), .val (.ref a_POS), .val (.int (1 : Int32)), .val (.int pi)] [(.int oi), (.int pi), (.int si), (.int (0 : Int32)), (.ref a_POS)])) rfl (by rw [hml]; rfl) (Steps.refl _) (argsL := [(.int (0 : Int32)), (.int si), (.int pi), (.int oi)]) (rest := []) (lenOf pd0_0 rfl) rfl (by show 2 * 0 + _ ≤ _; exact Nat.le_of_eq rfl) (hb hby at_92) (fun _ _ => ⟨rfl, e10, (by decide : 0 + 0 ≤ _), (by decide : 0 + 0 ≤ _)⟩)
      dsimp only [Pt.U, Pt.locs, Pt.cells, Pt.slots] at X11 l11 y11 z11 st11 hQ11
      subst l11 y11 z11
      obtain ⟨rfl, N11q, e11⟩ := hQ11
      have N11 := Fr.app N0 N11q
      refine OFin.via st11 ?_
      rw [show (own_col (0 : Int32) (2 : Int32) (0 : Int32) si pi oi) = pi from by simp [own_col]]
      show OFin p e below s _ _ Q (T11.setTop (mkF m 95 #[.val (.int sel), .val (.int cl), .val (.int si), .val (.int pi), .val (.int oi), .val (.int (1 : Int32)), .val (.int (0 : Int32)), .val (.ref a_POS), .val (.int (1 : Int32)), .val (.int pi)] [(.int pi)]))
      refine OFin.back (fun _ hr => XS.iload X11.here hx rfl (hb hby at_95) rfl hr) ?_
      show OFin p e below s _ _ Q (T11.setTop (mkF m 97 #[.val (.int sel), .val (.int cl), .val (.int si), .val (.int pi), .val (.int oi), .val (.int (1 : Int32)), .val (.int (0 : Int32)), .val (.ref a_POS), .val (.int (1 : Int32)), .val (.int pi)] [(.int pi), (.int pi)]))
      refine OFin.back (fun _ hr => XS.icmpNo X11.here hx rfl (hb hby at_97) rfl (teq rfl).2 hr) ?_
      show OFin p e below s _ _ Q (T11.setTop (mkF m 100 #[.val (.int sel), .val (.int cl), .val (.int si), .val (.int pi), .val (.int oi), .val (.int (1 : Int32)), .val (.int (0 : Int32)), .val (.ref a_POS), .val (.int (1 : Int32)), .val (.int pi)] []))
      refine OFin.back (fun _ hr => XS.iconst X11.here hx rfl (hb hby at_100) hr) ?_
      show OFin p e below s _ _ Q (T11.setTop (mkF m 101 #[.val (.int sel), .val (.int cl), .val (.int si), .val (.int pi), .val (.int oi), .val (.int (1 : Int32)), .val (.int (0 : Int32)), .val (.ref a_POS), .val (.int (1 : Int32)), .val (.int pi)] [(.int (1 : Int32))]))
      refine OFin.back (fun _ hr => XS.goto X11.here hx rfl (pc0 := 101) (pc' := 105) rfl (hb hby at_101) (by decide) (by decide) hr) ?_
      show OFin p e below s _ _ Q (T11.setTop (mkF m 105 #[.val (.int sel), .val (.int cl), .val (.int si), .val (.int pi), .val (.int oi), .val (.int (1 : Int32)), .val (.int (0 : Int32)), .val (.ref a_POS), .val (.int (1 : Int32)), .val (.int pi)] [(.int (1 : Int32))]))
      exact OFin.outN (t := .boolean) X11 hx Bd.returns (by simp) Bd.notSynchronized (hb hby at_105) (by decide) (by decide) e11 (by rw [hQ]; exact ⟨rfl, N11⟩)
    · rw [hl9_1]
      refine OFin.back (fun _ hr => XS.iload X0.here hx rfl (hb hby at_16) rfl hr) ?_
      show OFin p e below s _ _ Q (s₁.setTop (mkF m 18 #[.val (.int sel), .val (.int cl), .val (.int si), .val (.int pi), .val (.int oi), .val (.int (1 : Int32)), .val (.int (1 : Int32)), .unset, .unset, .unset] [(.int (1 : Int32))]))
      refine OFin.back (fun _ hr => XS.ifYes X0.here hx rfl (pc0 := 18) (pc' := 29) rfl (hb hby at_18) rfl ((if0 _ _).trans (feq (by decide : ¬ ((1 : Int32) = (0 : Int32)))).2) (by decide) (by decide) hr) ?_
      show OFin p e below s _ _ Q (s₁.setTop (mkF m 29 #[.val (.int sel), .val (.int cl), .val (.int si), .val (.int pi), .val (.int oi), .val (.int (1 : Int32)), .val (.int (1 : Int32)), .unset, .unset, .unset] []))
      refine OFin.back (fun _ hr => XS.iload X0.here hx rfl (hb hby at_29) rfl hr) ?_
      show OFin p e below s _ _ Q (s₁.setTop (mkF m 31 #[.val (.int sel), .val (.int cl), .val (.int si), .val (.int pi), .val (.int oi), .val (.int (1 : Int32)), .val (.int (1 : Int32)), .unset, .unset, .unset] [(.int (1 : Int32))]))
      refine OFin.back (fun _ hr => XS.iconst X0.here hx rfl (hb hby at_31) hr) ?_
      show OFin p e below s _ _ Q (s₁.setTop (mkF m 32 #[.val (.int sel), .val (.int cl), .val (.int si), .val (.int pi), .val (.int oi), .val (.int (1 : Int32)), .val (.int (1 : Int32)), .unset, .unset, .unset] [(.int (1 : Int32)), (.int (1 : Int32))]))
      refine OFin.back (fun _ hr => XS.icmpNo X0.here hx rfl (hb hby at_32) rfl (teq (by decide : (1 : Int32) = (1 : Int32))).2 hr) ?_
      show OFin p e below s _ _ Q (s₁.setTop (mkF m 35 #[.val (.int sel), .val (.int cl), .val (.int si), .val (.int pi), .val (.int oi), .val (.int (1 : Int32)), .val (.int (1 : Int32)), .unset, .unset, .unset] []))
      obtain ⟨T12, X12, e12, st12⟩ := getS2 X0 hx hZ hown (host := "") (Or.inl (hw _ (List.mem_of_getElem? (i := 15) rfl))) Via.refl e0 S_POS (g := (mkF m 35 #[.val (.int sel), .val (.int cl), .val (.int si), .val (.int pi), .val (.int oi), .val (.int (1 : Int32)), .val (.int (1 : Int32)), .unset, .unset, .unset] [])) rfl (hb hby at_35)
      refine OFin.back st12 ?_
      show OFin p e below s _ _ Q (T12.setTop (mkF m 38 #[.val (.int sel), .val (.int cl), .val (.int si), .val (.int pi), .val (.int oi), .val (.int (1 : Int32)), .val (.int (1 : Int32)), .unset, .unset, .unset] [(.ref a_POS)]))
      refine OFin.back (fun _ hr => XS.astore X12.here hx rfl (hb hby at_38) rfl rfl (l' := #[.val (.int sel), .val (.int cl), .val (.int si), .val (.int pi), .val (.int oi), .val (.int (1 : Int32)), .val (.int (1 : Int32)), .val (.ref a_POS), .unset, .unset]) rfl hr) ?_
      show OFin p e below s _ _ Q (T12.setTop (mkF m 40 #[.val (.int sel), .val (.int cl), .val (.int si), .val (.int pi), .val (.int oi), .val (.int (1 : Int32)), .val (.int (1 : Int32)), .val (.ref a_POS), .unset, .unset] []))
      refine OFin.back (fun _ hr => XS.goto X12.here hx rfl (pc0 := 40) (pc' := 48) rfl (hb hby at_40) (by decide) (by decide) hr) ?_
      show OFin p e below s _ _ Q (T12.setTop (mkF m 48 #[.val (.int sel), .val (.int cl), .val (.int si), .val (.int pi), .val (.int oi), .val (.int (1 : Int32)), .val (.int (1 : Int32)), .val (.ref a_POS), .unset, .unset] []))
      refine OFin.back (fun _ hr => XS.iload X12.here hx rfl (hb hby at_48) rfl hr) ?_
      show OFin p e below s _ _ Q (T12.setTop (mkF m 50 #[.val (.int sel), .val (.int cl), .val (.int si), .val (.int pi), .val (.int oi), .val (.int (1 : Int32)), .val (.int (1 : Int32)), .val (.ref a_POS), .unset, .unset] [(.int (1 : Int32))]))
      refine OFin.back (fun _ hr => XS.iload X12.here hx rfl (hb hby at_50) rfl hr) ?_
      show OFin p e below s _ _ Q (T12.setTop (mkF m 52 #[.val (.int sel), .val (.int cl), .val (.int si), .val (.int pi), .val (.int oi), .val (.int (1 : Int32)), .val (.int (1 : Int32)), .val (.ref a_POS), .unset, .unset] [(.int (1 : Int32)), (.int (1 : Int32))]))
      refine OFin.back (fun _ hr => XS.iadd X12.here hx rfl (hb hby at_52) rfl hr) ?_
      show OFin p e below s _ _ Q (T12.setTop (mkF m 53 #[.val (.int sel), .val (.int cl), .val (.int si), .val (.int pi), .val (.int oi), .val (.int (1 : Int32)), .val (.int (1 : Int32)), .val (.ref a_POS), .unset, .unset] [(.int (2 : Int32))]))
      refine OFin.back (fun _ hr => XS.iconst X12.here hx rfl (hb hby at_53) hr) ?_
      show OFin p e below s _ _ Q (T12.setTop (mkF m 54 #[.val (.int sel), .val (.int cl), .val (.int si), .val (.int pi), .val (.int oi), .val (.int (1 : Int32)), .val (.int (1 : Int32)), .val (.ref a_POS), .unset, .unset] [(.int (3 : Int32)), (.int (2 : Int32))]))
      refine OFin.back (fun _ hr => iremM (g := (mkF m 54 #[.val (.int sel), .val (.int cl), .val (.int si), .val (.int pi), .val (.int oi), .val (.int (1 : Int32)), .val (.int (1 : Int32)), .val (.ref a_POS), .unset, .unset] [(.int (3 : Int32)), (.int (2 : Int32))])) X12 hx rfl (hb hby at_54) rfl (by decide) hr) ?_
      show OFin p e below s _ _ Q (T12.setTop (mkF m 55 #[.val (.int sel), .val (.int cl), .val (.int si), .val (.int pi), .val (.int oi), .val (.int (1 : Int32)), .val (.int (1 : Int32)), .val (.ref a_POS), .unset, .unset] [(.int (2 : Int32))]))
      refine OFin.back (fun _ hr => XS.istore X12.here hx rfl (hb hby at_55) rfl (l' := #[.val (.int sel), .val (.int cl), .val (.int si), .val (.int pi), .val (.int oi), .val (.int (1 : Int32)), .val (.int (1 : Int32)), .val (.ref a_POS), .val (.int (2 : Int32)), .unset]) rfl hr) ?_
      show OFin p e below s _ _ Q (T12.setTop (mkF m 57 #[.val (.int sel), .val (.int cl), .val (.int si), .val (.int pi), .val (.int oi), .val (.int (1 : Int32)), .val (.int (1 : Int32)), .val (.ref a_POS), .val (.int (2 : Int32)), .unset] []))
      refine OFin.back (fun _ hr => XS.iload X12.here hx rfl (hb hby at_57) rfl hr) ?_
      show OFin p e below s _ _ Q (T12.setTop (mkF m 59 #[.val (.int sel), .val (.int cl), .val (.int si), .val (.int pi), .val (.int oi), .val (.int (1 : Int32)), .val (.int (1 : Int32)), .val (.ref a_POS), .val (.int (2 : Int32)), .unset] [(.int (2 : Int32))]))
      refine OFin.back (fun _ hr => XS.ifYes X12.here hx rfl (pc0 := 59) (pc' := 68) rfl (hb hby at_59) rfl ((if0 _ _).trans (feq (by decide : ¬ ((2 : Int32) = (0 : Int32)))).2) (by decide) (by decide) hr) ?_
      show OFin p e below s _ _ Q (T12.setTop (mkF m 68 #[.val (.int sel), .val (.int cl), .val (.int si), .val (.int pi), .val (.int oi), .val (.int (1 : Int32)), .val (.int (1 : Int32)), .val (.ref a_POS), .val (.int (2 : Int32)), .unset] []))
      refine OFin.back (fun _ hr => XS.iload X12.here hx rfl (hb hby at_68) rfl hr) ?_
      show OFin p e below s _ _ Q (T12.setTop (mkF m 70 #[.val (.int sel), .val (.int cl), .val (.int si), .val (.int pi), .val (.int oi), .val (.int (1 : Int32)), .val (.int (1 : Int32)), .val (.ref a_POS), .val (.int (2 : Int32)), .unset] [(.int (2 : Int32))]))
      refine OFin.back (fun _ hr => XS.iconst X12.here hx rfl (hb hby at_70) hr) ?_
      show OFin p e below s _ _ Q (T12.setTop (mkF m 71 #[.val (.int sel), .val (.int cl), .val (.int si), .val (.int pi), .val (.int oi), .val (.int (1 : Int32)), .val (.int (1 : Int32)), .val (.ref a_POS), .val (.int (2 : Int32)), .unset] [(.int (1 : Int32)), (.int (2 : Int32))]))
      refine OFin.back (fun _ hr => XS.icmpYes X12.here hx rfl (pc0 := 71) (pc' := 80) rfl (hb hby at_71) rfl (feq (by decide : ¬ ((2 : Int32) = (1 : Int32)))).2 (by decide) (by decide) hr) ?_
      show OFin p e below s _ _ Q (T12.setTop (mkF m 80 #[.val (.int sel), .val (.int cl), .val (.int si), .val (.int pi), .val (.int oi), .val (.int (1 : Int32)), .val (.int (1 : Int32)), .val (.ref a_POS), .val (.int (2 : Int32)), .unset] []))
      refine OFin.back (fun _ hr => XS.iload X12.here hx rfl (hb hby at_80) rfl hr) ?_
      show OFin p e below s _ _ Q (T12.setTop (mkF m 82 #[.val (.int sel), .val (.int cl), .val (.int si), .val (.int pi), .val (.int oi), .val (.int (1 : Int32)), .val (.int (1 : Int32)), .val (.ref a_POS), .val (.int (2 : Int32)), .unset] [(.int oi)]))
      refine OFin.back (fun _ hr => XS.istore X12.here hx rfl (hb hby at_82) rfl (l' := #[.val (.int sel), .val (.int cl), .val (.int si), .val (.int pi), .val (.int oi), .val (.int (1 : Int32)), .val (.int (1 : Int32)), .val (.ref a_POS), .val (.int (2 : Int32)), .val (.int oi)]) rfl hr) ?_
      show OFin p e below s _ _ Q (T12.setTop (mkF m 84 #[.val (.int sel), .val (.int cl), .val (.int si), .val (.int pi), .val (.int oi), .val (.int (1 : Int32)), .val (.int (1 : Int32)), .val (.ref a_POS), .val (.int (2 : Int32)), .val (.int oi)] []))
      refine OFin.back (fun _ hr => XS.aload X12.here hx rfl (hb hby at_84) rfl rfl hr) ?_
      show OFin p e below s _ _ Q (T12.setTop (mkF m 86 #[.val (.int sel), .val (.int cl), .val (.int si), .val (.int pi), .val (.int oi), .val (.int (1 : Int32)), .val (.int (1 : Int32)), .val (.ref a_POS), .val (.int (2 : Int32)), .val (.int oi)] [(.ref a_POS)]))
      refine OFin.back (fun _ hr => XS.iload X12.here hx rfl (hb hby at_86) rfl hr) ?_
      show OFin p e below s _ _ Q (T12.setTop (mkF m 88 #[.val (.int sel), .val (.int cl), .val (.int si), .val (.int pi), .val (.int oi), .val (.int (1 : Int32)), .val (.int (1 : Int32)), .val (.ref a_POS), .val (.int (2 : Int32)), .val (.int oi)] [(.int (1 : Int32)), (.ref a_POS)]))
      refine OFin.back (fun _ hr => XS.iloadN X12.here hx rfl (hb hby at_88) rfl hr) ?_
      show OFin p e below s _ _ Q (T12.setTop (mkF m 89 #[.val (.int sel), .val (.int cl), .val (.int si), .val (.int pi), .val (.int oi), .val (.int (1 : Int32)), .val (.int (1 : Int32)), .val (.ref a_POS), .val (.int (2 : Int32)), .val (.int oi)] [(.int si), (.int (1 : Int32)), (.ref a_POS)]))
      refine OFin.back (fun _ hr => XS.iloadN X12.here hx rfl (hb hby at_89) rfl hr) ?_
      show OFin p e below s _ _ Q (T12.setTop (mkF m 90 #[.val (.int sel), .val (.int cl), .val (.int si), .val (.int pi), .val (.int oi), .val (.int (1 : Int32)), .val (.int (1 : Int32)), .val (.ref a_POS), .val (.int (2 : Int32)), .val (.int oi)] [(.int pi), (.int si), (.int (1 : Int32)), (.ref a_POS)]))
      refine OFin.back (fun _ hr => XS.iload X12.here hx rfl (hb hby at_90) rfl hr) ?_
      show OFin p e below s _ _ Q (T12.setTop (mkF m 92 #[.val (.int sel), .val (.int cl), .val (.int si), .val (.int pi), .val (.int oi), .val (.int (1 : Int32)), .val (.int (1 : Int32)), .val (.ref a_POS), .val (.int (2 : Int32)), .val (.int oi)] [(.int oi), (.int pi), (.int si), (.int (1 : Int32)), (.ref a_POS)]))
      obtain ⟨cq13, kq13, q13a, q13b, q13c⟩ := isOf hZ e12 E_POS
      obtain ⟨_, _, ⟨T13, L13, k13, n13⟩, -, X13, ⟨Lc13, hQ13, l13, y13, z13⟩, st13⟩ := X12.virtualBack hx (y := (⟨"com/example/triplewright/triplewright/store/TripleOrder", "column", "(IIII)I"⟩ : MethodName)) (z := (⟨"com/example/triplewright/triplewright/store/TripleOrder", "column", "(IIII)I"⟩ : MethodName)) hown (mvT hZ (hw _ (List.mem_of_getElem? (i := 4) rfl))) (mvT hZ (hw _ (List.mem_of_getElem? (i := 5) rfl))) (notFace_of_selects (args := #[]) (mvT hZ (hw _ (List.mem_of_getElem? (i := 7) rfl)))) (mvT hZ (hw _ (List.mem_of_getElem? (i := 7) rfl))) (mvT hZ (hw _ (List.mem_of_getElem? (i := 6) rfl))) (by decide) (backOf (W := 0) (rm1 l Z a0 hw [] a_POS (1 : Int32) si pi oi (2 : Int32) (0 : Int32) h0 n0 Z0 F_POS_subjectColumn F_POS_predicateColumn) hZ (hw _ (List.mem_of_getElem? (i := 8) rfl)) (hw _ (List.mem_of_getElem? (i := 2) rfl)) (by decide) (by decide)) q13a q13c (g := (mkF m 92 #[.val (.int sel), .val (.int cl), .val (.int si), .val (.int pi), .val (.int oi), .val (.int (1 : Int32)), .val (.int (1 : Int32)), .val (.ref a_POS), .val (.int (2 : Int32)), .val (.int oi)] [(.int oi), (.int pi), (.int si), (.int (1 : Int32)), (.ref a_POS)])) rfl (by rw [hml]; rfl) (Steps.refl _) (argsL := [(.int (1 : Int32)), (.int si), (.int pi), (.int oi)]) (rest := []) (lenOf pd0_0 rfl) rfl (by show 2 * 0 + _ ≤ _; exact Nat.le_of_eq rfl) (hb hby at_92) (fun _ _ => ⟨rfl, e12, (by decide : 0 + 0 ≤ _), (by decide : 0 + 0 ≤ _)⟩)
      dsimp only [Pt.U, Pt.locs, Pt.cells, Pt.slots] at X13 l13 y13 z13 st13 hQ13
      subst l13 y13 z13
      obtain ⟨rfl, N13q, e13⟩ := hQ13
      have N13 := Fr.app N0 N13q
      refine OFin.via st13 ?_
      rw [show (own_col (1 : Int32) (2 : Int32) (0 : Int32) si pi oi) = oi from by simp [own_col]]
      show OFin p e below s _ _ Q (T13.setTop (mkF m 95 #[.val (.int sel), .val (.int cl), .val (.int si), .val (.int pi), .val (.int oi), .val (.int (1 : Int32)), .val (.int (1 : Int32)), .val (.ref a_POS), .val (.int (2 : Int32)), .val (.int oi)] [(.int oi)]))
      refine OFin.back (fun _ hr => XS.iload X13.here hx rfl (hb hby at_95) rfl hr) ?_
      show OFin p e below s _ _ Q (T13.setTop (mkF m 97 #[.val (.int sel), .val (.int cl), .val (.int si), .val (.int pi), .val (.int oi), .val (.int (1 : Int32)), .val (.int (1 : Int32)), .val (.ref a_POS), .val (.int (2 : Int32)), .val (.int oi)] [(.int oi), (.int oi)]))
      refine OFin.back (fun _ hr => XS.icmpNo X13.here hx rfl (hb hby at_97) rfl (teq rfl).2 hr) ?_
      show OFin p e below s _ _ Q (T13.setTop (mkF m 100 #[.val (.int sel), .val (.int cl), .val (.int si), .val (.int pi), .val (.int oi), .val (.int (1 : Int32)), .val (.int (1 : Int32)), .val (.ref a_POS), .val (.int (2 : Int32)), .val (.int oi)] []))
      refine OFin.back (fun _ hr => XS.iconst X13.here hx rfl (hb hby at_100) hr) ?_
      show OFin p e below s _ _ Q (T13.setTop (mkF m 101 #[.val (.int sel), .val (.int cl), .val (.int si), .val (.int pi), .val (.int oi), .val (.int (1 : Int32)), .val (.int (1 : Int32)), .val (.ref a_POS), .val (.int (2 : Int32)), .val (.int oi)] [(.int (1 : Int32))]))
      refine OFin.back (fun _ hr => XS.goto X13.here hx rfl (pc0 := 101) (pc' := 105) rfl (hb hby at_101) (by decide) (by decide) hr) ?_
      show OFin p e below s _ _ Q (T13.setTop (mkF m 105 #[.val (.int sel), .val (.int cl), .val (.int si), .val (.int pi), .val (.int oi), .val (.int (1 : Int32)), .val (.int (1 : Int32)), .val (.ref a_POS), .val (.int (2 : Int32)), .val (.int oi)] [(.int (1 : Int32))]))
      exact OFin.outN (t := .boolean) X13 hx Bd.returns (by simp) Bd.notSynchronized (hb hby at_105) (by decide) (by decide) e13 (by rw [hQ]; exact ⟨rfl, N13⟩)
    · rw [hl9_2]
      refine OFin.back (fun _ hr => XS.iload X0.here hx rfl (hb hby at_16) rfl hr) ?_
      show OFin p e below s _ _ Q (s₁.setTop (mkF m 18 #[.val (.int sel), .val (.int cl), .val (.int si), .val (.int pi), .val (.int oi), .val (.int (1 : Int32)), .val (.int (2 : Int32)), .unset, .unset, .unset] [(.int (1 : Int32))]))
      refine OFin.back (fun _ hr => XS.ifYes X0.here hx rfl (pc0 := 18) (pc' := 29) rfl (hb hby at_18) rfl ((if0 _ _).trans (feq (by decide : ¬ ((1 : Int32) = (0 : Int32)))).2) (by decide) (by decide) hr) ?_
      show OFin p e below s _ _ Q (s₁.setTop (mkF m 29 #[.val (.int sel), .val (.int cl), .val (.int si), .val (.int pi), .val (.int oi), .val (.int (1 : Int32)), .val (.int (2 : Int32)), .unset, .unset, .unset] []))
      refine OFin.back (fun _ hr => XS.iload X0.here hx rfl (hb hby at_29) rfl hr) ?_
      show OFin p e below s _ _ Q (s₁.setTop (mkF m 31 #[.val (.int sel), .val (.int cl), .val (.int si), .val (.int pi), .val (.int oi), .val (.int (1 : Int32)), .val (.int (2 : Int32)), .unset, .unset, .unset] [(.int (1 : Int32))]))
      refine OFin.back (fun _ hr => XS.iconst X0.here hx rfl (hb hby at_31) hr) ?_
      show OFin p e below s _ _ Q (s₁.setTop (mkF m 32 #[.val (.int sel), .val (.int cl), .val (.int si), .val (.int pi), .val (.int oi), .val (.int (1 : Int32)), .val (.int (2 : Int32)), .unset, .unset, .unset] [(.int (1 : Int32)), (.int (1 : Int32))]))
      refine OFin.back (fun _ hr => XS.icmpNo X0.here hx rfl (hb hby at_32) rfl (teq (by decide : (1 : Int32) = (1 : Int32))).2 hr) ?_
      show OFin p e below s _ _ Q (s₁.setTop (mkF m 35 #[.val (.int sel), .val (.int cl), .val (.int si), .val (.int pi), .val (.int oi), .val (.int (1 : Int32)), .val (.int (2 : Int32)), .unset, .unset, .unset] []))
      obtain ⟨T14, X14, e14, st14⟩ := getS2 X0 hx hZ hown (host := "") (Or.inl (hw _ (List.mem_of_getElem? (i := 15) rfl))) Via.refl e0 S_POS (g := (mkF m 35 #[.val (.int sel), .val (.int cl), .val (.int si), .val (.int pi), .val (.int oi), .val (.int (1 : Int32)), .val (.int (2 : Int32)), .unset, .unset, .unset] [])) rfl (hb hby at_35)
      refine OFin.back st14 ?_
      show OFin p e below s _ _ Q (T14.setTop (mkF m 38 #[.val (.int sel), .val (.int cl), .val (.int si), .val (.int pi), .val (.int oi), .val (.int (1 : Int32)), .val (.int (2 : Int32)), .unset, .unset, .unset] [(.ref a_POS)]))
      refine OFin.back (fun _ hr => XS.astore X14.here hx rfl (hb hby at_38) rfl rfl (l' := #[.val (.int sel), .val (.int cl), .val (.int si), .val (.int pi), .val (.int oi), .val (.int (1 : Int32)), .val (.int (2 : Int32)), .val (.ref a_POS), .unset, .unset]) rfl hr) ?_
      show OFin p e below s _ _ Q (T14.setTop (mkF m 40 #[.val (.int sel), .val (.int cl), .val (.int si), .val (.int pi), .val (.int oi), .val (.int (1 : Int32)), .val (.int (2 : Int32)), .val (.ref a_POS), .unset, .unset] []))
      refine OFin.back (fun _ hr => XS.goto X14.here hx rfl (pc0 := 40) (pc' := 48) rfl (hb hby at_40) (by decide) (by decide) hr) ?_
      show OFin p e below s _ _ Q (T14.setTop (mkF m 48 #[.val (.int sel), .val (.int cl), .val (.int si), .val (.int pi), .val (.int oi), .val (.int (1 : Int32)), .val (.int (2 : Int32)), .val (.ref a_POS), .unset, .unset] []))
      refine OFin.back (fun _ hr => XS.iload X14.here hx rfl (hb hby at_48) rfl hr) ?_
      show OFin p e below s _ _ Q (T14.setTop (mkF m 50 #[.val (.int sel), .val (.int cl), .val (.int si), .val (.int pi), .val (.int oi), .val (.int (1 : Int32)), .val (.int (2 : Int32)), .val (.ref a_POS), .unset, .unset] [(.int (2 : Int32))]))
      refine OFin.back (fun _ hr => XS.iload X14.here hx rfl (hb hby at_50) rfl hr) ?_
      show OFin p e below s _ _ Q (T14.setTop (mkF m 52 #[.val (.int sel), .val (.int cl), .val (.int si), .val (.int pi), .val (.int oi), .val (.int (1 : Int32)), .val (.int (2 : Int32)), .val (.ref a_POS), .unset, .unset] [(.int (1 : Int32)), (.int (2 : Int32))]))
      refine OFin.back (fun _ hr => XS.iadd X14.here hx rfl (hb hby at_52) rfl hr) ?_
      show OFin p e below s _ _ Q (T14.setTop (mkF m 53 #[.val (.int sel), .val (.int cl), .val (.int si), .val (.int pi), .val (.int oi), .val (.int (1 : Int32)), .val (.int (2 : Int32)), .val (.ref a_POS), .unset, .unset] [(.int (3 : Int32))]))
      refine OFin.back (fun _ hr => XS.iconst X14.here hx rfl (hb hby at_53) hr) ?_
      show OFin p e below s _ _ Q (T14.setTop (mkF m 54 #[.val (.int sel), .val (.int cl), .val (.int si), .val (.int pi), .val (.int oi), .val (.int (1 : Int32)), .val (.int (2 : Int32)), .val (.ref a_POS), .unset, .unset] [(.int (3 : Int32)), (.int (3 : Int32))]))
      refine OFin.back (fun _ hr => iremM (g := (mkF m 54 #[.val (.int sel), .val (.int cl), .val (.int si), .val (.int pi), .val (.int oi), .val (.int (1 : Int32)), .val (.int (2 : Int32)), .val (.ref a_POS), .unset, .unset] [(.int (3 : Int32)), (.int (3 : Int32))])) X14 hx rfl (hb hby at_54) rfl (by decide) hr) ?_
      show OFin p e below s _ _ Q (T14.setTop (mkF m 55 #[.val (.int sel), .val (.int cl), .val (.int si), .val (.int pi), .val (.int oi), .val (.int (1 : Int32)), .val (.int (2 : Int32)), .val (.ref a_POS), .unset, .unset] [(.int (0 : Int32))]))
      refine OFin.back (fun _ hr => XS.istore X14.here hx rfl (hb hby at_55) rfl (l' := #[.val (.int sel), .val (.int cl), .val (.int si), .val (.int pi), .val (.int oi), .val (.int (1 : Int32)), .val (.int (2 : Int32)), .val (.ref a_POS), .val (.int (0 : Int32)), .unset]) rfl hr) ?_
      show OFin p e below s _ _ Q (T14.setTop (mkF m 57 #[.val (.int sel), .val (.int cl), .val (.int si), .val (.int pi), .val (.int oi), .val (.int (1 : Int32)), .val (.int (2 : Int32)), .val (.ref a_POS), .val (.int (0 : Int32)), .unset] []))
      refine OFin.back (fun _ hr => XS.iload X14.here hx rfl (hb hby at_57) rfl hr) ?_
      show OFin p e below s _ _ Q (T14.setTop (mkF m 59 #[.val (.int sel), .val (.int cl), .val (.int si), .val (.int pi), .val (.int oi), .val (.int (1 : Int32)), .val (.int (2 : Int32)), .val (.ref a_POS), .val (.int (0 : Int32)), .unset] [(.int (0 : Int32))]))
      refine OFin.back (fun _ hr => XS.ifNo X14.here hx rfl (hb hby at_59) rfl ((if0 _ _).trans (teq (by decide : (0 : Int32) = (0 : Int32))).2) hr) ?_
      show OFin p e below s _ _ Q (T14.setTop (mkF m 62 #[.val (.int sel), .val (.int cl), .val (.int si), .val (.int pi), .val (.int oi), .val (.int (1 : Int32)), .val (.int (2 : Int32)), .val (.ref a_POS), .val (.int (0 : Int32)), .unset] []))
      refine OFin.back (fun _ hr => XS.iloadN X14.here hx rfl (hb hby at_62) rfl hr) ?_
      show OFin p e below s _ _ Q (T14.setTop (mkF m 63 #[.val (.int sel), .val (.int cl), .val (.int si), .val (.int pi), .val (.int oi), .val (.int (1 : Int32)), .val (.int (2 : Int32)), .val (.ref a_POS), .val (.int (0 : Int32)), .unset] [(.int si)]))
      refine OFin.back (fun _ hr => XS.istore X14.here hx rfl (hb hby at_63) rfl (l' := #[.val (.int sel), .val (.int cl), .val (.int si), .val (.int pi), .val (.int oi), .val (.int (1 : Int32)), .val (.int (2 : Int32)), .val (.ref a_POS), .val (.int (0 : Int32)), .val (.int si)]) rfl hr) ?_
      show OFin p e below s _ _ Q (T14.setTop (mkF m 65 #[.val (.int sel), .val (.int cl), .val (.int si), .val (.int pi), .val (.int oi), .val (.int (1 : Int32)), .val (.int (2 : Int32)), .val (.ref a_POS), .val (.int (0 : Int32)), .val (.int si)] []))
      refine OFin.back (fun _ hr => XS.goto X14.here hx rfl (pc0 := 65) (pc' := 84) rfl (hb hby at_65) (by decide) (by decide) hr) ?_
      show OFin p e below s _ _ Q (T14.setTop (mkF m 84 #[.val (.int sel), .val (.int cl), .val (.int si), .val (.int pi), .val (.int oi), .val (.int (1 : Int32)), .val (.int (2 : Int32)), .val (.ref a_POS), .val (.int (0 : Int32)), .val (.int si)] []))
      refine OFin.back (fun _ hr => XS.aload X14.here hx rfl (hb hby at_84) rfl rfl hr) ?_
      show OFin p e below s _ _ Q (T14.setTop (mkF m 86 #[.val (.int sel), .val (.int cl), .val (.int si), .val (.int pi), .val (.int oi), .val (.int (1 : Int32)), .val (.int (2 : Int32)), .val (.ref a_POS), .val (.int (0 : Int32)), .val (.int si)] [(.ref a_POS)]))
      refine OFin.back (fun _ hr => XS.iload X14.here hx rfl (hb hby at_86) rfl hr) ?_
      show OFin p e below s _ _ Q (T14.setTop (mkF m 88 #[.val (.int sel), .val (.int cl), .val (.int si), .val (.int pi), .val (.int oi), .val (.int (1 : Int32)), .val (.int (2 : Int32)), .val (.ref a_POS), .val (.int (0 : Int32)), .val (.int si)] [(.int (2 : Int32)), (.ref a_POS)]))
      refine OFin.back (fun _ hr => XS.iloadN X14.here hx rfl (hb hby at_88) rfl hr) ?_
      show OFin p e below s _ _ Q (T14.setTop (mkF m 89 #[.val (.int sel), .val (.int cl), .val (.int si), .val (.int pi), .val (.int oi), .val (.int (1 : Int32)), .val (.int (2 : Int32)), .val (.ref a_POS), .val (.int (0 : Int32)), .val (.int si)] [(.int si), (.int (2 : Int32)), (.ref a_POS)]))
      refine OFin.back (fun _ hr => XS.iloadN X14.here hx rfl (hb hby at_89) rfl hr) ?_
      show OFin p e below s _ _ Q (T14.setTop (mkF m 90 #[.val (.int sel), .val (.int cl), .val (.int si), .val (.int pi), .val (.int oi), .val (.int (1 : Int32)), .val (.int (2 : Int32)), .val (.ref a_POS), .val (.int (0 : Int32)), .val (.int si)] [(.int pi), (.int si), (.int (2 : Int32)), (.ref a_POS)]))
      refine OFin.back (fun _ hr => XS.iload X14.here hx rfl (hb hby at_90) rfl hr) ?_
      show OFin p e below s _ _ Q (T14.setTop (mkF m 92 #[.val (.int sel), .val (.int cl), .val (.int si), .val (.int pi), .val (.int oi), .val (.int (1 : Int32)), .val (.int (2 : Int32)), .val (.ref a_POS), .val (.int (0 : Int32)), .val (.int si)] [(.int oi), (.int pi), (.int si), (.int (2 : Int32)), (.ref a_POS)]))
      obtain ⟨cq15, kq15, q15a, q15b, q15c⟩ := isOf hZ e14 E_POS
      obtain ⟨_, _, ⟨T15, L15, k15, n15⟩, -, X15, ⟨Lc15, hQ15, l15, y15, z15⟩, st15⟩ := X14.virtualBack hx (y := (⟨"com/example/triplewright/triplewright/store/TripleOrder", "column", "(IIII)I"⟩ : MethodName)) (z := (⟨"com/example/triplewright/triplewright/store/TripleOrder", "column", "(IIII)I"⟩ : MethodName)) hown (mvT hZ (hw _ (List.mem_of_getElem? (i := 4) rfl))) (mvT hZ (hw _ (List.mem_of_getElem? (i := 5) rfl))) (notFace_of_selects (args := #[]) (mvT hZ (hw _ (List.mem_of_getElem? (i := 7) rfl)))) (mvT hZ (hw _ (List.mem_of_getElem? (i := 7) rfl))) (mvT hZ (hw _ (List.mem_of_getElem? (i := 6) rfl))) (by decide) (backOf (W := 0) (rm1 l Z a0 hw [] a_POS (2 : Int32) si pi oi (2 : Int32) (0 : Int32) h0 n0 Z0 F_POS_subjectColumn F_POS_predicateColumn) hZ (hw _ (List.mem_of_getElem? (i := 8) rfl)) (hw _ (List.mem_of_getElem? (i := 2) rfl)) (by decide) (by decide)) q15a q15c (g := (mkF m 92 #[.val (.int sel), .val (.int cl), .val (.int si), .val (.int pi), .val (.int oi), .val (.int (1 : Int32)), .val (.int (2 : Int32)), .val (.ref a_POS), .val (.int (0 : Int32)), .val (.int si)] [(.int oi), (.int pi), (.int si), (.int (2 : Int32)), (.ref a_POS)])) rfl (by rw [hml]; rfl) (Steps.refl _) (argsL := [(.int (2 : Int32)), (.int si), (.int pi), (.int oi)]) (rest := []) (lenOf pd0_0 rfl) rfl (by show 2 * 0 + _ ≤ _; exact Nat.le_of_eq rfl) (hb hby at_92) (fun _ _ => ⟨rfl, e14, (by decide : 0 + 0 ≤ _), (by decide : 0 + 0 ≤ _)⟩)
      dsimp only [Pt.U, Pt.locs, Pt.cells, Pt.slots] at X15 l15 y15 z15 st15 hQ15
      subst l15 y15 z15
      obtain ⟨rfl, N15q, e15⟩ := hQ15
      have N15 := Fr.app N0 N15q
      refine OFin.via st15 ?_
      rw [show (own_col (2 : Int32) (2 : Int32) (0 : Int32) si pi oi) = si from by simp [own_col]]
      show OFin p e below s _ _ Q (T15.setTop (mkF m 95 #[.val (.int sel), .val (.int cl), .val (.int si), .val (.int pi), .val (.int oi), .val (.int (1 : Int32)), .val (.int (2 : Int32)), .val (.ref a_POS), .val (.int (0 : Int32)), .val (.int si)] [(.int si)]))
      refine OFin.back (fun _ hr => XS.iload X15.here hx rfl (hb hby at_95) rfl hr) ?_
      show OFin p e below s _ _ Q (T15.setTop (mkF m 97 #[.val (.int sel), .val (.int cl), .val (.int si), .val (.int pi), .val (.int oi), .val (.int (1 : Int32)), .val (.int (2 : Int32)), .val (.ref a_POS), .val (.int (0 : Int32)), .val (.int si)] [(.int si), (.int si)]))
      refine OFin.back (fun _ hr => XS.icmpNo X15.here hx rfl (hb hby at_97) rfl (teq rfl).2 hr) ?_
      show OFin p e below s _ _ Q (T15.setTop (mkF m 100 #[.val (.int sel), .val (.int cl), .val (.int si), .val (.int pi), .val (.int oi), .val (.int (1 : Int32)), .val (.int (2 : Int32)), .val (.ref a_POS), .val (.int (0 : Int32)), .val (.int si)] []))
      refine OFin.back (fun _ hr => XS.iconst X15.here hx rfl (hb hby at_100) hr) ?_
      show OFin p e below s _ _ Q (T15.setTop (mkF m 101 #[.val (.int sel), .val (.int cl), .val (.int si), .val (.int pi), .val (.int oi), .val (.int (1 : Int32)), .val (.int (2 : Int32)), .val (.ref a_POS), .val (.int (0 : Int32)), .val (.int si)] [(.int (1 : Int32))]))
      refine OFin.back (fun _ hr => XS.goto X15.here hx rfl (pc0 := 101) (pc' := 105) rfl (hb hby at_101) (by decide) (by decide) hr) ?_
      show OFin p e below s _ _ Q (T15.setTop (mkF m 105 #[.val (.int sel), .val (.int cl), .val (.int si), .val (.int pi), .val (.int oi), .val (.int (1 : Int32)), .val (.int (2 : Int32)), .val (.ref a_POS), .val (.int (0 : Int32)), .val (.int si)] [(.int (1 : Int32))]))
      exact OFin.outN (t := .boolean) X15 hx Bd.returns (by simp) Bd.notSynchronized (hb hby at_105) (by decide) (by decide) e15 (by rw [hQ]; exact ⟨rfl, N15⟩)
  · rw [hk1_2]
    refine OFin.back (fun _ hr => XS.iloadN X0.here hx rfl (hb hby at_8) rfl hr) ?_
    show OFin p e below s _ _ Q (s₁.setTop (mkF m 9 #[.val (.int sel), .val (.int cl), .val (.int si), .val (.int pi), .val (.int oi), .val (.int (2 : Int32)), .unset, .unset, .unset, .unset] [(.int cl)]))
    refine OFin.back (X0.ldcInt hx hown (mvT hZ (hw _ (List.mem_of_getElem? (i := 0) rfl))) (g := (mkF m 9 #[.val (.int sel), .val (.int cl), .val (.int si), .val (.int pi), .val (.int oi), .val (.int (2 : Int32)), .unset, .unset, .unset, .unset] [(.int cl)])) rfl (hb hby at_9)) ?_
    show OFin p e below s _ _ Q (s₁.setTop (mkF m 11 #[.val (.int sel), .val (.int cl), .val (.int si), .val (.int pi), .val (.int oi), .val (.int (2 : Int32)), .unset, .unset, .unset, .unset] [(.int (2147483647 : Int32)), (.int cl)]))
    refine OFin.back (fun _ hr => XS.iand X0.here hx rfl (hb hby at_11) rfl hr) ?_
    show OFin p e below s _ _ Q (s₁.setTop (mkF m 12 #[.val (.int sel), .val (.int cl), .val (.int si), .val (.int pi), .val (.int oi), .val (.int (2 : Int32)), .unset, .unset, .unset, .unset] [(.int (cl &&& (2147483647 : Int32)))]))
    refine OFin.back (fun _ hr => XS.iconst X0.here hx rfl (hb hby at_12) hr) ?_
    show OFin p e below s _ _ Q (s₁.setTop (mkF m 13 #[.val (.int sel), .val (.int cl), .val (.int si), .val (.int pi), .val (.int oi), .val (.int (2 : Int32)), .unset, .unset, .unset, .unset] [(.int (3 : Int32)), (.int (cl &&& (2147483647 : Int32)))]))
    refine OFin.back (fun _ hr => iremM (g := (mkF m 13 #[.val (.int sel), .val (.int cl), .val (.int si), .val (.int pi), .val (.int oi), .val (.int (2 : Int32)), .unset, .unset, .unset, .unset] [(.int (3 : Int32)), (.int (cl &&& (2147483647 : Int32)))])) X0 hx rfl (hb hby at_13) rfl (by decide) hr) ?_
    show OFin p e below s _ _ Q (s₁.setTop (mkF m 14 #[.val (.int sel), .val (.int cl), .val (.int si), .val (.int pi), .val (.int oi), .val (.int (2 : Int32)), .unset, .unset, .unset, .unset] [(.int ((cl &&& (2147483647 : Int32)) % (3 : Int32)))]))
    refine OFin.back (fun _ hr => XS.istore X0.here hx rfl (hb hby at_14) rfl (l' := #[.val (.int sel), .val (.int cl), .val (.int si), .val (.int pi), .val (.int oi), .val (.int (2 : Int32)), .val (.int ((cl &&& (2147483647 : Int32)) % (3 : Int32))), .unset, .unset, .unset]) rfl hr) ?_
    show OFin p e below s _ _ Q (s₁.setTop (mkF m 16 #[.val (.int sel), .val (.int cl), .val (.int si), .val (.int pi), .val (.int oi), .val (.int (2 : Int32)), .val (.int ((cl &&& (2147483647 : Int32)) % (3 : Int32))), .unset, .unset, .unset] []))
    rcases (own_mod3 cl) with hl16_0 | hl16_1 | hl16_2
    · rw [hl16_0]
      refine OFin.back (fun _ hr => XS.iload X0.here hx rfl (hb hby at_16) rfl hr) ?_
      show OFin p e below s _ _ Q (s₁.setTop (mkF m 18 #[.val (.int sel), .val (.int cl), .val (.int si), .val (.int pi), .val (.int oi), .val (.int (2 : Int32)), .val (.int (0 : Int32)), .unset, .unset, .unset] [(.int (2 : Int32))]))
      refine OFin.back (fun _ hr => XS.ifYes X0.here hx rfl (pc0 := 18) (pc' := 29) rfl (hb hby at_18) rfl ((if0 _ _).trans (feq (by decide : ¬ ((2 : Int32) = (0 : Int32)))).2) (by decide) (by decide) hr) ?_
      show OFin p e below s _ _ Q (s₁.setTop (mkF m 29 #[.val (.int sel), .val (.int cl), .val (.int si), .val (.int pi), .val (.int oi), .val (.int (2 : Int32)), .val (.int (0 : Int32)), .unset, .unset, .unset] []))
      refine OFin.back (fun _ hr => XS.iload X0.here hx rfl (hb hby at_29) rfl hr) ?_
      show OFin p e below s _ _ Q (s₁.setTop (mkF m 31 #[.val (.int sel), .val (.int cl), .val (.int si), .val (.int pi), .val (.int oi), .val (.int (2 : Int32)), .val (.int (0 : Int32)), .unset, .unset, .unset] [(.int (2 : Int32))]))
      refine OFin.back (fun _ hr => XS.iconst X0.here hx rfl (hb hby at_31) hr) ?_
      show OFin p e below s _ _ Q (s₁.setTop (mkF m 32 #[.val (.int sel), .val (.int cl), .val (.int si), .val (.int pi), .val (.int oi), .val (.int (2 : Int32)), .val (.int (0 : Int32)), .unset, .unset, .unset] [(.int (1 : Int32)), (.int (2 : Int32))]))
      refine OFin.back (fun _ hr => XS.icmpYes X0.here hx rfl (pc0 := 32) (pc' := 43) rfl (hb hby at_32) rfl (feq (by decide : ¬ ((2 : Int32) = (1 : Int32)))).2 (by decide) (by decide) hr) ?_
      show OFin p e below s _ _ Q (s₁.setTop (mkF m 43 #[.val (.int sel), .val (.int cl), .val (.int si), .val (.int pi), .val (.int oi), .val (.int (2 : Int32)), .val (.int (0 : Int32)), .unset, .unset, .unset] []))
      obtain ⟨T17, X17, e17, st17⟩ := getS2 X0 hx hZ hown (host := "") (Or.inl (hw _ (List.mem_of_getElem? (i := 13) rfl))) Via.refl e0 S_OSP (g := (mkF m 43 #[.val (.int sel), .val (.int cl), .val (.int si), .val (.int pi), .val (.int oi), .val (.int (2 : Int32)), .val (.int (0 : Int32)), .unset, .unset, .unset] [])) rfl (hb hby at_43)
      refine OFin.back st17 ?_
      show OFin p e below s _ _ Q (T17.setTop (mkF m 46 #[.val (.int sel), .val (.int cl), .val (.int si), .val (.int pi), .val (.int oi), .val (.int (2 : Int32)), .val (.int (0 : Int32)), .unset, .unset, .unset] [(.ref a_OSP)]))
      refine OFin.back (fun _ hr => XS.astore X17.here hx rfl (hb hby at_46) rfl rfl (l' := #[.val (.int sel), .val (.int cl), .val (.int si), .val (.int pi), .val (.int oi), .val (.int (2 : Int32)), .val (.int (0 : Int32)), .val (.ref a_OSP), .unset, .unset]) rfl hr) ?_
      show OFin p e below s _ _ Q (T17.setTop (mkF m 48 #[.val (.int sel), .val (.int cl), .val (.int si), .val (.int pi), .val (.int oi), .val (.int (2 : Int32)), .val (.int (0 : Int32)), .val (.ref a_OSP), .unset, .unset] []))
      refine OFin.back (fun _ hr => XS.iload X17.here hx rfl (hb hby at_48) rfl hr) ?_
      show OFin p e below s _ _ Q (T17.setTop (mkF m 50 #[.val (.int sel), .val (.int cl), .val (.int si), .val (.int pi), .val (.int oi), .val (.int (2 : Int32)), .val (.int (0 : Int32)), .val (.ref a_OSP), .unset, .unset] [(.int (0 : Int32))]))
      refine OFin.back (fun _ hr => XS.iload X17.here hx rfl (hb hby at_50) rfl hr) ?_
      show OFin p e below s _ _ Q (T17.setTop (mkF m 52 #[.val (.int sel), .val (.int cl), .val (.int si), .val (.int pi), .val (.int oi), .val (.int (2 : Int32)), .val (.int (0 : Int32)), .val (.ref a_OSP), .unset, .unset] [(.int (2 : Int32)), (.int (0 : Int32))]))
      refine OFin.back (fun _ hr => XS.iadd X17.here hx rfl (hb hby at_52) rfl hr) ?_
      show OFin p e below s _ _ Q (T17.setTop (mkF m 53 #[.val (.int sel), .val (.int cl), .val (.int si), .val (.int pi), .val (.int oi), .val (.int (2 : Int32)), .val (.int (0 : Int32)), .val (.ref a_OSP), .unset, .unset] [(.int (2 : Int32))]))
      refine OFin.back (fun _ hr => XS.iconst X17.here hx rfl (hb hby at_53) hr) ?_
      show OFin p e below s _ _ Q (T17.setTop (mkF m 54 #[.val (.int sel), .val (.int cl), .val (.int si), .val (.int pi), .val (.int oi), .val (.int (2 : Int32)), .val (.int (0 : Int32)), .val (.ref a_OSP), .unset, .unset] [(.int (3 : Int32)), (.int (2 : Int32))]))
      refine OFin.back (fun _ hr => iremM (g := (mkF m 54 #[.val (.int sel), .val (.int cl), .val (.int si), .val (.int pi), .val (.int oi), .val (.int (2 : Int32)), .val (.int (0 : Int32)), .val (.ref a_OSP), .unset, .unset] [(.int (3 : Int32)), (.int (2 : Int32))])) X17 hx rfl (hb hby at_54) rfl (by decide) hr) ?_
      show OFin p e below s _ _ Q (T17.setTop (mkF m 55 #[.val (.int sel), .val (.int cl), .val (.int si), .val (.int pi), .val (.int oi), .val (.int (2 : Int32)), .val (.int (0 : Int32)), .val (.ref a_OSP), .unset, .unset] [(.int (2 : Int32))]))
      refine OFin.back (fun _ hr => XS.istore X17.here hx rfl (hb hby at_55) rfl (l' := #[.val (.int sel), .val (.int cl), .val (.int si), .val (.int pi), .val (.int oi), .val (.int (2 : Int32)), .val (.int (0 : Int32)), .val (.ref a_OSP), .val (.int (2 : Int32)), .unset]) rfl hr) ?_
      show OFin p e below s _ _ Q (T17.setTop (mkF m 57 #[.val (.int sel), .val (.int cl), .val (.int si), .val (.int pi), .val (.int oi), .val (.int (2 : Int32)), .val (.int (0 : Int32)), .val (.ref a_OSP), .val (.int (2 : Int32)), .unset] []))
      refine OFin.back (fun _ hr => XS.iload X17.here hx rfl (hb hby at_57) rfl hr) ?_
      show OFin p e below s _ _ Q (T17.setTop (mkF m 59 #[.val (.int sel), .val (.int cl), .val (.int si), .val (.int pi), .val (.int oi), .val (.int (2 : Int32)), .val (.int (0 : Int32)), .val (.ref a_OSP), .val (.int (2 : Int32)), .unset] [(.int (2 : Int32))]))
      refine OFin.back (fun _ hr => XS.ifYes X17.here hx rfl (pc0 := 59) (pc' := 68) rfl (hb hby at_59) rfl ((if0 _ _).trans (feq (by decide : ¬ ((2 : Int32) = (0 : Int32)))).2) (by decide) (by decide) hr) ?_
      show OFin p e below s _ _ Q (T17.setTop (mkF m 68 #[.val (.int sel), .val (.int cl), .val (.int si), .val (.int pi), .val (.int oi), .val (.int (2 : Int32)), .val (.int (0 : Int32)), .val (.ref a_OSP), .val (.int (2 : Int32)), .unset] []))
      refine OFin.back (fun _ hr => XS.iload X17.here hx rfl (hb hby at_68) rfl hr) ?_
      show OFin p e below s _ _ Q (T17.setTop (mkF m 70 #[.val (.int sel), .val (.int cl), .val (.int si), .val (.int pi), .val (.int oi), .val (.int (2 : Int32)), .val (.int (0 : Int32)), .val (.ref a_OSP), .val (.int (2 : Int32)), .unset] [(.int (2 : Int32))]))
      refine OFin.back (fun _ hr => XS.iconst X17.here hx rfl (hb hby at_70) hr) ?_
      show OFin p e below s _ _ Q (T17.setTop (mkF m 71 #[.val (.int sel), .val (.int cl), .val (.int si), .val (.int pi), .val (.int oi), .val (.int (2 : Int32)), .val (.int (0 : Int32)), .val (.ref a_OSP), .val (.int (2 : Int32)), .unset] [(.int (1 : Int32)), (.int (2 : Int32))]))
      refine OFin.back (fun _ hr => XS.icmpYes X17.here hx rfl (pc0 := 71) (pc' := 80) rfl (hb hby at_71) rfl (feq (by decide : ¬ ((2 : Int32) = (1 : Int32)))).2 (by decide) (by decide) hr) ?_
      show OFin p e below s _ _ Q (T17.setTop (mkF m 80 #[.val (.int sel), .val (.int cl), .val (.int si), .val (.int pi), .val (.int oi), .val (.int (2 : Int32)), .val (.int (0 : Int32)), .val (.ref a_OSP), .val (.int (2 : Int32)), .unset] []))
      refine OFin.back (fun _ hr => XS.iload X17.here hx rfl (hb hby at_80) rfl hr) ?_
      show OFin p e below s _ _ Q (T17.setTop (mkF m 82 #[.val (.int sel), .val (.int cl), .val (.int si), .val (.int pi), .val (.int oi), .val (.int (2 : Int32)), .val (.int (0 : Int32)), .val (.ref a_OSP), .val (.int (2 : Int32)), .unset] [(.int oi)]))
      refine OFin.back (fun _ hr => XS.istore X17.here hx rfl (hb hby at_82) rfl (l' := #[.val (.int sel), .val (.int cl), .val (.int si), .val (.int pi), .val (.int oi), .val (.int (2 : Int32)), .val (.int (0 : Int32)), .val (.ref a_OSP), .val (.int (2 : Int32)), .val (.int oi)]) rfl hr) ?_
      show OFin p e below s _ _ Q (T17.setTop (mkF m 84 #[.val (.int sel), .val (.int cl), .val (.int si), .val (.int pi), .val (.int oi), .val (.int (2 : Int32)), .val (.int (0 : Int32)), .val (.ref a_OSP), .val (.int (2 : Int32)), .val (.int oi)] []))
      refine OFin.back (fun _ hr => XS.aload X17.here hx rfl (hb hby at_84) rfl rfl hr) ?_
      show OFin p e below s _ _ Q (T17.setTop (mkF m 86 #[.val (.int sel), .val (.int cl), .val (.int si), .val (.int pi), .val (.int oi), .val (.int (2 : Int32)), .val (.int (0 : Int32)), .val (.ref a_OSP), .val (.int (2 : Int32)), .val (.int oi)] [(.ref a_OSP)]))
      refine OFin.back (fun _ hr => XS.iload X17.here hx rfl (hb hby at_86) rfl hr) ?_
      show OFin p e below s _ _ Q (T17.setTop (mkF m 88 #[.val (.int sel), .val (.int cl), .val (.int si), .val (.int pi), .val (.int oi), .val (.int (2 : Int32)), .val (.int (0 : Int32)), .val (.ref a_OSP), .val (.int (2 : Int32)), .val (.int oi)] [(.int (0 : Int32)), (.ref a_OSP)]))
      refine OFin.back (fun _ hr => XS.iloadN X17.here hx rfl (hb hby at_88) rfl hr) ?_
      show OFin p e below s _ _ Q (T17.setTop (mkF m 89 #[.val (.int sel), .val (.int cl), .val (.int si), .val (.int pi), .val (.int oi), .val (.int (2 : Int32)), .val (.int (0 : Int32)), .val (.ref a_OSP), .val (.int (2 : Int32)), .val (.int oi)] [(.int si), (.int (0 : Int32)), (.ref a_OSP)]))
      refine OFin.back (fun _ hr => XS.iloadN X17.here hx rfl (hb hby at_89) rfl hr) ?_
      show OFin p e below s _ _ Q (T17.setTop (mkF m 90 #[.val (.int sel), .val (.int cl), .val (.int si), .val (.int pi), .val (.int oi), .val (.int (2 : Int32)), .val (.int (0 : Int32)), .val (.ref a_OSP), .val (.int (2 : Int32)), .val (.int oi)] [(.int pi), (.int si), (.int (0 : Int32)), (.ref a_OSP)]))
      refine OFin.back (fun _ hr => XS.iload X17.here hx rfl (hb hby at_90) rfl hr) ?_
      show OFin p e below s _ _ Q (T17.setTop (mkF m 92 #[.val (.int sel), .val (.int cl), .val (.int si), .val (.int pi), .val (.int oi), .val (.int (2 : Int32)), .val (.int (0 : Int32)), .val (.ref a_OSP), .val (.int (2 : Int32)), .val (.int oi)] [(.int oi), (.int pi), (.int si), (.int (0 : Int32)), (.ref a_OSP)]))
      obtain ⟨cq18, kq18, q18a, q18b, q18c⟩ := isOf hZ e17 E_OSP
      obtain ⟨_, _, ⟨T18, L18, k18, n18⟩, -, X18, ⟨Lc18, hQ18, l18, y18, z18⟩, st18⟩ := X17.virtualBack hx (y := (⟨"com/example/triplewright/triplewright/store/TripleOrder", "column", "(IIII)I"⟩ : MethodName)) (z := (⟨"com/example/triplewright/triplewright/store/TripleOrder", "column", "(IIII)I"⟩ : MethodName)) hown (mvT hZ (hw _ (List.mem_of_getElem? (i := 4) rfl))) (mvT hZ (hw _ (List.mem_of_getElem? (i := 5) rfl))) (notFace_of_selects (args := #[]) (mvT hZ (hw _ (List.mem_of_getElem? (i := 7) rfl)))) (mvT hZ (hw _ (List.mem_of_getElem? (i := 7) rfl))) (mvT hZ (hw _ (List.mem_of_getElem? (i := 6) rfl))) (by decide) (backOf (W := 0) (rm1 l Z a0 hw [] a_OSP (0 : Int32) si pi oi (1 : Int32) (2 : Int32) h0 n0 Z0 F_OSP_subjectColumn F_OSP_predicateColumn) hZ (hw _ (List.mem_of_getElem? (i := 8) rfl)) (hw _ (List.mem_of_getElem? (i := 2) rfl)) (by decide) (by decide)) q18a q18c (g := (mkF m 92 #[.val (.int sel), .val (.int cl), .val (.int si), .val (.int pi), .val (.int oi), .val (.int (2 : Int32)), .val (.int (0 : Int32)), .val (.ref a_OSP), .val (.int (2 : Int32)), .val (.int oi)] [(.int oi), (.int pi), (.int si), (.int (0 : Int32)), (.ref a_OSP)])) rfl (by rw [hml]; rfl) (Steps.refl _) (argsL := [(.int (0 : Int32)), (.int si), (.int pi), (.int oi)]) (rest := []) (lenOf pd0_0 rfl) rfl (by show 2 * 0 + _ ≤ _; exact Nat.le_of_eq rfl) (hb hby at_92) (fun _ _ => ⟨rfl, e17, (by decide : 0 + 0 ≤ _), (by decide : 0 + 0 ≤ _)⟩)
      dsimp only [Pt.U, Pt.locs, Pt.cells, Pt.slots] at X18 l18 y18 z18 st18 hQ18
      subst l18 y18 z18
      obtain ⟨rfl, N18q, e18⟩ := hQ18
      have N18 := Fr.app N0 N18q
      refine OFin.via st18 ?_
      rw [show (own_col (0 : Int32) (1 : Int32) (2 : Int32) si pi oi) = oi from by simp [own_col]]
      show OFin p e below s _ _ Q (T18.setTop (mkF m 95 #[.val (.int sel), .val (.int cl), .val (.int si), .val (.int pi), .val (.int oi), .val (.int (2 : Int32)), .val (.int (0 : Int32)), .val (.ref a_OSP), .val (.int (2 : Int32)), .val (.int oi)] [(.int oi)]))
      refine OFin.back (fun _ hr => XS.iload X18.here hx rfl (hb hby at_95) rfl hr) ?_
      show OFin p e below s _ _ Q (T18.setTop (mkF m 97 #[.val (.int sel), .val (.int cl), .val (.int si), .val (.int pi), .val (.int oi), .val (.int (2 : Int32)), .val (.int (0 : Int32)), .val (.ref a_OSP), .val (.int (2 : Int32)), .val (.int oi)] [(.int oi), (.int oi)]))
      refine OFin.back (fun _ hr => XS.icmpNo X18.here hx rfl (hb hby at_97) rfl (teq rfl).2 hr) ?_
      show OFin p e below s _ _ Q (T18.setTop (mkF m 100 #[.val (.int sel), .val (.int cl), .val (.int si), .val (.int pi), .val (.int oi), .val (.int (2 : Int32)), .val (.int (0 : Int32)), .val (.ref a_OSP), .val (.int (2 : Int32)), .val (.int oi)] []))
      refine OFin.back (fun _ hr => XS.iconst X18.here hx rfl (hb hby at_100) hr) ?_
      show OFin p e below s _ _ Q (T18.setTop (mkF m 101 #[.val (.int sel), .val (.int cl), .val (.int si), .val (.int pi), .val (.int oi), .val (.int (2 : Int32)), .val (.int (0 : Int32)), .val (.ref a_OSP), .val (.int (2 : Int32)), .val (.int oi)] [(.int (1 : Int32))]))
      refine OFin.back (fun _ hr => XS.goto X18.here hx rfl (pc0 := 101) (pc' := 105) rfl (hb hby at_101) (by decide) (by decide) hr) ?_
      show OFin p e below s _ _ Q (T18.setTop (mkF m 105 #[.val (.int sel), .val (.int cl), .val (.int si), .val (.int pi), .val (.int oi), .val (.int (2 : Int32)), .val (.int (0 : Int32)), .val (.ref a_OSP), .val (.int (2 : Int32)), .val (.int oi)] [(.int (1 : Int32))]))
      exact OFin.outN (t := .boolean) X18 hx Bd.returns (by simp) Bd.notSynchronized (hb hby at_105) (by decide) (by decide) e18 (by rw [hQ]; exact ⟨rfl, N18⟩)
    · rw [hl16_1]
      refine OFin.back (fun _ hr => XS.iload X0.here hx rfl (hb hby at_16) rfl hr) ?_
      show OFin p e below s _ _ Q (s₁.setTop (mkF m 18 #[.val (.int sel), .val (.int cl), .val (.int si), .val (.int pi), .val (.int oi), .val (.int (2 : Int32)), .val (.int (1 : Int32)), .unset, .unset, .unset] [(.int (2 : Int32))]))
      refine OFin.back (fun _ hr => XS.ifYes X0.here hx rfl (pc0 := 18) (pc' := 29) rfl (hb hby at_18) rfl ((if0 _ _).trans (feq (by decide : ¬ ((2 : Int32) = (0 : Int32)))).2) (by decide) (by decide) hr) ?_
      show OFin p e below s _ _ Q (s₁.setTop (mkF m 29 #[.val (.int sel), .val (.int cl), .val (.int si), .val (.int pi), .val (.int oi), .val (.int (2 : Int32)), .val (.int (1 : Int32)), .unset, .unset, .unset] []))
      refine OFin.back (fun _ hr => XS.iload X0.here hx rfl (hb hby at_29) rfl hr) ?_
      show OFin p e below s _ _ Q (s₁.setTop (mkF m 31 #[.val (.int sel), .val (.int cl), .val (.int si), .val (.int pi), .val (.int oi), .val (.int (2 : Int32)), .val (.int (1 : Int32)), .unset, .unset, .unset] [(.int (2 : Int32))]))
      refine OFin.back (fun _ hr => XS.iconst X0.here hx rfl (hb hby at_31) hr) ?_
      show OFin p e below s _ _ Q (s₁.setTop (mkF m 32 #[.val (.int sel), .val (.int cl), .val (.int si), .val (.int pi), .val (.int oi), .val (.int (2 : Int32)), .val (.int (1 : Int32)), .unset, .unset, .unset] [(.int (1 : Int32)), (.int (2 : Int32))]))
      refine OFin.back (fun _ hr => XS.icmpYes X0.here hx rfl (pc0 := 32) (pc' := 43) rfl (hb hby at_32) rfl (feq (by decide : ¬ ((2 : Int32) = (1 : Int32)))).2 (by decide) (by decide) hr) ?_
      show OFin p e below s _ _ Q (s₁.setTop (mkF m 43 #[.val (.int sel), .val (.int cl), .val (.int si), .val (.int pi), .val (.int oi), .val (.int (2 : Int32)), .val (.int (1 : Int32)), .unset, .unset, .unset] []))
      obtain ⟨T19, X19, e19, st19⟩ := getS2 X0 hx hZ hown (host := "") (Or.inl (hw _ (List.mem_of_getElem? (i := 13) rfl))) Via.refl e0 S_OSP (g := (mkF m 43 #[.val (.int sel), .val (.int cl), .val (.int si), .val (.int pi), .val (.int oi), .val (.int (2 : Int32)), .val (.int (1 : Int32)), .unset, .unset, .unset] [])) rfl (hb hby at_43)
      refine OFin.back st19 ?_
      show OFin p e below s _ _ Q (T19.setTop (mkF m 46 #[.val (.int sel), .val (.int cl), .val (.int si), .val (.int pi), .val (.int oi), .val (.int (2 : Int32)), .val (.int (1 : Int32)), .unset, .unset, .unset] [(.ref a_OSP)]))
      refine OFin.back (fun _ hr => XS.astore X19.here hx rfl (hb hby at_46) rfl rfl (l' := #[.val (.int sel), .val (.int cl), .val (.int si), .val (.int pi), .val (.int oi), .val (.int (2 : Int32)), .val (.int (1 : Int32)), .val (.ref a_OSP), .unset, .unset]) rfl hr) ?_
      show OFin p e below s _ _ Q (T19.setTop (mkF m 48 #[.val (.int sel), .val (.int cl), .val (.int si), .val (.int pi), .val (.int oi), .val (.int (2 : Int32)), .val (.int (1 : Int32)), .val (.ref a_OSP), .unset, .unset] []))
      refine OFin.back (fun _ hr => XS.iload X19.here hx rfl (hb hby at_48) rfl hr) ?_
      show OFin p e below s _ _ Q (T19.setTop (mkF m 50 #[.val (.int sel), .val (.int cl), .val (.int si), .val (.int pi), .val (.int oi), .val (.int (2 : Int32)), .val (.int (1 : Int32)), .val (.ref a_OSP), .unset, .unset] [(.int (1 : Int32))]))
      refine OFin.back (fun _ hr => XS.iload X19.here hx rfl (hb hby at_50) rfl hr) ?_
      show OFin p e below s _ _ Q (T19.setTop (mkF m 52 #[.val (.int sel), .val (.int cl), .val (.int si), .val (.int pi), .val (.int oi), .val (.int (2 : Int32)), .val (.int (1 : Int32)), .val (.ref a_OSP), .unset, .unset] [(.int (2 : Int32)), (.int (1 : Int32))]))
      refine OFin.back (fun _ hr => XS.iadd X19.here hx rfl (hb hby at_52) rfl hr) ?_
      show OFin p e below s _ _ Q (T19.setTop (mkF m 53 #[.val (.int sel), .val (.int cl), .val (.int si), .val (.int pi), .val (.int oi), .val (.int (2 : Int32)), .val (.int (1 : Int32)), .val (.ref a_OSP), .unset, .unset] [(.int (3 : Int32))]))
      refine OFin.back (fun _ hr => XS.iconst X19.here hx rfl (hb hby at_53) hr) ?_
      show OFin p e below s _ _ Q (T19.setTop (mkF m 54 #[.val (.int sel), .val (.int cl), .val (.int si), .val (.int pi), .val (.int oi), .val (.int (2 : Int32)), .val (.int (1 : Int32)), .val (.ref a_OSP), .unset, .unset] [(.int (3 : Int32)), (.int (3 : Int32))]))
      refine OFin.back (fun _ hr => iremM (g := (mkF m 54 #[.val (.int sel), .val (.int cl), .val (.int si), .val (.int pi), .val (.int oi), .val (.int (2 : Int32)), .val (.int (1 : Int32)), .val (.ref a_OSP), .unset, .unset] [(.int (3 : Int32)), (.int (3 : Int32))])) X19 hx rfl (hb hby at_54) rfl (by decide) hr) ?_
      show OFin p e below s _ _ Q (T19.setTop (mkF m 55 #[.val (.int sel), .val (.int cl), .val (.int si), .val (.int pi), .val (.int oi), .val (.int (2 : Int32)), .val (.int (1 : Int32)), .val (.ref a_OSP), .unset, .unset] [(.int (0 : Int32))]))
      refine OFin.back (fun _ hr => XS.istore X19.here hx rfl (hb hby at_55) rfl (l' := #[.val (.int sel), .val (.int cl), .val (.int si), .val (.int pi), .val (.int oi), .val (.int (2 : Int32)), .val (.int (1 : Int32)), .val (.ref a_OSP), .val (.int (0 : Int32)), .unset]) rfl hr) ?_
      show OFin p e below s _ _ Q (T19.setTop (mkF m 57 #[.val (.int sel), .val (.int cl), .val (.int si), .val (.int pi), .val (.int oi), .val (.int (2 : Int32)), .val (.int (1 : Int32)), .val (.ref a_OSP), .val (.int (0 : Int32)), .unset] []))
      refine OFin.back (fun _ hr => XS.iload X19.here hx rfl (hb hby at_57) rfl hr) ?_
      show OFin p e below s _ _ Q (T19.setTop (mkF m 59 #[.val (.int sel), .val (.int cl), .val (.int si), .val (.int pi), .val (.int oi), .val (.int (2 : Int32)), .val (.int (1 : Int32)), .val (.ref a_OSP), .val (.int (0 : Int32)), .unset] [(.int (0 : Int32))]))
      refine OFin.back (fun _ hr => XS.ifNo X19.here hx rfl (hb hby at_59) rfl ((if0 _ _).trans (teq (by decide : (0 : Int32) = (0 : Int32))).2) hr) ?_
      show OFin p e below s _ _ Q (T19.setTop (mkF m 62 #[.val (.int sel), .val (.int cl), .val (.int si), .val (.int pi), .val (.int oi), .val (.int (2 : Int32)), .val (.int (1 : Int32)), .val (.ref a_OSP), .val (.int (0 : Int32)), .unset] []))
      refine OFin.back (fun _ hr => XS.iloadN X19.here hx rfl (hb hby at_62) rfl hr) ?_
      show OFin p e below s _ _ Q (T19.setTop (mkF m 63 #[.val (.int sel), .val (.int cl), .val (.int si), .val (.int pi), .val (.int oi), .val (.int (2 : Int32)), .val (.int (1 : Int32)), .val (.ref a_OSP), .val (.int (0 : Int32)), .unset] [(.int si)]))
      refine OFin.back (fun _ hr => XS.istore X19.here hx rfl (hb hby at_63) rfl (l' := #[.val (.int sel), .val (.int cl), .val (.int si), .val (.int pi), .val (.int oi), .val (.int (2 : Int32)), .val (.int (1 : Int32)), .val (.ref a_OSP), .val (.int (0 : Int32)), .val (.int si)]) rfl hr) ?_
      show OFin p e below s _ _ Q (T19.setTop (mkF m 65 #[.val (.int sel), .val (.int cl), .val (.int si), .val (.int pi), .val (.int oi), .val (.int (2 : Int32)), .val (.int (1 : Int32)), .val (.ref a_OSP), .val (.int (0 : Int32)), .val (.int si)] []))
      refine OFin.back (fun _ hr => XS.goto X19.here hx rfl (pc0 := 65) (pc' := 84) rfl (hb hby at_65) (by decide) (by decide) hr) ?_
      show OFin p e below s _ _ Q (T19.setTop (mkF m 84 #[.val (.int sel), .val (.int cl), .val (.int si), .val (.int pi), .val (.int oi), .val (.int (2 : Int32)), .val (.int (1 : Int32)), .val (.ref a_OSP), .val (.int (0 : Int32)), .val (.int si)] []))
      refine OFin.back (fun _ hr => XS.aload X19.here hx rfl (hb hby at_84) rfl rfl hr) ?_
      show OFin p e below s _ _ Q (T19.setTop (mkF m 86 #[.val (.int sel), .val (.int cl), .val (.int si), .val (.int pi), .val (.int oi), .val (.int (2 : Int32)), .val (.int (1 : Int32)), .val (.ref a_OSP), .val (.int (0 : Int32)), .val (.int si)] [(.ref a_OSP)]))
      refine OFin.back (fun _ hr => XS.iload X19.here hx rfl (hb hby at_86) rfl hr) ?_
      show OFin p e below s _ _ Q (T19.setTop (mkF m 88 #[.val (.int sel), .val (.int cl), .val (.int si), .val (.int pi), .val (.int oi), .val (.int (2 : Int32)), .val (.int (1 : Int32)), .val (.ref a_OSP), .val (.int (0 : Int32)), .val (.int si)] [(.int (1 : Int32)), (.ref a_OSP)]))
      refine OFin.back (fun _ hr => XS.iloadN X19.here hx rfl (hb hby at_88) rfl hr) ?_
      show OFin p e below s _ _ Q (T19.setTop (mkF m 89 #[.val (.int sel), .val (.int cl), .val (.int si), .val (.int pi), .val (.int oi), .val (.int (2 : Int32)), .val (.int (1 : Int32)), .val (.ref a_OSP), .val (.int (0 : Int32)), .val (.int si)] [(.int si), (.int (1 : Int32)), (.ref a_OSP)]))
      refine OFin.back (fun _ hr => XS.iloadN X19.here hx rfl (hb hby at_89) rfl hr) ?_
      show OFin p e below s _ _ Q (T19.setTop (mkF m 90 #[.val (.int sel), .val (.int cl), .val (.int si), .val (.int pi), .val (.int oi), .val (.int (2 : Int32)), .val (.int (1 : Int32)), .val (.ref a_OSP), .val (.int (0 : Int32)), .val (.int si)] [(.int pi), (.int si), (.int (1 : Int32)), (.ref a_OSP)]))
      refine OFin.back (fun _ hr => XS.iload X19.here hx rfl (hb hby at_90) rfl hr) ?_
      show OFin p e below s _ _ Q (T19.setTop (mkF m 92 #[.val (.int sel), .val (.int cl), .val (.int si), .val (.int pi), .val (.int oi), .val (.int (2 : Int32)), .val (.int (1 : Int32)), .val (.ref a_OSP), .val (.int (0 : Int32)), .val (.int si)] [(.int oi), (.int pi), (.int si), (.int (1 : Int32)), (.ref a_OSP)]))
      obtain ⟨cq20, kq20, q20a, q20b, q20c⟩ := isOf hZ e19 E_OSP
      obtain ⟨_, _, ⟨T20, L20, k20, n20⟩, -, X20, ⟨Lc20, hQ20, l20, y20, z20⟩, st20⟩ := X19.virtualBack hx (y := (⟨"com/example/triplewright/triplewright/store/TripleOrder", "column", "(IIII)I"⟩ : MethodName)) (z := (⟨"com/example/triplewright/triplewright/store/TripleOrder", "column", "(IIII)I"⟩ : MethodName)) hown (mvT hZ (hw _ (List.mem_of_getElem? (i := 4) rfl))) (mvT hZ (hw _ (List.mem_of_getElem? (i := 5) rfl))) (notFace_of_selects (args := #[]) (mvT hZ (hw _ (List.mem_of_getElem? (i := 7) rfl)))) (mvT hZ (hw _ (List.mem_of_getElem? (i := 7) rfl))) (mvT hZ (hw _ (List.mem_of_getElem? (i := 6) rfl))) (by decide) (backOf (W := 0) (rm1 l Z a0 hw [] a_OSP (1 : Int32) si pi oi (1 : Int32) (2 : Int32) h0 n0 Z0 F_OSP_subjectColumn F_OSP_predicateColumn) hZ (hw _ (List.mem_of_getElem? (i := 8) rfl)) (hw _ (List.mem_of_getElem? (i := 2) rfl)) (by decide) (by decide)) q20a q20c (g := (mkF m 92 #[.val (.int sel), .val (.int cl), .val (.int si), .val (.int pi), .val (.int oi), .val (.int (2 : Int32)), .val (.int (1 : Int32)), .val (.ref a_OSP), .val (.int (0 : Int32)), .val (.int si)] [(.int oi), (.int pi), (.int si), (.int (1 : Int32)), (.ref a_OSP)])) rfl (by rw [hml]; rfl) (Steps.refl _) (argsL := [(.int (1 : Int32)), (.int si), (.int pi), (.int oi)]) (rest := []) (lenOf pd0_0 rfl) rfl (by show 2 * 0 + _ ≤ _; exact Nat.le_of_eq rfl) (hb hby at_92) (fun _ _ => ⟨rfl, e19, (by decide : 0 + 0 ≤ _), (by decide : 0 + 0 ≤ _)⟩)
      dsimp only [Pt.U, Pt.locs, Pt.cells, Pt.slots] at X20 l20 y20 z20 st20 hQ20
      subst l20 y20 z20
      obtain ⟨rfl, N20q, e20⟩ := hQ20
      have N20 := Fr.app N0 N20q
      refine OFin.via st20 ?_
      rw [show (own_col (1 : Int32) (1 : Int32) (2 : Int32) si pi oi) = si from by simp [own_col]]
      show OFin p e below s _ _ Q (T20.setTop (mkF m 95 #[.val (.int sel), .val (.int cl), .val (.int si), .val (.int pi), .val (.int oi), .val (.int (2 : Int32)), .val (.int (1 : Int32)), .val (.ref a_OSP), .val (.int (0 : Int32)), .val (.int si)] [(.int si)]))
      refine OFin.back (fun _ hr => XS.iload X20.here hx rfl (hb hby at_95) rfl hr) ?_
      show OFin p e below s _ _ Q (T20.setTop (mkF m 97 #[.val (.int sel), .val (.int cl), .val (.int si), .val (.int pi), .val (.int oi), .val (.int (2 : Int32)), .val (.int (1 : Int32)), .val (.ref a_OSP), .val (.int (0 : Int32)), .val (.int si)] [(.int si), (.int si)]))
      refine OFin.back (fun _ hr => XS.icmpNo X20.here hx rfl (hb hby at_97) rfl (teq rfl).2 hr) ?_
      show OFin p e below s _ _ Q (T20.setTop (mkF m 100 #[.val (.int sel), .val (.int cl), .val (.int si), .val (.int pi), .val (.int oi), .val (.int (2 : Int32)), .val (.int (1 : Int32)), .val (.ref a_OSP), .val (.int (0 : Int32)), .val (.int si)] []))
      refine OFin.back (fun _ hr => XS.iconst X20.here hx rfl (hb hby at_100) hr) ?_
      show OFin p e below s _ _ Q (T20.setTop (mkF m 101 #[.val (.int sel), .val (.int cl), .val (.int si), .val (.int pi), .val (.int oi), .val (.int (2 : Int32)), .val (.int (1 : Int32)), .val (.ref a_OSP), .val (.int (0 : Int32)), .val (.int si)] [(.int (1 : Int32))]))
      refine OFin.back (fun _ hr => XS.goto X20.here hx rfl (pc0 := 101) (pc' := 105) rfl (hb hby at_101) (by decide) (by decide) hr) ?_
      show OFin p e below s _ _ Q (T20.setTop (mkF m 105 #[.val (.int sel), .val (.int cl), .val (.int si), .val (.int pi), .val (.int oi), .val (.int (2 : Int32)), .val (.int (1 : Int32)), .val (.ref a_OSP), .val (.int (0 : Int32)), .val (.int si)] [(.int (1 : Int32))]))
      exact OFin.outN (t := .boolean) X20 hx Bd.returns (by simp) Bd.notSynchronized (hb hby at_105) (by decide) (by decide) e20 (by rw [hQ]; exact ⟨rfl, N20⟩)
    · rw [hl16_2]
      refine OFin.back (fun _ hr => XS.iload X0.here hx rfl (hb hby at_16) rfl hr) ?_
      show OFin p e below s _ _ Q (s₁.setTop (mkF m 18 #[.val (.int sel), .val (.int cl), .val (.int si), .val (.int pi), .val (.int oi), .val (.int (2 : Int32)), .val (.int (2 : Int32)), .unset, .unset, .unset] [(.int (2 : Int32))]))
      refine OFin.back (fun _ hr => XS.ifYes X0.here hx rfl (pc0 := 18) (pc' := 29) rfl (hb hby at_18) rfl ((if0 _ _).trans (feq (by decide : ¬ ((2 : Int32) = (0 : Int32)))).2) (by decide) (by decide) hr) ?_
      show OFin p e below s _ _ Q (s₁.setTop (mkF m 29 #[.val (.int sel), .val (.int cl), .val (.int si), .val (.int pi), .val (.int oi), .val (.int (2 : Int32)), .val (.int (2 : Int32)), .unset, .unset, .unset] []))
      refine OFin.back (fun _ hr => XS.iload X0.here hx rfl (hb hby at_29) rfl hr) ?_
      show OFin p e below s _ _ Q (s₁.setTop (mkF m 31 #[.val (.int sel), .val (.int cl), .val (.int si), .val (.int pi), .val (.int oi), .val (.int (2 : Int32)), .val (.int (2 : Int32)), .unset, .unset, .unset] [(.int (2 : Int32))]))
      refine OFin.back (fun _ hr => XS.iconst X0.here hx rfl (hb hby at_31) hr) ?_
      show OFin p e below s _ _ Q (s₁.setTop (mkF m 32 #[.val (.int sel), .val (.int cl), .val (.int si), .val (.int pi), .val (.int oi), .val (.int (2 : Int32)), .val (.int (2 : Int32)), .unset, .unset, .unset] [(.int (1 : Int32)), (.int (2 : Int32))]))
      refine OFin.back (fun _ hr => XS.icmpYes X0.here hx rfl (pc0 := 32) (pc' := 43) rfl (hb hby at_32) rfl (feq (by decide : ¬ ((2 : Int32) = (1 : Int32)))).2 (by decide) (by decide) hr) ?_
      show OFin p e below s _ _ Q (s₁.setTop (mkF m 43 #[.val (.int sel), .val (.int cl), .val (.int si), .val (.int pi), .val (.int oi), .val (.int (2 : Int32)), .val (.int (2 : Int32)), .unset, .unset, .unset] []))
      obtain ⟨T21, X21, e21, st21⟩ := getS2 X0 hx hZ hown (host := "") (Or.inl (hw _ (List.mem_of_getElem? (i := 13) rfl))) Via.refl e0 S_OSP (g := (mkF m 43 #[.val (.int sel), .val (.int cl), .val (.int si), .val (.int pi), .val (.int oi), .val (.int (2 : Int32)), .val (.int (2 : Int32)), .unset, .unset, .unset] [])) rfl (hb hby at_43)
      refine OFin.back st21 ?_
      show OFin p e below s _ _ Q (T21.setTop (mkF m 46 #[.val (.int sel), .val (.int cl), .val (.int si), .val (.int pi), .val (.int oi), .val (.int (2 : Int32)), .val (.int (2 : Int32)), .unset, .unset, .unset] [(.ref a_OSP)]))
      refine OFin.back (fun _ hr => XS.astore X21.here hx rfl (hb hby at_46) rfl rfl (l' := #[.val (.int sel), .val (.int cl), .val (.int si), .val (.int pi), .val (.int oi), .val (.int (2 : Int32)), .val (.int (2 : Int32)), .val (.ref a_OSP), .unset, .unset]) rfl hr) ?_
      show OFin p e below s _ _ Q (T21.setTop (mkF m 48 #[.val (.int sel), .val (.int cl), .val (.int si), .val (.int pi), .val (.int oi), .val (.int (2 : Int32)), .val (.int (2 : Int32)), .val (.ref a_OSP), .unset, .unset] []))
      refine OFin.back (fun _ hr => XS.iload X21.here hx rfl (hb hby at_48) rfl hr) ?_
      show OFin p e below s _ _ Q (T21.setTop (mkF m 50 #[.val (.int sel), .val (.int cl), .val (.int si), .val (.int pi), .val (.int oi), .val (.int (2 : Int32)), .val (.int (2 : Int32)), .val (.ref a_OSP), .unset, .unset] [(.int (2 : Int32))]))
      refine OFin.back (fun _ hr => XS.iload X21.here hx rfl (hb hby at_50) rfl hr) ?_
      show OFin p e below s _ _ Q (T21.setTop (mkF m 52 #[.val (.int sel), .val (.int cl), .val (.int si), .val (.int pi), .val (.int oi), .val (.int (2 : Int32)), .val (.int (2 : Int32)), .val (.ref a_OSP), .unset, .unset] [(.int (2 : Int32)), (.int (2 : Int32))]))
      refine OFin.back (fun _ hr => XS.iadd X21.here hx rfl (hb hby at_52) rfl hr) ?_
      show OFin p e below s _ _ Q (T21.setTop (mkF m 53 #[.val (.int sel), .val (.int cl), .val (.int si), .val (.int pi), .val (.int oi), .val (.int (2 : Int32)), .val (.int (2 : Int32)), .val (.ref a_OSP), .unset, .unset] [(.int (4 : Int32))]))
      refine OFin.back (fun _ hr => XS.iconst X21.here hx rfl (hb hby at_53) hr) ?_
      show OFin p e below s _ _ Q (T21.setTop (mkF m 54 #[.val (.int sel), .val (.int cl), .val (.int si), .val (.int pi), .val (.int oi), .val (.int (2 : Int32)), .val (.int (2 : Int32)), .val (.ref a_OSP), .unset, .unset] [(.int (3 : Int32)), (.int (4 : Int32))]))
      refine OFin.back (fun _ hr => iremM (g := (mkF m 54 #[.val (.int sel), .val (.int cl), .val (.int si), .val (.int pi), .val (.int oi), .val (.int (2 : Int32)), .val (.int (2 : Int32)), .val (.ref a_OSP), .unset, .unset] [(.int (3 : Int32)), (.int (4 : Int32))])) X21 hx rfl (hb hby at_54) rfl (by decide) hr) ?_
      show OFin p e below s _ _ Q (T21.setTop (mkF m 55 #[.val (.int sel), .val (.int cl), .val (.int si), .val (.int pi), .val (.int oi), .val (.int (2 : Int32)), .val (.int (2 : Int32)), .val (.ref a_OSP), .unset, .unset] [(.int (1 : Int32))]))
      refine OFin.back (fun _ hr => XS.istore X21.here hx rfl (hb hby at_55) rfl (l' := #[.val (.int sel), .val (.int cl), .val (.int si), .val (.int pi), .val (.int oi), .val (.int (2 : Int32)), .val (.int (2 : Int32)), .val (.ref a_OSP), .val (.int (1 : Int32)), .unset]) rfl hr) ?_
      show OFin p e below s _ _ Q (T21.setTop (mkF m 57 #[.val (.int sel), .val (.int cl), .val (.int si), .val (.int pi), .val (.int oi), .val (.int (2 : Int32)), .val (.int (2 : Int32)), .val (.ref a_OSP), .val (.int (1 : Int32)), .unset] []))
      refine OFin.back (fun _ hr => XS.iload X21.here hx rfl (hb hby at_57) rfl hr) ?_
      show OFin p e below s _ _ Q (T21.setTop (mkF m 59 #[.val (.int sel), .val (.int cl), .val (.int si), .val (.int pi), .val (.int oi), .val (.int (2 : Int32)), .val (.int (2 : Int32)), .val (.ref a_OSP), .val (.int (1 : Int32)), .unset] [(.int (1 : Int32))]))
      refine OFin.back (fun _ hr => XS.ifYes X21.here hx rfl (pc0 := 59) (pc' := 68) rfl (hb hby at_59) rfl ((if0 _ _).trans (feq (by decide : ¬ ((1 : Int32) = (0 : Int32)))).2) (by decide) (by decide) hr) ?_
      show OFin p e below s _ _ Q (T21.setTop (mkF m 68 #[.val (.int sel), .val (.int cl), .val (.int si), .val (.int pi), .val (.int oi), .val (.int (2 : Int32)), .val (.int (2 : Int32)), .val (.ref a_OSP), .val (.int (1 : Int32)), .unset] []))
      refine OFin.back (fun _ hr => XS.iload X21.here hx rfl (hb hby at_68) rfl hr) ?_
      show OFin p e below s _ _ Q (T21.setTop (mkF m 70 #[.val (.int sel), .val (.int cl), .val (.int si), .val (.int pi), .val (.int oi), .val (.int (2 : Int32)), .val (.int (2 : Int32)), .val (.ref a_OSP), .val (.int (1 : Int32)), .unset] [(.int (1 : Int32))]))
      refine OFin.back (fun _ hr => XS.iconst X21.here hx rfl (hb hby at_70) hr) ?_
      show OFin p e below s _ _ Q (T21.setTop (mkF m 71 #[.val (.int sel), .val (.int cl), .val (.int si), .val (.int pi), .val (.int oi), .val (.int (2 : Int32)), .val (.int (2 : Int32)), .val (.ref a_OSP), .val (.int (1 : Int32)), .unset] [(.int (1 : Int32)), (.int (1 : Int32))]))
      refine OFin.back (fun _ hr => XS.icmpNo X21.here hx rfl (hb hby at_71) rfl (teq (by decide : (1 : Int32) = (1 : Int32))).2 hr) ?_
      show OFin p e below s _ _ Q (T21.setTop (mkF m 74 #[.val (.int sel), .val (.int cl), .val (.int si), .val (.int pi), .val (.int oi), .val (.int (2 : Int32)), .val (.int (2 : Int32)), .val (.ref a_OSP), .val (.int (1 : Int32)), .unset] []))
      refine OFin.back (fun _ hr => XS.iloadN X21.here hx rfl (hb hby at_74) rfl hr) ?_
      show OFin p e below s _ _ Q (T21.setTop (mkF m 75 #[.val (.int sel), .val (.int cl), .val (.int si), .val (.int pi), .val (.int oi), .val (.int (2 : Int32)), .val (.int (2 : Int32)), .val (.ref a_OSP), .val (.int (1 : Int32)), .unset] [(.int pi)]))
      refine OFin.back (fun _ hr => XS.istore X21.here hx rfl (hb hby at_75) rfl (l' := #[.val (.int sel), .val (.int cl), .val (.int si), .val (.int pi), .val (.int oi), .val (.int (2 : Int32)), .val (.int (2 : Int32)), .val (.ref a_OSP), .val (.int (1 : Int32)), .val (.int pi)]) rfl hr) ?_
      show OFin p e below s _ _ Q (T21.setTop (mkF m 77 #[.val (.int sel), .val (.int cl), .val (.int si), .val (.int pi), .val (.int oi), .val (.int (2 : Int32)), .val (.int (2 : Int32)), .val (.ref a_OSP), .val (.int (1 : Int32)), .val (.int pi)] []))
      refine OFin.back (fun _ hr => XS.goto X21.here hx rfl (pc0 := 77) (pc' := 84) rfl (hb hby at_77) (by decide) (by decide) hr) ?_
      show OFin p e below s _ _ Q (T21.setTop (mkF m 84 #[.val (.int sel), .val (.int cl), .val (.int si), .val (.int pi), .val (.int oi), .val (.int (2 : Int32)), .val (.int (2 : Int32)), .val (.ref a_OSP), .val (.int (1 : Int32)), .val (.int pi)] []))
      refine OFin.back (fun _ hr => XS.aload X21.here hx rfl (hb hby at_84) rfl rfl hr) ?_
      show OFin p e below s _ _ Q (T21.setTop (mkF m 86 #[.val (.int sel), .val (.int cl), .val (.int si), .val (.int pi), .val (.int oi), .val (.int (2 : Int32)), .val (.int (2 : Int32)), .val (.ref a_OSP), .val (.int (1 : Int32)), .val (.int pi)] [(.ref a_OSP)]))
      refine OFin.back (fun _ hr => XS.iload X21.here hx rfl (hb hby at_86) rfl hr) ?_
      show OFin p e below s _ _ Q (T21.setTop (mkF m 88 #[.val (.int sel), .val (.int cl), .val (.int si), .val (.int pi), .val (.int oi), .val (.int (2 : Int32)), .val (.int (2 : Int32)), .val (.ref a_OSP), .val (.int (1 : Int32)), .val (.int pi)] [(.int (2 : Int32)), (.ref a_OSP)]))
      refine OFin.back (fun _ hr => XS.iloadN X21.here hx rfl (hb hby at_88) rfl hr) ?_
      show OFin p e below s _ _ Q (T21.setTop (mkF m 89 #[.val (.int sel), .val (.int cl), .val (.int si), .val (.int pi), .val (.int oi), .val (.int (2 : Int32)), .val (.int (2 : Int32)), .val (.ref a_OSP), .val (.int (1 : Int32)), .val (.int pi)] [(.int si), (.int (2 : Int32)), (.ref a_OSP)]))
      refine OFin.back (fun _ hr => XS.iloadN X21.here hx rfl (hb hby at_89) rfl hr) ?_
      show OFin p e below s _ _ Q (T21.setTop (mkF m 90 #[.val (.int sel), .val (.int cl), .val (.int si), .val (.int pi), .val (.int oi), .val (.int (2 : Int32)), .val (.int (2 : Int32)), .val (.ref a_OSP), .val (.int (1 : Int32)), .val (.int pi)] [(.int pi), (.int si), (.int (2 : Int32)), (.ref a_OSP)]))
      refine OFin.back (fun _ hr => XS.iload X21.here hx rfl (hb hby at_90) rfl hr) ?_
      show OFin p e below s _ _ Q (T21.setTop (mkF m 92 #[.val (.int sel), .val (.int cl), .val (.int si), .val (.int pi), .val (.int oi), .val (.int (2 : Int32)), .val (.int (2 : Int32)), .val (.ref a_OSP), .val (.int (1 : Int32)), .val (.int pi)] [(.int oi), (.int pi), (.int si), (.int (2 : Int32)), (.ref a_OSP)]))
      obtain ⟨cq22, kq22, q22a, q22b, q22c⟩ := isOf hZ e21 E_OSP
      obtain ⟨_, _, ⟨T22, L22, k22, n22⟩, -, X22, ⟨Lc22, hQ22, l22, y22, z22⟩, st22⟩ := X21.virtualBack hx (y := (⟨"com/example/triplewright/triplewright/store/TripleOrder", "column", "(IIII)I"⟩ : MethodName)) (z := (⟨"com/example/triplewright/triplewright/store/TripleOrder", "column", "(IIII)I"⟩ : MethodName)) hown (mvT hZ (hw _ (List.mem_of_getElem? (i := 4) rfl))) (mvT hZ (hw _ (List.mem_of_getElem? (i := 5) rfl))) (notFace_of_selects (args := #[]) (mvT hZ (hw _ (List.mem_of_getElem? (i := 7) rfl)))) (mvT hZ (hw _ (List.mem_of_getElem? (i := 7) rfl))) (mvT hZ (hw _ (List.mem_of_getElem? (i := 6) rfl))) (by decide) (backOf (W := 0) (rm1 l Z a0 hw [] a_OSP (2 : Int32) si pi oi (1 : Int32) (2 : Int32) h0 n0 Z0 F_OSP_subjectColumn F_OSP_predicateColumn) hZ (hw _ (List.mem_of_getElem? (i := 8) rfl)) (hw _ (List.mem_of_getElem? (i := 2) rfl)) (by decide) (by decide)) q22a q22c (g := (mkF m 92 #[.val (.int sel), .val (.int cl), .val (.int si), .val (.int pi), .val (.int oi), .val (.int (2 : Int32)), .val (.int (2 : Int32)), .val (.ref a_OSP), .val (.int (1 : Int32)), .val (.int pi)] [(.int oi), (.int pi), (.int si), (.int (2 : Int32)), (.ref a_OSP)])) rfl (by rw [hml]; rfl) (Steps.refl _) (argsL := [(.int (2 : Int32)), (.int si), (.int pi), (.int oi)]) (rest := []) (lenOf pd0_0 rfl) rfl (by show 2 * 0 + _ ≤ _; exact Nat.le_of_eq rfl) (hb hby at_92) (fun _ _ => ⟨rfl, e21, (by decide : 0 + 0 ≤ _), (by decide : 0 + 0 ≤ _)⟩)
      dsimp only [Pt.U, Pt.locs, Pt.cells, Pt.slots] at X22 l22 y22 z22 st22 hQ22
      subst l22 y22 z22
      obtain ⟨rfl, N22q, e22⟩ := hQ22
      have N22 := Fr.app N0 N22q
      refine OFin.via st22 ?_
      rw [show (own_col (2 : Int32) (1 : Int32) (2 : Int32) si pi oi) = pi from by simp [own_col]]
      show OFin p e below s _ _ Q (T22.setTop (mkF m 95 #[.val (.int sel), .val (.int cl), .val (.int si), .val (.int pi), .val (.int oi), .val (.int (2 : Int32)), .val (.int (2 : Int32)), .val (.ref a_OSP), .val (.int (1 : Int32)), .val (.int pi)] [(.int pi)]))
      refine OFin.back (fun _ hr => XS.iload X22.here hx rfl (hb hby at_95) rfl hr) ?_
      show OFin p e below s _ _ Q (T22.setTop (mkF m 97 #[.val (.int sel), .val (.int cl), .val (.int si), .val (.int pi), .val (.int oi), .val (.int (2 : Int32)), .val (.int (2 : Int32)), .val (.ref a_OSP), .val (.int (1 : Int32)), .val (.int pi)] [(.int pi), (.int pi)]))
      refine OFin.back (fun _ hr => XS.icmpNo X22.here hx rfl (hb hby at_97) rfl (teq rfl).2 hr) ?_
      show OFin p e below s _ _ Q (T22.setTop (mkF m 100 #[.val (.int sel), .val (.int cl), .val (.int si), .val (.int pi), .val (.int oi), .val (.int (2 : Int32)), .val (.int (2 : Int32)), .val (.ref a_OSP), .val (.int (1 : Int32)), .val (.int pi)] []))
      refine OFin.back (fun _ hr => XS.iconst X22.here hx rfl (hb hby at_100) hr) ?_
      show OFin p e below s _ _ Q (T22.setTop (mkF m 101 #[.val (.int sel), .val (.int cl), .val (.int si), .val (.int pi), .val (.int oi), .val (.int (2 : Int32)), .val (.int (2 : Int32)), .val (.ref a_OSP), .val (.int (1 : Int32)), .val (.int pi)] [(.int (1 : Int32))]))
      refine OFin.back (fun _ hr => XS.goto X22.here hx rfl (pc0 := 101) (pc' := 105) rfl (hb hby at_101) (by decide) (by decide) hr) ?_
      show OFin p e below s _ _ Q (T22.setTop (mkF m 105 #[.val (.int sel), .val (.int cl), .val (.int si), .val (.int pi), .val (.int oi), .val (.int (2 : Int32)), .val (.int (2 : Int32)), .val (.ref a_OSP), .val (.int (1 : Int32)), .val (.int pi)] [(.int (1 : Int32))]))
      exact OFin.outN (t := .boolean) X22 hx Bd.returns (by simp) Bd.notSynchronized (hb hby at_105) (by decide) (by decide) e22 (by rw [hQ]; exact ⟨rfl, N22⟩)
set_option maxRecDepth 65536 in
set_option maxHeartbeats 40000000 in
theorem comes_1 {Post : Tables → Env → Array Value → State → Outcome → State → Prop} (hpost : ∀ tb e args s v u, (limb_1_1.after args s (.returned v) u = true ∧ limb_1_2.after args s (.returned v) u = true ∧ True) → FrameEnd s (.returned v) u (Jvm.fieldLocs frame_1_writes args s ++ Jvm.arrayLocs frame_1_arrays args s ++ Jvm.staticLocs frame_1_statics s) 0 0 → Post tb e args s (.returned v) u) :
    ArmFor flags0 classFile x code maxLocals ret World_1 tables_1 room_1 Calls_1 rest_1 Pre_1 Post := by
  intro l hfl _ _ p e ha hc hk s m args below hf hA hF happ hP
  obtain ⟨hcalls, hrest, hpre⟩ := hP
  obtain ⟨-, -, -, hnamed, -, -, -, hat⟩ := (Spec.applies_iff hf).mp happ
  obtain ⟨hg, hn⟩ := and_e (Cond.before_iff.mp (show (Jvm.Cond.and given_1 narrow_1).before args s = true from hpre))
  obtain ⟨hga, hgb⟩ := and_e hg
  obtain ⟨hgba, hgbb⟩ := and_e hgb
  obtain ⟨hgbba, hgbbb⟩ := and_e hgbb
  obtain ⟨hgbbba, hgbbbb⟩ := and_e hgbbb
  obtain ⟨hgbbbba, hgbbbbb⟩ := and_e hgbbbb
  obtain ⟨w0, w1, w2, w3, w4, rfl⟩ : ∃ w0 w1 w2 w3 w4 : Value, args = #[w0, w1, w2, w3, w4] := by
    have hs : args.size = 5 := by simpa [Cond.value, given_1] using hga
    obtain ⟨L⟩ := args
    match L, hs with
    | [w0, w1, w2, w3, w4], _ => exact ⟨w0, w1, w2, w3, w4, rfl⟩
  have hw := fun d (hd : d ∈ tables_1) => atoms_spec (ws := Jvm.Cond.code x code maxLocals ret :: tables_1) hat d (List.mem_cons_of_mem _ hd)
  have hfit : Fit s := fun {y c} hc i hi => by
    obtain ⟨ha, rfl⟩ := Array.getElem?_eq_some_iff.mp hc
    have q := List.all_eq_true.mp ((Array.all_eq_true_iff_forall_mem.mp hF) _ (Array.getElem_mem ha)) i (List.mem_range.mpr hi)
    simpa [Array.getElem?_eq_getElem hi] using q
  obtain ⟨i0, ei0⟩ := is_v hgba
  obtain rfl : w0 = (.int i0) := Option.some.inj ei0
  obtain ⟨i1, ei1⟩ := is_v hgbba
  obtain rfl : w1 = (.int i1) := Option.some.inj ei1
  obtain ⟨i2, ei2⟩ := is_v hgbbba
  obtain rfl : w2 = (.int i2) := Option.some.inj ei2
  obtain ⟨i3, ei3⟩ := is_v hgbbbba
  obtain rfl : w3 = (.int i3) := Option.some.inj ei3
  obtain ⟨i4, ei4⟩ := is_v hgbbbbb
  obtain rfl : w4 = (.int i4) := Option.some.inj ei4
  obtain ⟨hna, hnb⟩ := and_e hn
  obtain ⟨hnba, hnbb⟩ := and_e hnb
  obtain ⟨hnbba, hnbbb⟩ := and_e hnbb
  obtain ⟨hnbbba, hnbbbb⟩ := and_e hnbbb
  obtain ⟨hnbbbba, hnbbbbb⟩ := and_e hnbbbb
  obtain ⟨hnbbbbba, hnbbbbbb⟩ := and_e hnbbbbb
  obtain ⟨hnbbbbbba, hnbbbbbbb⟩ := and_e hnbbbbbb
  obtain ⟨hnbbbbbbba, hnbbbbbbbb⟩ := and_e hnbbbbbbb
  obtain ⟨a_SPO, ev_SPO⟩ := exa_v hna
  have E_SPO : Exa s s.heap a_SPO "com/example/triplewright/triplewright/store/TripleOrder" := Exa.start ev_SPO hna
  have S_SPO : Sta s s.heap "com/example/triplewright/triplewright/store/TripleOrder" "SPO" "Lcom/example/triplewright/triplewright/store/TripleOrder;" (.ref a_SPO) := Sta.start ev_SPO (Or.inr ⟨(hw _ (List.mem_of_getElem? (i := 2) rfl)), (hw _ (List.mem_of_getElem? (i := 3) rfl))⟩)
  obtain ⟨a_OSP, ev_OSP⟩ := exa_v hnbbba
  have E_OSP : Exa s s.heap a_OSP "com/example/triplewright/triplewright/store/TripleOrder" := Exa.start ev_OSP hnbbba
  have S_OSP : Sta s s.heap "com/example/triplewright/triplewright/store/TripleOrder" "OSP" "Lcom/example/triplewright/triplewright/store/TripleOrder;" (.ref a_OSP) := Sta.start ev_OSP (Or.inr ⟨(hw _ (List.mem_of_getElem? (i := 2) rfl)), (hw _ (List.mem_of_getElem? (i := 14) rfl))⟩)
  obtain ⟨a_POS, ev_POS⟩ := exa_v hnbbbbba
  have E_POS : Exa s s.heap a_POS "com/example/triplewright/triplewright/store/TripleOrder" := Exa.start ev_POS hnbbbbba
  have S_POS : Sta s s.heap "com/example/triplewright/triplewright/store/TripleOrder" "POS" "Lcom/example/triplewright/triplewright/store/TripleOrder;" (.ref a_POS) := Sta.start ev_POS (Or.inr ⟨(hw _ (List.mem_of_getElem? (i := 2) rfl)), (hw _ (List.mem_of_getElem? (i := 16) rfl))⟩)
  have F_SPO_subjectColumn := own_fldI ev_SPO hnba
  have F_SPO_predicateColumn := own_fldI ev_SPO hnbba
  have F_OSP_subjectColumn := own_fldI ev_OSP hnbbbba
  have F_POS_subjectColumn := own_fldI ev_POS hnbbbbbba
  have F_POS_predicateColumn := own_fldI ev_POS hnbbbbbbba
  have F_OSP_predicateColumn := own_fldI ev_OSP hnbbbbbbbb
  obtain ⟨n, o, h1, h2, h3, _, L, rfl, ⟨rfl, N⟩, hq⟩ := rm0 l s _ hw tables_1 i0 i1 i2 i3 i4 a_SPO a_POS a_OSP s.heap s.heap.size (Nat.le_refl _) S_SPO E_SPO F_SPO_subjectColumn F_SPO_predicateColumn S_POS E_POS F_POS_subjectColumn F_POS_predicateColumn S_OSP E_OSP F_OSP_subjectColumn F_OSP_predicateColumn p e ha hc hk s m _ below hf ((Spec.applies_iff_loose hf).mp happ).1 ⟨rfl, State.Warmed39.refl s, rfl⟩ trivial
  refine ⟨n, _, h1, h2, h3, hpost _ _ _ _ _ _ ⟨Cond.after_iff.mpr rfl, Cond.after_iff.mpr (eq_i res_at (Term.int_eval (1)) rfl), trivial⟩ ⟨hq.1, hq.2.1, (hq.2.2.sift fun y hy => Or.inr (N y hy)).mono (by decide) (by decide)⟩⟩
theorem main_1_1 : Claimed_1_1 := comes_1 fun _ _ _ _ _ _ h hF => ⟨h.1, hF⟩
theorem main_1_2 : Claimed_1_2 := comes_1 fun _ _ _ _ _ _ h hF => ⟨h.2.1, hF⟩
end Jvm.Pilot.@@N@@
namespace Jvm.Pilot.@@N@@
open Jvm Jvm.ClassFile Sem Op Lib Jvm.Free Jvm.Stand Jvm.Pilot.@@N@@.Jvm.D
/-! MADE BY PROGRAM (witnessworld.py) out of the Statement's table words and the real class files: 12 classes; the members and pool entries that the words name. The judged class is class 1, her method 1. -/
namespace start1
open Jvm.ClassFile
def u (s : String) : CpInfo := .utf8 (stringToUtf16 s)
/-- a pool by its gaps: so many unusable entries, then the entry; so many at the end -/
def gap : Nat → List CpInfo → List CpInfo
  | 0, r => r
  | n + 1, r => .unusable :: gap n r
def poolList (es : List (Nat × CpInfo)) (last : Nat) : List CpInfo := es.foldr (fun e r => gap e.1 (e.2 :: r)) (gap last [])
def pool (es : List (Nat × CpInfo)) (last : Nat) : Array CpInfo := ⟨poolList es last⟩
def fileOf (pool : Array CpInfo) (this : Nat) (attrs : Array Attribute := #[]) (ms : Array MethodInfo := #[]) (fl : Nat := 33) (sup : Nat := 0) (ifs : Array Nat := #[]) (fds : Array FieldInfo := #[]) : ClassFile where
  minorVersion := 0
  majorVersion := 65
  constantPool := pool
  accessFlags := fl
  thisClass := this
  superClass := sup
  interfaces := ifs
  fields := fds
  methods := ms
  attributes := attrs
def plain (name : String) (sup : Option ClassId) : Class where
  name := name
  kind := .ordinary
  loader := none
  accessFlags := 33
  super := sup
  interfaces := #[]
  cf := none
  fields := #[]
  methods := #[]
  instanceTypes := #[]
  staticTypes := #[]
  resolved := #[]
  callSites := []
  init := .initialized
  statics := none
  mirror := none

def pool0 : Array CpInfo := pool [(5, u "<init>"), (0, u "()V"), (1, .class_ 10), (1, u "java/lang/Object")] 113

def k0m0 : Method := { name := "<init>", desc := "()V", sig := { parameters := [], returnType := none }, accessFlags := 1, code := none }
/-- java/lang/Object -/
def k0 : Class := { plain "java/lang/Object" none with
  accessFlags := 33
  interfaces := #[]
  cf := some (fileOf pool0 8 #[] #[{ accessFlags := 1, nameIndex := 5, descriptorIndex := 6, attributes := #[] }] 33 0 #[] #[])
  fields := #[]
  methods := #[k0m0]
  instanceTypes := #[]
  staticTypes := #[]
  resolved := Array.replicate 124 none
  statics := none }

def pool1 : Array CpInfo := pool [(2, .class_ 4), (1, u "java/lang/Object"), (0, u "<init>"), (0, u "()V"), (0, .integer 2147483647), (0, .fieldref 9 10), (0, .class_ 11), (0, .nameAndType 12 13), (0, u "com/example/triplewright/triplewright/store/TripleOrder"), (0, u "SPO"), (0, u "Lcom/example/triplewright/triplewright/store/TripleOrder;"), (0, .fieldref 9 15), (0, .nameAndType 16 13), (0, u "POS"), (0, .fieldref 9 18), (0, .nameAndType 19 13), (0, u "OSP"), (0, .methodref 9 21), (0, .nameAndType 22 23), (0, u "column"), (0, u "(IIII)I"), (0, .class_ 25), (0, u "com/example/triplewright/triplewright/store/TripleOrderColumnPinLaw"), (2, u "law"), (0, u "(IIIII)Z")] 3

def k1m0 : Method := { name := "<init>", desc := "()V", sig := { parameters := [], returnType := none }, accessFlags := 1, code := none }
def k1c1 : Code := { maxStack := 5, maxLocals := 10, code := code, exceptionTable := #[], attributes := #[] }
def k1m1 : Method := { name := "law", desc := "(IIIII)Z", sig := { parameters := [.int, .int, .int, .int, .int], returnType := some .boolean }, accessFlags := 9, code := some k1c1 }
/-- com/example/triplewright/triplewright/store/TripleOrderColumnPinLaw -/
def k1 : Class := { plain "com/example/triplewright/triplewright/store/TripleOrderColumnPinLaw" (some 0) with
  accessFlags := 49
  interfaces := #[]
  cf := some (fileOf pool1 24 #[] #[{ accessFlags := 1, nameIndex := 5, descriptorIndex := 6, attributes := #[] }, { accessFlags := 9, nameIndex := 28, descriptorIndex := 29, attributes := #[] }] 49 2 #[] #[])
  fields := #[]
  methods := #[k1m0, k1m1]
  instanceTypes := #[]
  staticTypes := #[]
  resolved := Array.replicate 33 none
  statics := none }

def pool2 : Array CpInfo := pool [(1, .class_ 2), (0, u "java/lang/constant/Constable"), (0, .class_ 4), (0, u "java/lang/Object")] 6

/-- java/lang/constant/Constable -/
def k2 : Class := { plain "java/lang/constant/Constable" (some 0) with
  accessFlags := 1537
  interfaces := #[]
  cf := some (fileOf pool2 1 #[] #[] 1537 3 #[] #[])
  fields := #[]
  methods := #[]
  instanceTypes := #[]
  staticTypes := #[]
  resolved := Array.replicate 11 none
  statics := none }

def pool3 : Array CpInfo := pool [(1, .class_ 2), (0, u "java/lang/Comparable"), (0, .class_ 4), (0, u "java/lang/Object")] 7

/-- java/lang/Comparable -/
def k3 : Class := { plain "java/lang/Comparable" (some 0) with
  accessFlags := 1537
  interfaces := #[]
  cf := some (fileOf pool3 1 #[] #[] 1537 3 #[] #[])
  fields := #[]
  methods := #[]
  instanceTypes := #[]
  staticTypes := #[]
  resolved := Array.replicate 12 none
  statics := none }

def pool4 : Array CpInfo := pool [(1, .class_ 2), (0, u "java/io/Serializable"), (0, .class_ 4), (0, u "java/lang/Object")] 2

/-- java/io/Serializable -/
def k4 : Class := { plain "java/io/Serializable" (some 0) with
  accessFlags := 1537
  interfaces := #[]
  cf := some (fileOf pool4 1 #[] #[] 1537 3 #[] #[])
  fields := #[]
  methods := #[]
  instanceTypes := #[]
  staticTypes := #[]
  resolved := Array.replicate 7 none
  statics := none }

def pool5 : Array CpInfo := pool [(2, .class_ 4), (1, u "java/lang/Enum"), (0, u "name"), (0, u "Ljava/lang/String;"), (2, u "ordinal"), (0, u "I"), (1, .class_ 14), (1, u "java/lang/Object"), (4, u "hash"), (86, .class_ 108), (1, u "java/lang/Enum$EnumDesc"), (2, .class_ 112), (0, u "java/lang/constant/Constable"), (0, .class_ 114), (0, u "java/lang/Comparable"), (0, .class_ 116), (0, u "java/io/Serializable")] 87

/-- java/lang/Enum -/
def k5 : Class := { plain "java/lang/Enum" (some 0) with
  accessFlags := 1057
  interfaces := #[2, 3, 4]
  cf := some (fileOf pool5 2 #[.nestMembers #[106]] #[] 1057 12 #[111, 113, 115] #[{ accessFlags := 18, nameIndex := 5, descriptorIndex := 6, attributes := #[] }, { accessFlags := 18, nameIndex := 9, descriptorIndex := 10, attributes := #[] }, { accessFlags := 2, nameIndex := 19, descriptorIndex := 10, attributes := #[] }])
  fields := #[{ name := "name", type := (.object "java/lang/String"), accessFlags := 18, slot := 0, constantValue := 0 }, { name := "ordinal", type := .int, accessFlags := 18, slot := 1, constantValue := 0 }, { name := "hash", type := .int, accessFlags := 2, slot := 2, constantValue := 0 }]
  methods := #[]
  instanceTypes := #[(.object "java/lang/String"), .int, .int]
  staticTypes := #[]
  resolved := Array.replicate 204 none
  statics := none }

def pool6 : Array CpInfo := pool [(1, .class_ 2), (0, u "com/example/triplewright/triplewright/store/TripleOrder"), (2, u "SPO"), (0, u "Lcom/example/triplewright/triplewright/store/TripleOrder;"), (2, u "POS"), (2, u "OSP"), (2, u "$VALUES"), (0, u "[Lcom/example/triplewright/triplewright/store/TripleOrder;"), (6, .class_ 25), (1, u "java/lang/Enum"), (6, .fieldref 1 33), (0, .nameAndType 34 35), (0, u "subjectColumn"), (0, u "I"), (0, .fieldref 1 37), (0, .nameAndType 38 35), (0, u "predicateColumn"), (2, u "objectColumn"), (23, u "column"), (0, u "(IIII)I")] 5

def k6c0 : Code := { maxStack := 2, maxLocals := 6, code := prog_136_method_8_code, exceptionTable := #[], attributes := #[] }
def k6m0 : Method := { name := "column", desc := "(IIII)I", sig := { parameters := [.int, .int, .int, .int], returnType := some .int }, accessFlags := 0, code := some k6c0 }
/-- com/example/triplewright/triplewright/store/TripleOrder -/
def k6 : Class := { plain "com/example/triplewright/triplewright/store/TripleOrder" (some 5) with
  accessFlags := 16432
  interfaces := #[]
  cf := some (fileOf pool6 1 #[] #[{ accessFlags := 0, nameIndex := 65, descriptorIndex := 66, attributes := #[] }] 16432 23 #[] #[{ accessFlags := 16409, nameIndex := 5, descriptorIndex := 6, attributes := #[] }, { accessFlags := 16409, nameIndex := 9, descriptorIndex := 6, attributes := #[] }, { accessFlags := 16409, nameIndex := 12, descriptorIndex := 6, attributes := #[] }, { accessFlags := 18, nameIndex := 34, descriptorIndex := 35, attributes := #[] }, { accessFlags := 18, nameIndex := 38, descriptorIndex := 35, attributes := #[] }, { accessFlags := 18, nameIndex := 41, descriptorIndex := 35, attributes := #[] }, { accessFlags := 4122, nameIndex := 15, descriptorIndex := 16, attributes := #[] }])
  fields := #[{ name := "SPO", type := (.object "com/example/triplewright/triplewright/store/TripleOrder"), accessFlags := 16409, slot := 0, constantValue := 0 }, { name := "POS", type := (.object "com/example/triplewright/triplewright/store/TripleOrder"), accessFlags := 16409, slot := 1, constantValue := 0 }, { name := "OSP", type := (.object "com/example/triplewright/triplewright/store/TripleOrder"), accessFlags := 16409, slot := 2, constantValue := 0 }, { name := "subjectColumn", type := .int, accessFlags := 18, slot := 3, constantValue := 0 }, { name := "predicateColumn", type := .int, accessFlags := 18, slot := 4, constantValue := 0 }, { name := "objectColumn", type := .int, accessFlags := 18, slot := 5, constantValue := 0 }, { name := "$VALUES", type := (.array (.object "com/example/triplewright/triplewright/store/TripleOrder")), accessFlags := 4122, slot := 3, constantValue := 0 }]
  methods := #[k6m0]
  instanceTypes := #[(.object "java/lang/String"), .int, .int, .int, .int, .int]
  staticTypes := #[(.object "com/example/triplewright/triplewright/store/TripleOrder"), (.object "com/example/triplewright/triplewright/store/TripleOrder"), (.object "com/example/triplewright/triplewright/store/TripleOrder"), (.array (.object "com/example/triplewright/triplewright/store/TripleOrder"))]
  resolved := Array.replicate 72 none
  statics := some 0 }

def pool7 : Array CpInfo := pool [(1, u "java/lang/Cloneable"), (0, .class_ 1), (0, u "java/lang/Object"), (0, .class_ 3)] 3

/-- java/lang/Cloneable -/
def k7 : Class := { plain "java/lang/Cloneable" (some 0) with
  accessFlags := 1537
  interfaces := #[]
  cf := some (fileOf pool7 2 #[] #[] 1537 4 #[] #[])
  fields := #[]
  methods := #[]
  instanceTypes := #[]
  staticTypes := #[]
  resolved := Array.replicate 8 none
  statics := none }

/-- the primitive byte -/
def k8 : Class := { plain "byte" none with kind := .primitive 'B', accessFlags := 0x411 }
/-- [B -/
def k9 : Class := { plain "[B" (some 0) with kind := .array 8 .byte, interfaces := #[7, 4], accessFlags := 1041 }

/-- the primitive int -/
def k10 : Class := { plain "int" none with kind := .primitive 'I', accessFlags := 0x411 }
/-- [I -/
def k11 : Class := { plain "[I" (some 0) with kind := .array 10 .int, interfaces := #[7, 4], accessFlags := 1041 }

def heap : Heap := #[{ cls := 6, slots := #[.ref 1, .ref 2, .ref 3, .null], vm := .statics 6 },
  { cls := 6, slots := #[.null, .int 0, .int 0, .int 0, .int 1, .int 2], vm := .none },
  { cls := 6, slots := #[.null, .int 1, .int 0, .int 2, .int 0, .int 1], vm := .none },
  { cls := 6, slots := #[.null, .int 2, .int 0, .int 1, .int 2, .int 0], vm := .none }]
def classes : Array Class := #[k0, k1, k2, k3, k4, k5, k6, k7, k8, k9, k10, k11]
def interned : List (Array UInt16 × Addr) := []
def slotsUsed : Nat := 22
def theMethod : MethodId := ⟨1, 1⟩
def args0 : Array Value := #[.int 4, .int 5, .int 7, .int 8, .int 9]
def aboutOver (below : List Frame) : State where
  vm := { classes := classes, interned := interned.toArray }
  heap := heap
  slotsUsed := slotsUsed
  threads := #[{ frames := .invoking theMethod args0 :: below }]
def below0 : List Frame := [.native { method := ⟨0, 0⟩, args := #[] }]
def about1 : State := aboutOver below0
def p0 : Program := .bare "" "" ""
def e0 : Env := launch0.env 0 0 0
theorem w_frames : about1.frames = Frame.invoking theMethod args0 :: below0 := rfl
set_option maxRecDepth 65536 in
theorem w_args : argsFit about1.vm theMethod args0 = true := by decide +kernel
set_option maxRecDepth 65536 in
theorem w_heap : heapFits about1 = true := by decide +kernel
set_option maxRecDepth 65536 in
theorem w_runnable : about1.curStatus? = some .runnable := by decide +kernel
set_option maxRecDepth 65536 in
theorem w_alone : about1.alone = true := by decide +kernel
set_option maxRecDepth 65536 in
theorem w_named : about1.methodNamed? x = some theMethod := by decide +kernel
set_option maxRecDepth 65536 in
theorem w_hears : about1.hears theMethod below0 = true := by decide +kernel
set_option maxRecDepth 65536 in
theorem w_ripe : about1.ripe theMethod args0 below0 = true := by decide +kernel
theorem w_running : about1.status = .running := rfl
set_option maxRecDepth 65536 in
theorem w_room : about1.hasRoom e0.platform room_1 = true :=
  launch0.hasRoom_least _ room_1 (by decide +kernel) (by decide +kernel) (by decide +kernel) (by decide +kernel) (by decide +kernel) (by decide +kernel)
theorem allAtoms_all (ts : List Jvm.Cond) (a : Array Jvm.Value) (st : Jvm.State) : (allAtoms ts).before a st = ts.all (fun c => c.before a st) := by
  induction ts with
  | nil => rfl
  | cons c t ih =>
    show (Jvm.Cond.and c (allAtoms t)).before a st = _
    rw [Jvm.Cond.before_and, ih, List.all_cons]
def words1 : List Jvm.Cond := Jvm.Cond.code x code maxLocals ret :: tables_1
/-- a 'code' word, met by the world's own term for the bytes: nothing is compared byte by byte -/
theorem code_word {y : MethodName} {bytes : ByteArray} {mx : Nat} {rt : Option FieldType} {a : Array Value} {s : State} {m : MethodId} {meth : Method} {c : Code} (h1 : s.methodNamed? y = some m) (h2 : s.vm.method? m = some meth) (h3 : meth.code = some c) (h4 : c.code = bytes)
    (h5 : (c.maxLocals == mx && c.exceptionTable.isEmpty && decide (c.maxStack ≤ mostOperands) && decide (meth.sig.returnType = rt) && !meth.locks && decide (parseMethodDescriptor y.desc = some meth.sig)) = true) : (Jvm.Cond.code y bytes mx rt).before a s = true := by
  simp only [Bool.and_eq_true, beq_iff_eq, Bool.not_eq_true', decide_eq_true_eq] at h5
  obtain ⟨⟨⟨⟨⟨g1, g2⟩, g3⟩, g4⟩, g5⟩, g6⟩ := h5
  simp [Cond.before, Cond.holds, Cond.value, h1, h2, h3, h4, g1, g2, g3, g4, g5, g6]
def isCode : Jvm.Cond → Bool
  | .code _ _ _ _ => true
  | _ => false
theorem all_split {L : List Jvm.Cond} {P : Jvm.Cond → Bool} (h1 : L.all (fun c => isCode c || P c) = true) (h2 : ∀ c ∈ L.filter isCode, P c = true) : L.all P = true := by
  refine List.all_eq_true.mpr fun c hc => ?_
  have h := List.all_eq_true.mp h1 c hc
  rcases Bool.eq_false_or_eq_true (isCode c) with hi | hi
  · exact h2 c (List.mem_filter.mpr ⟨hc, hi⟩)
  · simpa [hi] using h
set_option maxRecDepth 65536 in
theorem w_c0 : (Jvm.Cond.code x code maxLocals ret).before args0 about1 = true := code_word (m := ⟨1, 1⟩) (meth := k1m1) (c := k1c1) (by decide +kernel) rfl rfl rfl (by decide +kernel)
set_option maxRecDepth 65536 in
theorem w_c1 : (Jvm.Cond.code ({ cls := "com/example/triplewright/triplewright/store/TripleOrder", name := "column", desc := "(IIII)I" } : Jvm.MethodName) prog_136_method_8_code (6 : Nat) (Option.some Jvm.ClassFile.FieldType.int)).before args0 about1 = true := code_word (m := ⟨6, 0⟩) (meth := k6m0) (c := k6c0) (by decide +kernel) rfl rfl rfl (by decide +kernel)
def codes1 : List Jvm.Cond := [Jvm.Cond.code x code maxLocals ret, Jvm.Cond.code ({ cls := "com/example/triplewright/triplewright/store/TripleOrder", name := "column", desc := "(IIII)I" } : Jvm.MethodName) prog_136_method_8_code (6 : Nat) (Option.some Jvm.ClassFile.FieldType.int)]
set_option maxRecDepth 65536 in
theorem codes_eq : words1.filter isCode = codes1 := rfl
theorem w_codes : ∀ c ∈ words1.filter isCode, c.before args0 about1 = true := by
  rw [codes_eq]
  intro c hc
  simp only [codes1, List.mem_cons, List.not_mem_nil, or_false] at hc
  rcases hc with rfl | rfl
  · exact w_c0
  · exact w_c1
set_option maxRecDepth 65536 in
theorem w_t1 : words1.all (fun c => isCode c || c.before args0 about1) = true := by decide +kernel
theorem w_tables : (allAtoms (Jvm.Cond.code x code maxLocals ret :: tables_1)).before args0 about1 = true := by
  rw [allAtoms_all]
  show words1.all (fun c => c.before args0 about1) = true
  refine all_split ?_ w_codes
  rw [w_t1]
set_option maxRecDepth 65536 in
theorem w_case : (Jvm.Cond.and given_1 narrow_1).before args0 about1 = true := by decide +kernel
theorem w_applies : (headSpec (Jvm.Cond.code x code maxLocals ret :: tables_1) room_1).applies x e0.platform about1 = true :=
  (Spec.applies_iff w_frames).mpr ⟨w_running, w_runnable, w_alone, w_named, w_hears, w_ripe, w_room, w_tables⟩
theorem atStart : AtStart classFile x code maxLocals ret World_1 tables_1 room_1 Calls_1 rest_1 Pre_1 launch0 p0 e0 about1 theMethod args0 below0 :=
  ⟨lists_1, trivial, launch0.admits_env _ _ _, launch0.least_env, fairChoices_fair.cas, fairChoices_fair.clock, w_frames, w_args, w_heap, w_applies, trivial, trivial, w_case⟩
end start1
theorem witness_1 : WitnessClaimed_1 := ⟨start1.p0, start1.e0, start1.about1, start1.theMethod, start1.args0, start1.below0, start1.atStart⟩
end Jvm.Pilot.@@N@@
