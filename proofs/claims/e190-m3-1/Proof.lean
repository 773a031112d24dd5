import JvmDerived
import JvmDerived.Pilot.@@N@@Statement
import JvmDerived.Pilot.@@N@@Code
set_option linter.unusedVariables false
set_option linter.unusedSimpArgs false
namespace Jvm.RoadKit
open Sem ClassFile Op Lib Jvm.Stand Jvm.Free Jvm.LawKit
section New
variable {p : Program} {l : Launch} {e : Env} {R : Room} {s : State} {m : MethodId} {args : Array Value} {below : List Frame} {meth : Method} {c : Code} {T : State} {locs : List Loc} {cells slots : Nat}
theorem retI (X : Stand p l e R s m args below meth c T locs cells slots) (hx : p.tables.exec = Jvm.exec) {pc : Nat} {Ls : Array Slot} {z : Int32} {rest : List Value} (hret : meth.sig.returnType = some .int) (hd : decode c.code pc = .ok (.ireturn, 1)) {fs : List Frame}
    (hl : ∀ (f : JFrame) (acts : List Action), f.method = m → f.locked = none → f.entered = [] → (doReturn e (T.setTop f) acts (some (.int z))).1 = T.setFrames fs) : Steps p.tables e below (T.setTop (mkF m pc Ls (.int z :: rest))) (T.setFrames fs) := by
  have hm' : T.vm.method? m = some meth := X.method'
  have hn : narrow .int (.int z) = .int z := rfl
  show Steps p.tables e below (T.setTop { method := m, pc := pc, locals := Ls, stack := _ :: rest, locked := none }) _
  jvm_step X.here [X.here.top, hx, hd, hm', hret, hn]
  first | (intro acts; rw [hl _ acts rfl rfl rfl]) | rw [hl _ _ rfl rfl rfl]
  exact Steps.refl _
/-- from S the invocation comes to its end, and Q says what it returned, the heap, the places written -/
def OFin (p : Program) (e : Env) (below : List Frame) (s : State) (k n : Nat) (Q : Option Value → Heap → List Loc → Prop) (S : State) : Prop :=
  ∃ t o, Steps p.tables e below S t ∧ t.status = .running ∧ Ended t below o ∧ ∃ v L, o = .returned v ∧ Q v t.heap L ∧ FrameEnd s o t L k n
variable {k n : Nat} {Q : Option Value → Heap → List Loc → Prop} {S S' : State}
theorem OFin.back (h : ∀ t, Steps p.tables e below S' t → Steps p.tables e below S t) (g : OFin p e below s k n Q S') : OFin p e below s k n Q S := by
  obtain ⟨t, o, h1, h2⟩ := g
  exact ⟨t, o, h t h1, h2⟩
theorem OFin.via (h : Steps p.tables e below S S') (g : OFin p e below s k n Q S') : OFin p e below s k n Q S := by
  obtain ⟨t, o, h1, h2⟩ := g
  exact ⟨t, o, h.trans h1, h2⟩
variable {h : Heap} {pc : Nat} {Ls : Array Slot} {z : Int32} {rest : List Value}
theorem OFin.outI (X : Stand p l e R s m args below meth c T locs cells slots) (hx : p.tables.exec = Jvm.exec) (hret : meth.sig.returnType = some .int) (hk : meth.locks = false) (hd : decode c.code pc = .ok (.ireturn, 1)) (hc : cells ≤ k) (hs : slots ≤ n) (eT : T.heap = h) (hq : Q (some (.int z)) h locs) :
    OFin p e below s k n Q (T.setTop (mkF m pc Ls (.int z :: rest))) := by
  obtain ⟨fs, hr, hrun, hended, hW, hsame⟩ := X.leave (v := some (.int z)) (fun h => by rw [hret] at h; cases h) hk
  exact ⟨_, _, retI X hx hret hd hr, hrun, hended, _, _, rfl, by show Q _ T.heap _; rw [eT]; exact hq, ⟨_, rfl⟩, hW, hsame.mono hc hs⟩
theorem OFin.outN {t : FieldType} (X : Stand p l e R s m args below meth c T locs cells slots) (hx : p.tables.exec = Jvm.exec) (hret : meth.sig.returnType = some t) (ht : t = .boolean ∨ t = .byte ∨ t = .char ∨ t = .short) (hk : meth.locks = false) (hd : decode c.code pc = .ok (.ireturn, 1)) (hc : cells ≤ k) (hs : slots ≤ n) (eT : T.heap = h) (hq : Q (some (.int (nar t z))) h locs) :
    OFin p e below s k n Q (T.setTop (mkF m pc Ls (.int z :: rest))) := by
  obtain ⟨fs, hr, hrun, hended, hW, hsame⟩ := X.leave (v := some (.int (nar t z))) (fun h => by rw [hret] at h; cases h) hk
  exact ⟨_, _, retN X hx hret ht hd hr, hrun, hended, _, _, rfl, by show Q _ T.heap _; rw [eT]; exact hq, ⟨_, rfl⟩, hW, hsame.mono hc hs⟩
theorem OFin.outA {t : FieldType} {w : Value} (X : Stand p l e R s m args below meth c T locs cells slots) (hx : p.tables.exec = Jvm.exec) (hret : meth.sig.returnType = some t) (ht : t.isReference = true) (hn : narrow t w = w) (hw : w.isRef = true) (hk : meth.locks = false) (hd : decode c.code pc = .ok (.areturn, 1)) (hc : cells ≤ k) (hs : slots ≤ n) (eT : T.heap = h) (hq : Q (some w) h locs) :
    OFin p e below s k n Q (T.setTop (mkF m pc Ls (w :: rest))) := by
  obtain ⟨fs, hr, hrun, hended, hW, hsame⟩ := X.leave (v := some w) (fun h => by rw [hret] at h; cases h) hk
  exact ⟨_, _, retOut X hx hret hn (Or.inr (Or.inr (Or.inr (Or.inr ⟨rfl, ht, hw⟩)))) hd hr, hrun, hended, _, _, rfl, by show Q _ T.heap _; rw [eT]; exact hq, ⟨_, rfl⟩, hW, hsame.mono hc hs⟩
theorem OFin.outJ {w : Int64} (X : Stand p l e R s m args below meth c T locs cells slots) (hx : p.tables.exec = Jvm.exec) (hret : meth.sig.returnType = some .long) (hk : meth.locks = false) (hd : decode c.code pc = .ok (.lreturn, 1)) (hc : cells ≤ k) (hs : slots ≤ n) (eT : T.heap = h) (hq : Q (some (.long w)) h locs) :
    OFin p e below s k n Q (T.setTop (mkF m pc Ls (.long w :: rest))) := by
  obtain ⟨fs, hr, hrun, hended, hW, hsame⟩ := X.leave (v := some (.long w)) (fun h => by rw [hret] at h; cases h) hk
  exact ⟨_, _, retOut X hx hret rfl (Or.inr (Or.inl ⟨rfl, rfl, _, rfl⟩)) hd hr, hrun, hended, _, _, rfl, by show Q _ T.heap _; rw [eT]; exact hq, ⟨_, rfl⟩, hW, hsame.mono hc hs⟩
theorem OFin.outV (X : Stand p l e R s m args below meth c T locs cells slots) (hx : p.tables.exec = Jvm.exec) (hret : meth.sig.returnType = none) (hk : meth.locks = false) (hd : decode c.code pc = .ok (.return_, 1)) (hc : cells ≤ k) (hs : slots ≤ n) (eT : T.heap = h) (hq : Q none h locs) :
    OFin p e below s k n Q (T.setTop (mkF m pc Ls [])) := by
  obtain ⟨fs, hr, hrun, hended, hW, hsame⟩ := X.leave (v := none) (fun _ => rfl) hk
  exact ⟨_, _, X.returnOut hx hret hd hr, hrun, hended, _, _, rfl, by show Q _ T.heap _; rw [eT]; exact hq, ⟨_, rfl⟩, hW, hsame.mono hc hs⟩
end New
end Jvm.RoadKit
namespace Jvm.Pilot.@@N@@
open Jvm Jvm.ClassFile Sem Op Lib Jvm.Free Jvm.Stand Jvm.LawKit Jvm.RoadKit Bundle Jvm.Pilot.@@N@@.Jvm.D

theorem own_fldI {Z : State} {args : Array Value} {t : Term} {a : Addr} {C n d : String} {k : Int32} (ht : t.eval args Z none [] Z = some (.ref a)) (h : (Jvm.Cond.eq (Jvm.Term.field t C n d) (Jvm.Term.int k)).value args Z none Z [] = some true) : Fld Z Z.heap a C n d (.int k) := by
  exact Fld.start ((fld_at ht).symm.trans (eqv_i (F := Jvm.Term.int k) rfl h))
def own_adm (z : Int32) (a aP aR : Addr) : Int32 := if z = 0 then (if a = aR then 0 else 1) else (if a = aP then 0 else 1)
theorem own_mod3 (x : Int32) : ((x &&& (2147483647 : Int32)) % (3 : Int32)) = (0 : Int32) ∨ ((x &&& (2147483647 : Int32)) % (3 : Int32)) = (1 : Int32) ∨ ((x &&& (2147483647 : Int32)) % (3 : Int32)) = (2 : Int32) := by
  have h := c_mask x 2147483647 31 (by decide) (by decide)
  have h2 : ((x &&& (2147483647 : Int32)) % (3 : Int32)).toInt = (x &&& (2147483647 : Int32)).toInt.tmod (3 : Int32).toInt := Int32.toInt_mod _ _
  have h3 : (3 : Int32).toInt = 3 := by decide
  have h4 : (0 : Int32).toInt = 0 := by decide
  have h5 : (1 : Int32).toInt = 1 := by decide
  have h6 : (2 : Int32).toInt = 2 := by decide
  rw [h3] at h2
  rw [← Int32.toInt_inj, ← Int32.toInt_inj, ← Int32.toInt_inj, h4, h5, h6]
  have h7 : 0 ≤ (x &&& (2147483647 : Int32)).toInt := by rw [h]; omega
  rw [Int.tmod_eq_emod_of_nonneg h7] at h2
  omega
theorem d1_0 : decode prog_110_method_6_code 0 = .ok (.iload_n 1, 1) := by decide +kernel
theorem d1_1 : decode prog_110_method_6_code 1 = .ok (.ifCond .eq 18, 3) := by decide +kernel
theorem d1_4 : decode prog_110_method_6_code 4 = .ok (.aload_n 0, 1) := by decide +kernel
theorem d1_5 : decode prog_110_method_6_code 5 = .ok (.getstatic 7, 3) := by decide +kernel
theorem d1_8 : decode prog_110_method_6_code 8 = .ok (.if_acmp .eq 7, 3) := by decide +kernel
theorem d1_11 : decode prog_110_method_6_code 11 = .ok (.iconst 1, 1) := by decide +kernel
theorem d1_12 : decode prog_110_method_6_code 12 = .ok (.goto 19, 3) := by decide +kernel
theorem d1_15 : decode prog_110_method_6_code 15 = .ok (.iconst 0, 1) := by decide +kernel
theorem d1_16 : decode prog_110_method_6_code 16 = .ok (.goto 15, 3) := by decide +kernel
theorem d1_19 : decode prog_110_method_6_code 19 = .ok (.aload_n 0, 1) := by decide +kernel
theorem d1_20 : decode prog_110_method_6_code 20 = .ok (.getstatic 3, 3) := by decide +kernel
theorem d1_23 : decode prog_110_method_6_code 23 = .ok (.if_acmp .eq 7, 3) := by decide +kernel
theorem d1_26 : decode prog_110_method_6_code 26 = .ok (.iconst 1, 1) := by decide +kernel
theorem d1_27 : decode prog_110_method_6_code 27 = .ok (.goto 4, 3) := by decide +kernel
theorem d1_30 : decode prog_110_method_6_code 30 = .ok (.iconst 0, 1) := by decide +kernel
theorem d1_31 : decode prog_110_method_6_code 31 = .ok (.ireturn, 1) := by decide +kernel
theorem pn1 : plainName "com/example/mortise/mortise/schema/Facets$ExplicitTimezone" = true := by first | (simp [plainName, overriddenIn]; done) | decide +kernel
theorem ef1 (m : MethodId) (a : Addr) (z0 : Int32) : entryFrame m #[(.ref a), (.int z0)] 2 = mkF m 0 #[.val (.ref a), .val (.int z0)] [] := by first | (simp [entryFrame, mkF, argsToLocals, Value.category]; done) | rfl
def Q1 (Z : State) (a : Addr) (z0 : Int32) (a_REQUIRED : Addr) (a_PROHIBITED : Addr) (h0 : Heap) (n0 : Nat) (v : Option Value) (h : Heap) (L : List Loc) : Prop := v = some (.int (own_adm z0 a a_PROHIBITED a_REQUIRED)) ∧ Fr n0 L ∧ h = h0
set_option maxRecDepth 65536 in
set_option maxHeartbeats 40000000 in
theorem rm1 (l : Launch) (Z : State) (a0 : Array Value) (hw : ∀ d ∈ tables_1, d.before a0 Z = true) (ws : List Jvm.Cond) (a : Addr) (z0 : Int32) (a_REQUIRED : Addr) (a_PROHIBITED : Addr) (h0 : Heap) (n0 : Nat) (Z0 : n0 ≤ h0.size) (S_REQUIRED : Sta Z h0 "com/example/mortise/mortise/schema/Facets$ExplicitTimezone" "REQUIRED" "Lcom/example/mortise/mortise/schema/Facets$ExplicitTimezone;" (.ref a_REQUIRED)) (S_PROHIBITED : Sta Z h0 "com/example/mortise/mortise/schema/Facets$ExplicitTimezone" "PROHIBITED" "Lcom/example/mortise/mortise/schema/Facets$ExplicitTimezone;" (.ref a_PROHIBITED)) :
    MetFree l (⟨"com/example/mortise/mortise/schema/Facets$ExplicitTimezone", "admits", "(Z)Z"⟩ : MethodName) (head1 (Jvm.Cond.code (⟨"com/example/mortise/mortise/schema/Facets$ExplicitTimezone", "admits", "(Z)Z"⟩ : MethodName) prog_110_method_6_code 2 (some .boolean) :: ws) ({ frames := 0, cells := 0, slots := 0, locals := 0 } : Room)) (fun ar_ U => ar_ = #[(.ref a), (.int z0)] ∧ Z.Warmed39 U.vm ∧ U.heap = h0) (fun _ _ _ _ _ => True) (fun _ U o U' => ∃ v L, o = .returned v ∧ Q1 Z a z0 a_REQUIRED a_PROHIBITED h0 n0 v U'.heap L ∧ FrameEnd U o U' L ({ frames := 0, cells := 0, slots := 0, locals := 0 } : Room).cells ({ frames := 0, cells := 0, slots := 0, locals := 0 } : Room).slots) := by
  refine MetFree.of_bodySF (plainFor_of_name pn1) hisR ?_
  intro p e s m args below meth c s₁ Bd hml0 hP hK
  obtain ⟨rfl, hZ, hh⟩ := hP
  have hx := Bd.exec
  have hby := Bd.bytes
  have hml : c.maxLocals = 2 := hml0
  have hown : s.vm.findClass "com/example/mortise/mortise/schema/Facets$ExplicitTimezone" = some m.cls := findClass_of_methodNamed Bd.named
  have hnm := (name_of_methodNamed Bd.named Bd.method).1
  have X0 : Stand p l e ({ frames := 0, cells := 0, slots := 0, locals := 0 } : Room) s m #[(.ref a), (.int z0)] below meth c s₁ [] 0 0 := Stand.of_body Bd
  have e0 : s₁.heap = h0 := by rw [← hh, Bd.state]; rfl
  have N0 := Fr.nil n0
  show OFin p e below s _ _ (Q1 Z a z0 a_REQUIRED a_PROHIBITED h0 n0) (s₁.setTop (entryFrame m #[(.ref a), (.int z0)] 2))
  rw [ef1]
  obtain ⟨Q, hQ⟩ : ∃ Q, Q = Q1 Z a z0 a_REQUIRED a_PROHIBITED h0 n0 := ⟨_, rfl⟩
  rw [← hQ]
  show OFin p e below s _ _ Q (s₁.setTop (mkF m 0 #[.val (.ref a), .val (.int z0)] []))
  refine OFin.back (fun _ hr => XS.iloadN X0.here hx rfl (hb hby d1_0) rfl hr) ?_
  show OFin p e below s _ _ Q (s₁.setTop (mkF m 1 #[.val (.ref a), .val (.int z0)] [(.int z0)]))
  by_cases hc1_1 : z0 = (0 : Int32)
  · -- z0 = (0 : Int32)
    refine OFin.back (fun _ hr => XS.ifYes X0.here hx rfl (pc0 := 1) (pc' := 19) rfl (hb hby d1_1) rfl ((if0 _ _).trans (teq hc1_1).1) (by decide) (by decide) hr) ?_
    show OFin p e below s _ _ Q (s₁.setTop (mkF m 19 #[.val (.ref a), .val (.int z0)] []))
    refine OFin.back (fun _ hr => XS.aloadN X0.here hx rfl (hb hby d1_19) rfl rfl hr) ?_
    show OFin p e below s _ _ Q (s₁.setTop (mkF m 20 #[.val (.ref a), .val (.int z0)] [(.ref a)]))
    obtain ⟨T2, X2, e2, st2⟩ := getS2 X0 hx hZ hown (host := "") (Or.inl (hw _ (List.mem_of_getElem? (i := 13) rfl))) Via.refl e0 S_REQUIRED (g := (mkF m 20 #[.val (.ref a), .val (.int z0)] [(.ref a)])) rfl (hb hby d1_20)
    refine OFin.back st2 ?_
    show OFin p e below s _ _ Q (T2.setTop (mkF m 23 #[.val (.ref a), .val (.int z0)] [(.ref a_REQUIRED), (.ref a)]))
    by_cases ha23_3 : a = a_REQUIRED
    · -- same
      refine OFin.back (fun _ hr => Jvm.RoadKit.acmp (g := (mkF m 23 #[.val (.ref a), .val (.int z0)] [(.ref a_REQUIRED), (.ref a)])) X2 hx rfl rfl rfl (pc0 := 23) (pc' := 30) (same := true) rfl (hb hby d1_23) rfl (decide_eq_true (congrArg Value.ref ha23_3)) (by decide) (by decide) hr) ?_
      show OFin p e below s _ _ Q (T2.setTop (mkF m 30 #[.val (.ref a), .val (.int z0)] []))
      refine OFin.back (fun _ hr => XS.iconst X2.here hx rfl (hb hby d1_30) hr) ?_
      show OFin p e below s _ _ Q (T2.setTop (mkF m 31 #[.val (.ref a), .val (.int z0)] [(.int (0 : Int32))]))
      exact OFin.outN (t := .boolean) X2 hx Bd.returns (by simp) Bd.notSynchronized (hb hby d1_31) (by decide) (by decide) e2 (by rw [hQ]; exact ⟨by rw [show own_adm z0 a a_PROHIBITED a_REQUIRED = (0 : Int32) from by simp [own_adm, hc1_1, ha23_3]]; rfl, N0, rfl⟩)
    · -- not same
      refine OFin.back (fun _ hr => Jvm.RoadKit.acmp (g := (mkF m 23 #[.val (.ref a), .val (.int z0)] [(.ref a_REQUIRED), (.ref a)])) X2 hx rfl rfl rfl (pc0 := 23) (pc' := 26) (same := false) rfl (hb hby d1_23) rfl (decide_eq_false fun q => ha23_3 (Value.ref.inj q)) (by decide) (by decide) hr) ?_
      show OFin p e below s _ _ Q (T2.setTop (mkF m 26 #[.val (.ref a), .val (.int z0)] []))
      refine OFin.back (fun _ hr => XS.iconst X2.here hx rfl (hb hby d1_26) hr) ?_
      show OFin p e below s _ _ Q (T2.setTop (mkF m 27 #[.val (.ref a), .val (.int z0)] [(.int (1 : Int32))]))
      refine OFin.back (fun _ hr => XS.goto X2.here hx rfl (pc0 := 27) (pc' := 31) rfl (hb hby d1_27) (by decide) (by decide) hr) ?_
      show OFin p e below s _ _ Q (T2.setTop (mkF m 31 #[.val (.ref a), .val (.int z0)] [(.int (1 : Int32))]))
      exact OFin.outN (t := .boolean) X2 hx Bd.returns (by simp) Bd.notSynchronized (hb hby d1_31) (by decide) (by decide) e2 (by rw [hQ]; exact ⟨by rw [show own_adm z0 a a_PROHIBITED a_REQUIRED = (1 : Int32) from by simp [own_adm, hc1_1, ha23_3]]; rfl, N0, rfl⟩)
  · -- not z0 = (0 : Int32)
    refine OFin.back (fun _ hr => XS.ifNo X0.here hx rfl (hb hby d1_1) rfl ((if0 _ _).trans (feq hc1_1).1) hr) ?_
    show OFin p e below s _ _ Q (s₁.setTop (mkF m 4 #[.val (.ref a), .val (.int z0)] []))
    refine OFin.back (fun _ hr => XS.aloadN X0.here hx rfl (hb hby d1_4) rfl rfl hr) ?_
    show OFin p e below s _ _ Q (s₁.setTop (mkF m 5 #[.val (.ref a), .val (.int z0)] [(.ref a)]))
    obtain ⟨T4, X4, e4, st4⟩ := getS2 X0 hx hZ hown (host := "") (Or.inl (hw _ (List.mem_of_getElem? (i := 9) rfl))) Via.refl e0 S_PROHIBITED (g := (mkF m 5 #[.val (.ref a), .val (.int z0)] [(.ref a)])) rfl (hb hby d1_5)
    refine OFin.back st4 ?_
    show OFin p e below s _ _ Q (T4.setTop (mkF m 8 #[.val (.ref a), .val (.int z0)] [(.ref a_PROHIBITED), (.ref a)]))
    by_cases ha8_5 : a = a_PROHIBITED
    · -- same
      refine OFin.back (fun _ hr => Jvm.RoadKit.acmp (g := (mkF m 8 #[.val (.ref a), .val (.int z0)] [(.ref a_PROHIBITED), (.ref a)])) X4 hx rfl rfl rfl (pc0 := 8) (pc' := 15) (same := true) rfl (hb hby d1_8) rfl (decide_eq_true (congrArg Value.ref ha8_5)) (by decide) (by decide) hr) ?_
      show OFin p e below s _ _ Q (T4.setTop (mkF m 15 #[.val (.ref a), .val (.int z0)] []))
      refine OFin.back (fun _ hr => XS.iconst X4.here hx rfl (hb hby d1_15) hr) ?_
      show OFin p e below s _ _ Q (T4.setTop (mkF m 16 #[.val (.ref a), .val (.int z0)] [(.int (0 : Int32))]))
      refine OFin.back (fun _ hr => XS.goto X4.here hx rfl (pc0 := 16) (pc' := 31) rfl (hb hby d1_16) (by decide) (by decide) hr) ?_
      show OFin p e below s _ _ Q (T4.setTop (mkF m 31 #[.val (.ref a), .val (.int z0)] [(.int (0 : Int32))]))
      exact OFin.outN (t := .boolean) X4 hx Bd.returns (by simp) Bd.notSynchronized (hb hby d1_31) (by decide) (by decide) e4 (by rw [hQ]; exact ⟨by rw [show own_adm z0 a a_PROHIBITED a_REQUIRED = (0 : Int32) from by simp [own_adm, hc1_1, ha8_5]]; rfl, N0, rfl⟩)
    · -- not same
      refine OFin.back (fun _ hr => Jvm.RoadKit.acmp (g := (mkF m 8 #[.val (.ref a), .val (.int z0)] [(.ref a_PROHIBITED), (.ref a)])) X4 hx rfl rfl rfl (pc0 := 8) (pc' := 11) (same := false) rfl (hb hby d1_8) rfl (decide_eq_false fun q => ha8_5 (Value.ref.inj q)) (by decide) (by decide) hr) ?_
      show OFin p e below s _ _ Q (T4.setTop (mkF m 11 #[.val (.ref a), .val (.int z0)] []))
      refine OFin.back (fun _ hr => XS.iconst X4.here hx rfl (hb hby d1_11) hr) ?_
      show OFin p e below s _ _ Q (T4.setTop (mkF m 12 #[.val (.ref a), .val (.int z0)] [(.int (1 : Int32))]))
      refine OFin.back (fun _ hr => XS.goto X4.here hx rfl (pc0 := 12) (pc' := 31) rfl (hb hby d1_12) (by decide) (by decide) hr) ?_
      show OFin p e below s _ _ Q (T4.setTop (mkF m 31 #[.val (.ref a), .val (.int z0)] [(.int (1 : Int32))]))
      exact OFin.outN (t := .boolean) X4 hx Bd.returns (by simp) Bd.notSynchronized (hb hby d1_31) (by decide) (by decide) e4 (by rw [hQ]; exact ⟨by rw [show own_adm z0 a a_PROHIBITED a_REQUIRED = (1 : Int32) from by simp [own_adm, hc1_1, ha8_5]]; rfl, N0, rfl⟩)
theorem pn0 : plainName "com/example/mortise/mortise/schema/ExplicitTimezoneAdmitsPinLaw" = true := by first | (simp [plainName, overriddenIn]; done) | decide +kernel
theorem pd0_0 : parseMethodDescriptor "(Z)Z" = some ⟨[.boolean], some .boolean⟩ := by decide +kernel
theorem ef0 (m : MethodId) (wh : Int32) (fl : Int32) : entryFrame m #[(.int wh), (.int fl)] maxLocals = mkF m 0 #[.val (.int wh), .val (.int fl), .unset, .unset, .unset, .unset] [] := by first | (simp [entryFrame, mkF, argsToLocals, Value.category, maxLocals]; done) | rfl
def Q0 (Z : State) (wh : Int32) (fl : Int32) (a_REQUIRED : Addr) (a_PROHIBITED : Addr) (a_OPTIONAL : Addr) (h0 : Heap) (n0 : Nat) (v : Option Value) (h : Heap) (L : List Loc) : Prop := v = some (.int 1) ∧ Fr n0 L
set_option maxRecDepth 65536 in
set_option maxHeartbeats 40000000 in
theorem rm0 (l : Launch) (Z : State) (a0 : Array Value) (hw : ∀ d ∈ tables_1, d.before a0 Z = true) (ws : List Jvm.Cond) (wh : Int32) (fl : Int32) (a_REQUIRED : Addr) (a_PROHIBITED : Addr) (a_OPTIONAL : Addr) (h0 : Heap) (n0 : Nat) (Z0 : n0 ≤ h0.size) (S_REQUIRED : Sta Z h0 "com/example/mortise/mortise/schema/Facets$ExplicitTimezone" "REQUIRED" "Lcom/example/mortise/mortise/schema/Facets$ExplicitTimezone;" (.ref a_REQUIRED)) (E_REQUIRED : Exa Z h0 a_REQUIRED "com/example/mortise/mortise/schema/Facets$ExplicitTimezone") (S_PROHIBITED : Sta Z h0 "com/example/mortise/mortise/schema/Facets$ExplicitTimezone" "PROHIBITED" "Lcom/example/mortise/mortise/schema/Facets$ExplicitTimezone;" (.ref a_PROHIBITED)) (E_PROHIBITED : Exa Z h0 a_PROHIBITED "com/example/mortise/mortise/schema/Facets$ExplicitTimezone") (S_OPTIONAL : Sta Z h0 "com/example/mortise/mortise/schema/Facets$ExplicitTimezone" "OPTIONAL" "Lcom/example/mortise/mortise/schema/Facets$ExplicitTimezone;" (.ref a_OPTIONAL)) (E_OPTIONAL : Exa Z h0 a_OPTIONAL "com/example/mortise/mortise/schema/Facets$ExplicitTimezone") (n1 : a_REQUIRED ≠ a_PROHIBITED) (n2 : a_PROHIBITED ≠ a_REQUIRED) (n3 : a_OPTIONAL ≠ a_PROHIBITED) (n4 : a_OPTIONAL ≠ a_REQUIRED) :
    MetFree l x (head1 (Jvm.Cond.code x code maxLocals ret :: ws) room_1) (fun ar_ U => ar_ = #[(.int wh), (.int fl)] ∧ Z.Warmed39 U.vm ∧ U.heap = h0) (fun _ _ _ _ _ => True) (fun _ U o U' => ∃ v L, o = .returned v ∧ Q0 Z wh fl a_REQUIRED a_PROHIBITED a_OPTIONAL h0 n0 v U'.heap L ∧ FrameEnd U o U' L room_1.cells room_1.slots) := by
  refine MetFree.of_bodySF (plainFor_of_name pn0) hisR ?_
  intro p e s m args below meth c s₁ Bd hml0 hP hK
  obtain ⟨rfl, hZ, hh⟩ := hP
  have hx := Bd.exec
  have hby := Bd.bytes
  have hml : c.maxLocals = 6 := hml0
  have hown : s.vm.findClass "com/example/mortise/mortise/schema/ExplicitTimezoneAdmitsPinLaw" = some m.cls := findClass_of_methodNamed Bd.named
  have hnm := (name_of_methodNamed Bd.named Bd.method).1
  have X0 : Stand p l e room_1 s m #[(.int wh), (.int fl)] below meth c s₁ [] 0 0 := Stand.of_body Bd
  have e0 : s₁.heap = h0 := by rw [← hh, Bd.state]; rfl
  have N0 := Fr.nil n0
  show OFin p e below s _ _ (Q0 Z wh fl a_REQUIRED a_PROHIBITED a_OPTIONAL h0 n0) (s₁.setTop (entryFrame m #[(.int wh), (.int fl)] maxLocals))
  rw [ef0]
  obtain ⟨Q, hQ⟩ : ∃ Q, Q = Q0 Z wh fl a_REQUIRED a_PROHIBITED a_OPTIONAL h0 n0 := ⟨_, rfl⟩
  rw [← hQ]
  show OFin p e below s _ _ Q (s₁.setTop (mkF m 0 #[.val (.int wh), .val (.int fl), .unset, .unset, .unset, .unset] []))
  refine OFin.back (fun _ hr => XS.iloadN X0.here hx rfl (hb hby at_0) rfl hr) ?_
  show OFin p e below s _ _ Q (s₁.setTop (mkF m 1 #[.val (.int wh), .val (.int fl), .unset, .unset, .unset, .unset] [(.int wh)]))
  refine OFin.back (X0.ldcInt hx hown (mvT hZ (hw _ (List.mem_of_getElem? (i := 0) rfl))) (g := (mkF m 1 #[.val (.int wh), .val (.int fl), .unset, .unset, .unset, .unset] [(.int wh)])) rfl (hb hby at_1)) ?_
  show OFin p e below s _ _ Q (s₁.setTop (mkF m 3 #[.val (.int wh), .val (.int fl), .unset, .unset, .unset, .unset] [(.int (2147483647 : Int32)), (.int wh)]))
  refine OFin.back (fun _ hr => XS.iand X0.here hx rfl (hb hby at_3) rfl hr) ?_
  show OFin p e below s _ _ Q (s₁.setTop (mkF m 4 #[.val (.int wh), .val (.int fl), .unset, .unset, .unset, .unset] [(.int (wh &&& (2147483647 : Int32)))]))
  refine OFin.back (fun _ hr => XS.iconst X0.here hx rfl (hb hby at_4) hr) ?_
  show OFin p e below s _ _ Q (s₁.setTop (mkF m 5 #[.val (.int wh), .val (.int fl), .unset, .unset, .unset, .unset] [(.int (3 : Int32)), (.int (wh &&& (2147483647 : Int32)))]))
  refine OFin.back (fun _ hr => iremM (g := (mkF m 5 #[.val (.int wh), .val (.int fl), .unset, .unset, .unset, .unset] [(.int (3 : Int32)), (.int (wh &&& (2147483647 : Int32)))])) X0 hx rfl (hb hby at_5) rfl (by decide) hr) ?_
  show OFin p e below s _ _ Q (s₁.setTop (mkF m 6 #[.val (.int wh), .val (.int fl), .unset, .unset, .unset, .unset] [(.int ((wh &&& (2147483647 : Int32)) % (3 : Int32)))]))
  refine OFin.back (fun _ hr => XS.istoreN X0.here hx rfl (hb hby at_6) rfl (l' := #[.val (.int wh), .val (.int fl), .val (.int ((wh &&& (2147483647 : Int32)) % (3 : Int32))), .unset, .unset, .unset]) rfl hr) ?_
  show OFin p e below s _ _ Q (s₁.setTop (mkF m 7 #[.val (.int wh), .val (.int fl), .val (.int ((wh &&& (2147483647 : Int32)) % (3 : Int32))), .unset, .unset, .unset] []))
  rcases (own_mod3 wh) with hk1_0 | hk1_1 | hk1_2
  · rw [hk1_0]
    refine OFin.back (fun _ hr => XS.iloadN X0.here hx rfl (hb hby at_7) rfl hr) ?_
    show OFin p e below s _ _ Q (s₁.setTop (mkF m 8 #[.val (.int wh), .val (.int fl), .val (.int (0 : Int32)), .unset, .unset, .unset] [(.int fl)]))
    refine OFin.back (fun _ hr => XS.iconst X0.here hx rfl (hb hby at_8) hr) ?_
    show OFin p e below s _ _ Q (s₁.setTop (mkF m 9 #[.val (.int wh), .val (.int fl), .val (.int (0 : Int32)), .unset, .unset, .unset] [(.int (1 : Int32)), (.int fl)]))
    refine OFin.back (fun _ hr => XS.iand X0.here hx rfl (hb hby at_9) rfl hr) ?_
    show OFin p e below s _ _ Q (s₁.setTop (mkF m 10 #[.val (.int wh), .val (.int fl), .val (.int (0 : Int32)), .unset, .unset, .unset] [(.int (fl &&& (1 : Int32)))]))
    by_cases hc10_2 : (fl &&& (1 : Int32)) = (0 : Int32)
    · -- (fl &&& (1 : Int32)) = (0 : Int32)
      refine OFin.back (fun _ hr => XS.ifYes X0.here hx rfl (pc0 := 10) (pc' := 17) rfl (hb hby at_10) rfl ((if0 _ _).trans (teq hc10_2).1) (by decide) (by decide) hr) ?_
      show OFin p e below s _ _ Q (s₁.setTop (mkF m 17 #[.val (.int wh), .val (.int fl), .val (.int (0 : Int32)), .unset, .unset, .unset] []))
      refine OFin.back (fun _ hr => XS.iconst X0.here hx rfl (hb hby at_17) hr) ?_
      show OFin p e below s _ _ Q (s₁.setTop (mkF m 18 #[.val (.int wh), .val (.int fl), .val (.int (0 : Int32)), .unset, .unset, .unset] [(.int (0 : Int32))]))
      refine OFin.back (fun _ hr => XS.istoreN X0.here hx rfl (hb hby at_18) rfl (l' := #[.val (.int wh), .val (.int fl), .val (.int (0 : Int32)), .val (.int (0 : Int32)), .unset, .unset]) rfl hr) ?_
      show OFin p e below s _ _ Q (s₁.setTop (mkF m 19 #[.val (.int wh), .val (.int fl), .val (.int (0 : Int32)), .val (.int (0 : Int32)), .unset, .unset] []))
      refine OFin.back (fun _ hr => XS.iloadN X0.here hx rfl (hb hby at_19) rfl hr) ?_
      show OFin p e below s _ _ Q (s₁.setTop (mkF m 20 #[.val (.int wh), .val (.int fl), .val (.int (0 : Int32)), .val (.int (0 : Int32)), .unset, .unset] [(.int (0 : Int32))]))
      refine OFin.back (fun _ hr => XS.ifNo X0.here hx rfl (hb hby at_20) rfl ((if0 _ _).trans (teq (by decide : (0 : Int32) = (0 : Int32))).2) hr) ?_
      show OFin p e below s _ _ Q (s₁.setTop (mkF m 23 #[.val (.int wh), .val (.int fl), .val (.int (0 : Int32)), .val (.int (0 : Int32)), .unset, .unset] []))
      obtain ⟨T3, X3, e3, st3⟩ := getS2 X0 hx hZ hown (host := "") (Or.inl (hw _ (List.mem_of_getElem? (i := 1) rfl))) Via.refl e0 S_REQUIRED (g := (mkF m 23 #[.val (.int wh), .val (.int fl), .val (.int (0 : Int32)), .val (.int (0 : Int32)), .unset, .unset] [])) rfl (hb hby at_23)
      refine OFin.back st3 ?_
      show OFin p e below s _ _ Q (T3.setTop (mkF m 26 #[.val (.int wh), .val (.int fl), .val (.int (0 : Int32)), .val (.int (0 : Int32)), .unset, .unset] [(.ref a_REQUIRED)]))
      refine OFin.back (fun _ hr => XS.astore X3.here hx rfl (hb hby at_26) rfl rfl (l' := #[.val (.int wh), .val (.int fl), .val (.int (0 : Int32)), .val (.int (0 : Int32)), .val (.ref a_REQUIRED), .unset]) rfl hr) ?_
      show OFin p e below s _ _ Q (T3.setTop (mkF m 28 #[.val (.int wh), .val (.int fl), .val (.int (0 : Int32)), .val (.int (0 : Int32)), .val (.ref a_REQUIRED), .unset] []))
      refine OFin.back (fun _ hr => XS.goto X3.here hx rfl (pc0 := 28) (pc' := 49) rfl (hb hby at_28) (by decide) (by decide) hr) ?_
      show OFin p e below s _ _ Q (T3.setTop (mkF m 49 #[.val (.int wh), .val (.int fl), .val (.int (0 : Int32)), .val (.int (0 : Int32)), .val (.ref a_REQUIRED), .unset] []))
      refine OFin.back (fun _ hr => XS.iloadN X3.here hx rfl (hb hby at_49) rfl hr) ?_
      show OFin p e below s _ _ Q (T3.setTop (mkF m 50 #[.val (.int wh), .val (.int fl), .val (.int (0 : Int32)), .val (.int (0 : Int32)), .val (.ref a_REQUIRED), .unset] [(.int (0 : Int32))]))
      refine OFin.back (fun _ hr => XS.ifNo X3.here hx rfl (hb hby at_50) rfl ((if0 _ _).trans (teq (by decide : (0 : Int32) = (0 : Int32))).2) hr) ?_
      show OFin p e below s _ _ Q (T3.setTop (mkF m 53 #[.val (.int wh), .val (.int fl), .val (.int (0 : Int32)), .val (.int (0 : Int32)), .val (.ref a_REQUIRED), .unset] []))
      refine OFin.back (fun _ hr => XS.iloadN X3.here hx rfl (hb hby at_53) rfl hr) ?_
      show OFin p e below s _ _ Q (T3.setTop (mkF m 54 #[.val (.int wh), .val (.int fl), .val (.int (0 : Int32)), .val (.int (0 : Int32)), .val (.ref a_REQUIRED), .unset] [(.int (0 : Int32))]))
      refine OFin.back (fun _ hr => XS.istore X3.here hx rfl (hb hby at_54) rfl (l' := #[.val (.int wh), .val (.int fl), .val (.int (0 : Int32)), .val (.int (0 : Int32)), .val (.ref a_REQUIRED), .val (.int (0 : Int32))]) rfl hr) ?_
      show OFin p e below s _ _ Q (T3.setTop (mkF m 56 #[.val (.int wh), .val (.int fl), .val (.int (0 : Int32)), .val (.int (0 : Int32)), .val (.ref a_REQUIRED), .val (.int (0 : Int32))] []))
      refine OFin.back (fun _ hr => XS.goto X3.here hx rfl (pc0 := 56) (pc' := 81) rfl (hb hby at_56) (by decide) (by decide) hr) ?_
      show OFin p e below s _ _ Q (T3.setTop (mkF m 81 #[.val (.int wh), .val (.int fl), .val (.int (0 : Int32)), .val (.int (0 : Int32)), .val (.ref a_REQUIRED), .val (.int (0 : Int32))] []))
      refine OFin.back (fun _ hr => XS.aload X3.here hx rfl (hb hby at_81) rfl rfl hr) ?_
      show OFin p e below s _ _ Q (T3.setTop (mkF m 83 #[.val (.int wh), .val (.int fl), .val (.int (0 : Int32)), .val (.int (0 : Int32)), .val (.ref a_REQUIRED), .val (.int (0 : Int32))] [(.ref a_REQUIRED)]))
      refine OFin.back (fun _ hr => XS.iloadN X3.here hx rfl (hb hby at_83) rfl hr) ?_
      show OFin p e below s _ _ Q (T3.setTop (mkF m 84 #[.val (.int wh), .val (.int fl), .val (.int (0 : Int32)), .val (.int (0 : Int32)), .val (.ref a_REQUIRED), .val (.int (0 : Int32))] [(.int (0 : Int32)), (.ref a_REQUIRED)]))
      obtain ⟨cq4, kq4, q4a, q4b, q4c⟩ := isOf hZ e3 E_REQUIRED
      obtain ⟨_, _, ⟨T4, L4, k4, n4⟩, -, X4, ⟨Lc4, hQ4, l4, y4, z4⟩, st4⟩ := X3.virtualBack hx (y := (⟨"com/example/mortise/mortise/schema/Facets$ExplicitTimezone", "admits", "(Z)Z"⟩ : MethodName)) (z := (⟨"com/example/mortise/mortise/schema/Facets$ExplicitTimezone", "admits", "(Z)Z"⟩ : MethodName)) hown (mvT hZ (hw _ (List.mem_of_getElem? (i := 4) rfl))) (mvT hZ (hw _ (List.mem_of_getElem? (i := 5) rfl))) (notFace_of_selects (args := #[]) (mvT hZ (hw _ (List.mem_of_getElem? (i := 7) rfl)))) (mvT hZ (hw _ (List.mem_of_getElem? (i := 7) rfl))) (mvT hZ (hw _ (List.mem_of_getElem? (i := 6) rfl))) (by decide) (backOf (W := 0) (rm1 l Z a0 hw [] a_REQUIRED (0 : Int32) a_REQUIRED a_PROHIBITED h0 n0 Z0 S_REQUIRED S_PROHIBITED) hZ (hw _ (List.mem_of_getElem? (i := 8) rfl)) (hw _ (List.mem_of_getElem? (i := 2) rfl)) (by decide) (by decide)) q4a q4c (g := (mkF m 84 #[.val (.int wh), .val (.int fl), .val (.int (0 : Int32)), .val (.int (0 : Int32)), .val (.ref a_REQUIRED), .val (.int (0 : Int32))] [(.int (0 : Int32)), (.ref a_REQUIRED)])) rfl (by rw [hml]; rfl) (Steps.refl _) (argsL := [(.int (0 : Int32))]) (rest := []) (lenOf pd0_0 rfl) rfl (by show 2 * 0 + _ ≤ _; exact Nat.le_of_eq rfl) (hb hby at_84) (fun _ _ => ⟨rfl, e3, (by decide : 0 + 0 ≤ _), (by decide : 0 + 0 ≤ _)⟩)
      dsimp only [Pt.U, Pt.locs, Pt.cells, Pt.slots] at X4 l4 y4 z4 st4 hQ4
      subst l4 y4 z4
      obtain ⟨rfl, N4q, e4⟩ := hQ4
      have N4 := Fr.app N0 N4q
      refine OFin.via st4 ?_
      rw [show (own_adm (0 : Int32) a_REQUIRED a_PROHIBITED a_REQUIRED) = (0 : Int32) from by simp [own_adm, n1, n2, n3, n4]]
      show OFin p e below s _ _ Q (T4.setTop (mkF m 87 #[.val (.int wh), .val (.int fl), .val (.int (0 : Int32)), .val (.int (0 : Int32)), .val (.ref a_REQUIRED), .val (.int (0 : Int32))] [(.int (0 : Int32))]))
      refine OFin.back (fun _ hr => XS.iload X4.here hx rfl (hb hby at_87) rfl hr) ?_
      show OFin p e below s _ _ Q (T4.setTop (mkF m 89 #[.val (.int wh), .val (.int fl), .val (.int (0 : Int32)), .val (.int (0 : Int32)), .val (.ref a_REQUIRED), .val (.int (0 : Int32))] [(.int (0 : Int32)), (.int (0 : Int32))]))
      refine OFin.back (fun _ hr => XS.icmpNo X4.here hx rfl (hb hby at_89) rfl (teq (by decide : (0 : Int32) = (0 : Int32))).2 hr) ?_
      show OFin p e below s _ _ Q (T4.setTop (mkF m 92 #[.val (.int wh), .val (.int fl), .val (.int (0 : Int32)), .val (.int (0 : Int32)), .val (.ref a_REQUIRED), .val (.int (0 : Int32))] []))
      refine OFin.back (fun _ hr => XS.iconst X4.here hx rfl (hb hby at_92) hr) ?_
      show OFin p e below s _ _ Q (T4.setTop (mkF m 93 #[.val (.int wh), .val (.int fl), .val (.int (0 : Int32)), .val (.int (0 : Int32)), .val (.ref a_REQUIRED), .val (.int (0 : Int32))] [(.int (1 : Int32))]))
      refine OFin.back (fun _ hr => XS.goto X4.here hx rfl (pc0 := 93) (pc' := 97) rfl (hb hby at_93) (by decide) (by decide) hr) ?_
      show OFin p e below s _ _ Q (T4.setTop (mkF m 97 #[.val (.int wh), .val (.int fl), .val (.int (0 : Int32)), .val (.int (0 : Int32)), .val (.ref a_REQUIRED), .val (.int (0 : Int32))] [(.int (1 : Int32))]))
      exact OFin.outN (t := .boolean) X4 hx Bd.returns (by simp) Bd.notSynchronized (hb hby at_97) (by decide) (by decide) e4 (by rw [hQ]; exact ⟨rfl, N4⟩)
    · -- not (fl &&& (1 : Int32)) = (0 : Int32)
      refine OFin.back (fun _ hr => XS.ifNo X0.here hx rfl (hb hby at_10) rfl ((if0 _ _).trans (feq hc10_2).1) hr) ?_
      show OFin p e below s _ _ Q (s₁.setTop (mkF m 13 #[.val (.int wh), .val (.int fl), .val (.int (0 : Int32)), .unset, .unset, .unset] []))
      refine OFin.back (fun _ hr => XS.iconst X0.here hx rfl (hb hby at_13) hr) ?_
      show OFin p e below s _ _ Q (s₁.setTop (mkF m 14 #[.val (.int wh), .val (.int fl), .val (.int (0 : Int32)), .unset, .unset, .unset] [(.int (1 : Int32))]))
      refine OFin.back (fun _ hr => XS.goto X0.here hx rfl (pc0 := 14) (pc' := 18) rfl (hb hby at_14) (by decide) (by decide) hr) ?_
      show OFin p e below s _ _ Q (s₁.setTop (mkF m 18 #[.val (.int wh), .val (.int fl), .val (.int (0 : Int32)), .unset, .unset, .unset] [(.int (1 : Int32))]))
      refine OFin.back (fun _ hr => XS.istoreN X0.here hx rfl (hb hby at_18) rfl (l' := #[.val (.int wh), .val (.int fl), .val (.int (0 : Int32)), .val (.int (1 : Int32)), .unset, .unset]) rfl hr) ?_
      show OFin p e below s _ _ Q (s₁.setTop (mkF m 19 #[.val (.int wh), .val (.int fl), .val (.int (0 : Int32)), .val (.int (1 : Int32)), .unset, .unset] []))
      refine OFin.back (fun _ hr => XS.iloadN X0.here hx rfl (hb hby at_19) rfl hr) ?_
      show OFin p e below s _ _ Q (s₁.setTop (mkF m 20 #[.val (.int wh), .val (.int fl), .val (.int (0 : Int32)), .val (.int (1 : Int32)), .unset, .unset] [(.int (0 : Int32))]))
      refine OFin.back (fun _ hr => XS.ifNo X0.here hx rfl (hb hby at_20) rfl ((if0 _ _).trans (teq (by decide : (0 : Int32) = (0 : Int32))).2) hr) ?_
      show OFin p e below s _ _ Q (s₁.setTop (mkF m 23 #[.val (.int wh), .val (.int fl), .val (.int (0 : Int32)), .val (.int (1 : Int32)), .unset, .unset] []))
      obtain ⟨T5, X5, e5, st5⟩ := getS2 X0 hx hZ hown (host := "") (Or.inl (hw _ (List.mem_of_getElem? (i := 1) rfl))) Via.refl e0 S_REQUIRED (g := (mkF m 23 #[.val (.int wh), .val (.int fl), .val (.int (0 : Int32)), .val (.int (1 : Int32)), .unset, .unset] [])) rfl (hb hby at_23)
      refine OFin.back st5 ?_
      show OFin p e below s _ _ Q (T5.setTop (mkF m 26 #[.val (.int wh), .val (.int fl), .val (.int (0 : Int32)), .val (.int (1 : Int32)), .unset, .unset] [(.ref a_REQUIRED)]))
      refine OFin.back (fun _ hr => XS.astore X5.here hx rfl (hb hby at_26) rfl rfl (l' := #[.val (.int wh), .val (.int fl), .val (.int (0 : Int32)), .val (.int (1 : Int32)), .val (.ref a_REQUIRED), .unset]) rfl hr) ?_
      show OFin p e below s _ _ Q (T5.setTop (mkF m 28 #[.val (.int wh), .val (.int fl), .val (.int (0 : Int32)), .val (.int (1 : Int32)), .val (.ref a_REQUIRED), .unset] []))
      refine OFin.back (fun _ hr => XS.goto X5.here hx rfl (pc0 := 28) (pc' := 49) rfl (hb hby at_28) (by decide) (by decide) hr) ?_
      show OFin p e below s _ _ Q (T5.setTop (mkF m 49 #[.val (.int wh), .val (.int fl), .val (.int (0 : Int32)), .val (.int (1 : Int32)), .val (.ref a_REQUIRED), .unset] []))
      refine OFin.back (fun _ hr => XS.iloadN X5.here hx rfl (hb hby at_49) rfl hr) ?_
      show OFin p e below s _ _ Q (T5.setTop (mkF m 50 #[.val (.int wh), .val (.int fl), .val (.int (0 : Int32)), .val (.int (1 : Int32)), .val (.ref a_REQUIRED), .unset] [(.int (0 : Int32))]))
      refine OFin.back (fun _ hr => XS.ifNo X5.here hx rfl (hb hby at_50) rfl ((if0 _ _).trans (teq (by decide : (0 : Int32) = (0 : Int32))).2) hr) ?_
      show OFin p e below s _ _ Q (T5.setTop (mkF m 53 #[.val (.int wh), .val (.int fl), .val (.int (0 : Int32)), .val (.int (1 : Int32)), .val (.ref a_REQUIRED), .unset] []))
      refine OFin.back (fun _ hr => XS.iloadN X5.here hx rfl (hb hby at_53) rfl hr) ?_
      show OFin p e below s _ _ Q (T5.setTop (mkF m 54 #[.val (.int wh), .val (.int fl), .val (.int (0 : Int32)), .val (.int (1 : Int32)), .val (.ref a_REQUIRED), .unset] [(.int (1 : Int32))]))
      refine OFin.back (fun _ hr => XS.istore X5.here hx rfl (hb hby at_54) rfl (l' := #[.val (.int wh), .val (.int fl), .val (.int (0 : Int32)), .val (.int (1 : Int32)), .val (.ref a_REQUIRED), .val (.int (1 : Int32))]) rfl hr) ?_
      show OFin p e below s _ _ Q (T5.setTop (mkF m 56 #[.val (.int wh), .val (.int fl), .val (.int (0 : Int32)), .val (.int (1 : Int32)), .val (.ref a_REQUIRED), .val (.int (1 : Int32))] []))
      refine OFin.back (fun _ hr => XS.goto X5.here hx rfl (pc0 := 56) (pc' := 81) rfl (hb hby at_56) (by decide) (by decide) hr) ?_
      show OFin p e below s _ _ Q (T5.setTop (mkF m 81 #[.val (.int wh), .val (.int fl), .val (.int (0 : Int32)), .val (.int (1 : Int32)), .val (.ref a_REQUIRED), .val (.int (1 : Int32))] []))
      refine OFin.back (fun _ hr => XS.aload X5.here hx rfl (hb hby at_81) rfl rfl hr) ?_
      show OFin p e below s _ _ Q (T5.setTop (mkF m 83 #[.val (.int wh), .val (.int fl), .val (.int (0 : Int32)), .val (.int (1 : Int32)), .val (.ref a_REQUIRED), .val (.int (1 : Int32))] [(.ref a_REQUIRED)]))
      refine OFin.back (fun _ hr => XS.iloadN X5.here hx rfl (hb hby at_83) rfl hr) ?_
      show OFin p e below s _ _ Q (T5.setTop (mkF m 84 #[.val (.int wh), .val (.int fl), .val (.int (0 : Int32)), .val (.int (1 : Int32)), .val (.ref a_REQUIRED), .val (.int (1 : Int32))] [(.int (1 : Int32)), (.ref a_REQUIRED)]))
      obtain ⟨cq6, kq6, q6a, q6b, q6c⟩ := isOf hZ e5 E_REQUIRED
      obtain ⟨_, _, ⟨T6, L6, k6, n6⟩, -, X6, ⟨Lc6, hQ6, l6, y6, z6⟩, st6⟩ := X5.virtualBack hx (y := (⟨"com/example/mortise/mortise/schema/Facets$ExplicitTimezone", "admits", "(Z)Z"⟩ : MethodName)) (z := (⟨"com/example/mortise/mortise/schema/Facets$ExplicitTimezone", "admits", "(Z)Z"⟩ : MethodName)) hown (mvT hZ (hw _ (List.mem_of_getElem? (i := 4) rfl))) (mvT hZ (hw _ (List.mem_of_getElem? (i := 5) rfl))) (notFace_of_selects (args := #[]) (mvT hZ (hw _ (List.mem_of_getElem? (i := 7) rfl)))) (mvT hZ (hw _ (List.mem_of_getElem? (i := 7) rfl))) (mvT hZ (hw _ (List.mem_of_getElem? (i := 6) rfl))) (by decide) (backOf (W := 0) (rm1 l Z a0 hw [] a_REQUIRED (1 : Int32) a_REQUIRED a_PROHIBITED h0 n0 Z0 S_REQUIRED S_PROHIBITED) hZ (hw _ (List.mem_of_getElem? (i := 8) rfl)) (hw _ (List.mem_of_getElem? (i := 2) rfl)) (by decide) (by decide)) q6a q6c (g := (mkF m 84 #[.val (.int wh), .val (.int fl), .val (.int (0 : Int32)), .val (.int (1 : Int32)), .val (.ref a_REQUIRED), .val (.int (1 : Int32))] [(.int (1 : Int32)), (.ref a_REQUIRED)])) rfl (by rw [hml]; rfl) (Steps.refl _) (argsL := [(.int (1 : Int32))]) (rest := []) (lenOf pd0_0 rfl) rfl (by show 2 * 0 + _ ≤ _; exact Nat.le_of_eq rfl) (hb hby at_84) (fun _ _ => ⟨rfl, e5, (by decide : 0 + 0 ≤ _), (by decide : 0 + 0 ≤ _)⟩)
      dsimp only [Pt.U, Pt.locs, Pt.cells, Pt.slots] at X6 l6 y6 z6 st6 hQ6
      subst l6 y6 z6
      obtain ⟨rfl, N6q, e6⟩ := hQ6
      have N6 := Fr.app N0 N6q
      refine OFin.via st6 ?_
      rw [show (own_adm (1 : Int32) a_REQUIRED a_PROHIBITED a_REQUIRED) = (1 : Int32) from by simp [own_adm, n1, n2, n3, n4]]
      show OFin p e below s _ _ Q (T6.setTop (mkF m 87 #[.val (.int wh), .val (.int fl), .val (.int (0 : Int32)), .val (.int (1 : Int32)), .val (.ref a_REQUIRED), .val (.int (1 : Int32))] [(.int (1 : Int32))]))
      refine OFin.back (fun _ hr => XS.iload X6.here hx rfl (hb hby at_87) rfl hr) ?_
      show OFin p e below s _ _ Q (T6.setTop (mkF m 89 #[.val (.int wh), .val (.int fl), .val (.int (0 : Int32)), .val (.int (1 : Int32)), .val (.ref a_REQUIRED), .val (.int (1 : Int32))] [(.int (1 : Int32)), (.int (1 : Int32))]))
      refine OFin.back (fun _ hr => XS.icmpNo X6.here hx rfl (hb hby at_89) rfl (teq (by decide : (1 : Int32) = (1 : Int32))).2 hr) ?_
      show OFin p e below s _ _ Q (T6.setTop (mkF m 92 #[.val (.int wh), .val (.int fl), .val (.int (0 : Int32)), .val (.int (1 : Int32)), .val (.ref a_REQUIRED), .val (.int (1 : Int32))] []))
      refine OFin.back (fun _ hr => XS.iconst X6.here hx rfl (hb hby at_92) hr) ?_
      show OFin p e below s _ _ Q (T6.setTop (mkF m 93 #[.val (.int wh), .val (.int fl), .val (.int (0 : Int32)), .val (.int (1 : Int32)), .val (.ref a_REQUIRED), .val (.int (1 : Int32))] [(.int (1 : Int32))]))
      refine OFin.back (fun _ hr => XS.goto X6.here hx rfl (pc0 := 93) (pc' := 97) rfl (hb hby at_93) (by decide) (by decide) hr) ?_
      show OFin p e below s _ _ Q (T6.setTop (mkF m 97 #[.val (.int wh), .val (.int fl), .val (.int (0 : Int32)), .val (.int (1 : Int32)), .val (.ref a_REQUIRED), .val (.int (1 : Int32))] [(.int (1 : Int32))]))
      exact OFin.outN (t := .boolean) X6 hx Bd.returns (by simp) Bd.notSynchronized (hb hby at_97) (by decide) (by decide) e6 (by rw [hQ]; exact ⟨rfl, N6⟩)
  · rw [hk1_1]
    refine OFin.back (fun _ hr => XS.iloadN X0.here hx rfl (hb hby at_7) rfl hr) ?_
    show OFin p e below s _ _ Q (s₁.setTop (mkF m 8 #[.val (.int wh), .val (.int fl), .val (.int (1 : Int32)), .unset, .unset, .unset] [(.int fl)]))
    refine OFin.back (fun _ hr => XS.iconst X0.here hx rfl (hb hby at_8) hr) ?_
    show OFin p e below s _ _ Q (s₁.setTop (mkF m 9 #[.val (.int wh), .val (.int fl), .val (.int (1 : Int32)), .unset, .unset, .unset] [(.int (1 : Int32)), (.int fl)]))
    refine OFin.back (fun _ hr => XS.iand X0.here hx rfl (hb hby at_9) rfl hr) ?_
    show OFin p e below s _ _ Q (s₁.setTop (mkF m 10 #[.val (.int wh), .val (.int fl), .val (.int (1 : Int32)), .unset, .unset, .unset] [(.int (fl &&& (1 : Int32)))]))
    by_cases hc10_7 : (fl &&& (1 : Int32)) = (0 : Int32)
    · -- (fl &&& (1 : Int32)) = (0 : Int32)
      refine OFin.back (fun _ hr => XS.ifYes X0.here hx rfl (pc0 := 10) (pc' := 17) rfl (hb hby at_10) rfl ((if0 _ _).trans (teq hc10_7).1) (by decide) (by decide) hr) ?_
      show OFin p e below s _ _ Q (s₁.setTop (mkF m 17 #[.val (.int wh), .val (.int fl), .val (.int (1 : Int32)), .unset, .unset, .unset] []))
      refine OFin.back (fun _ hr => XS.iconst X0.here hx rfl (hb hby at_17) hr) ?_
      show OFin p e below s _ _ Q (s₁.setTop (mkF m 18 #[.val (.int wh), .val (.int fl), .val (.int (1 : Int32)), .unset, .unset, .unset] [(.int (0 : Int32))]))
      refine OFin.back (fun _ hr => XS.istoreN X0.here hx rfl (hb hby at_18) rfl (l' := #[.val (.int wh), .val (.int fl), .val (.int (1 : Int32)), .val (.int (0 : Int32)), .unset, .unset]) rfl hr) ?_
      show OFin p e below s _ _ Q (s₁.setTop (mkF m 19 #[.val (.int wh), .val (.int fl), .val (.int (1 : Int32)), .val (.int (0 : Int32)), .unset, .unset] []))
      refine OFin.back (fun _ hr => XS.iloadN X0.here hx rfl (hb hby at_19) rfl hr) ?_
      show OFin p e below s _ _ Q (s₁.setTop (mkF m 20 #[.val (.int wh), .val (.int fl), .val (.int (1 : Int32)), .val (.int (0 : Int32)), .unset, .unset] [(.int (1 : Int32))]))
      refine OFin.back (fun _ hr => XS.ifYes X0.here hx rfl (pc0 := 20) (pc' := 31) rfl (hb hby at_20) rfl ((if0 _ _).trans (feq (by decide : ¬ ((1 : Int32) = (0 : Int32)))).2) (by decide) (by decide) hr) ?_
      show OFin p e below s _ _ Q (s₁.setTop (mkF m 31 #[.val (.int wh), .val (.int fl), .val (.int (1 : Int32)), .val (.int (0 : Int32)), .unset, .unset] []))
      refine OFin.back (fun _ hr => XS.iloadN X0.here hx rfl (hb hby at_31) rfl hr) ?_
      show OFin p e below s _ _ Q (s₁.setTop (mkF m 32 #[.val (.int wh), .val (.int fl), .val (.int (1 : Int32)), .val (.int (0 : Int32)), .unset, .unset] [(.int (1 : Int32))]))
      refine OFin.back (fun _ hr => XS.iconst X0.here hx rfl (hb hby at_32) hr) ?_
      show OFin p e below s _ _ Q (s₁.setTop (mkF m 33 #[.val (.int wh), .val (.int fl), .val (.int (1 : Int32)), .val (.int (0 : Int32)), .unset, .unset] [(.int (1 : Int32)), (.int (1 : Int32))]))
      refine OFin.back (fun _ hr => XS.icmpNo X0.here hx rfl (hb hby at_33) rfl (teq (by decide : (1 : Int32) = (1 : Int32))).2 hr) ?_
      show OFin p e below s _ _ Q (s₁.setTop (mkF m 36 #[.val (.int wh), .val (.int fl), .val (.int (1 : Int32)), .val (.int (0 : Int32)), .unset, .unset] []))
      obtain ⟨T8, X8, e8, st8⟩ := getS2 X0 hx hZ hown (host := "") (Or.inl (hw _ (List.mem_of_getElem? (i := 14) rfl))) Via.refl e0 S_PROHIBITED (g := (mkF m 36 #[.val (.int wh), .val (.int fl), .val (.int (1 : Int32)), .val (.int (0 : Int32)), .unset, .unset] [])) rfl (hb hby at_36)
      refine OFin.back st8 ?_
      show OFin p e below s _ _ Q (T8.setTop (mkF m 39 #[.val (.int wh), .val (.int fl), .val (.int (1 : Int32)), .val (.int (0 : Int32)), .unset, .unset] [(.ref a_PROHIBITED)]))
      refine OFin.back (fun _ hr => XS.astore X8.here hx rfl (hb hby at_39) rfl rfl (l' := #[.val (.int wh), .val (.int fl), .val (.int (1 : Int32)), .val (.int (0 : Int32)), .val (.ref a_PROHIBITED), .unset]) rfl hr) ?_
      show OFin p e below s _ _ Q (T8.setTop (mkF m 41 #[.val (.int wh), .val (.int fl), .val (.int (1 : Int32)), .val (.int (0 : Int32)), .val (.ref a_PROHIBITED), .unset] []))
      refine OFin.back (fun _ hr => XS.goto X8.here hx rfl (pc0 := 41) (pc' := 49) rfl (hb hby at_41) (by decide) (by decide) hr) ?_
      show OFin p e below s _ _ Q (T8.setTop (mkF m 49 #[.val (.int wh), .val (.int fl), .val (.int (1 : Int32)), .val (.int (0 : Int32)), .val (.ref a_PROHIBITED), .unset] []))
      refine OFin.back (fun _ hr => XS.iloadN X8.here hx rfl (hb hby at_49) rfl hr) ?_
      show OFin p e below s _ _ Q (T8.setTop (mkF m 50 #[.val (.int wh), .val (.int fl), .val (.int (1 : Int32)), .val (.int (0 : Int32)), .val (.ref a_PROHIBITED), .unset] [(.int (1 : Int32))]))
      refine OFin.back (fun _ hr => XS.ifYes X8.here hx rfl (pc0 := 50) (pc' := 59) rfl (hb hby at_50) rfl ((if0 _ _).trans (feq (by decide : ¬ ((1 : Int32) = (0 : Int32)))).2) (by decide) (by decide) hr) ?_
      show OFin p e below s _ _ Q (T8.setTop (mkF m 59 #[.val (.int wh), .val (.int fl), .val (.int (1 : Int32)), .val (.int (0 : Int32)), .val (.ref a_PROHIBITED), .unset] []))
      refine OFin.back (fun _ hr => XS.iloadN X8.here hx rfl (hb hby at_59) rfl hr) ?_
      show OFin p e below s _ _ Q (T8.setTop (mkF m 60 #[.val (.int wh), .val (.int fl), .val (.int (1 : Int32)), .val (.int (0 : Int32)), .val (.ref a_PROHIBITED), .unset] [(.int (1 : Int32))]))
      refine OFin.back (fun _ hr => XS.iconst X8.here hx rfl (hb hby at_60) hr) ?_
      show OFin p e below s _ _ Q (T8.setTop (mkF m 61 #[.val (.int wh), .val (.int fl), .val (.int (1 : Int32)), .val (.int (0 : Int32)), .val (.ref a_PROHIBITED), .unset] [(.int (1 : Int32)), (.int (1 : Int32))]))
      refine OFin.back (fun _ hr => XS.icmpNo X8.here hx rfl (hb hby at_61) rfl (teq (by decide : (1 : Int32) = (1 : Int32))).2 hr) ?_
      show OFin p e below s _ _ Q (T8.setTop (mkF m 64 #[.val (.int wh), .val (.int fl), .val (.int (1 : Int32)), .val (.int (0 : Int32)), .val (.ref a_PROHIBITED), .unset] []))
      refine OFin.back (fun _ hr => XS.iloadN X8.here hx rfl (hb hby at_64) rfl hr) ?_
      show OFin p e below s _ _ Q (T8.setTop (mkF m 65 #[.val (.int wh), .val (.int fl), .val (.int (1 : Int32)), .val (.int (0 : Int32)), .val (.ref a_PROHIBITED), .unset] [(.int (0 : Int32))]))
      refine OFin.back (fun _ hr => XS.ifNo X8.here hx rfl (hb hby at_65) rfl ((if0 _ _).trans (teq (by decide : (0 : Int32) = (0 : Int32))).2) hr) ?_
      show OFin p e below s _ _ Q (T8.setTop (mkF m 68 #[.val (.int wh), .val (.int fl), .val (.int (1 : Int32)), .val (.int (0 : Int32)), .val (.ref a_PROHIBITED), .unset] []))
      refine OFin.back (fun _ hr => XS.iconst X8.here hx rfl (hb hby at_68) hr) ?_
      show OFin p e below s _ _ Q (T8.setTop (mkF m 69 #[.val (.int wh), .val (.int fl), .val (.int (1 : Int32)), .val (.int (0 : Int32)), .val (.ref a_PROHIBITED), .unset] [(.int (1 : Int32))]))
      refine OFin.back (fun _ hr => XS.goto X8.here hx rfl (pc0 := 69) (pc' := 73) rfl (hb hby at_69) (by decide) (by decide) hr) ?_
      show OFin p e below s _ _ Q (T8.setTop (mkF m 73 #[.val (.int wh), .val (.int fl), .val (.int (1 : Int32)), .val (.int (0 : Int32)), .val (.ref a_PROHIBITED), .unset] [(.int (1 : Int32))]))
      refine OFin.back (fun _ hr => XS.istore X8.here hx rfl (hb hby at_73) rfl (l' := #[.val (.int wh), .val (.int fl), .val (.int (1 : Int32)), .val (.int (0 : Int32)), .val (.ref a_PROHIBITED), .val (.int (1 : Int32))]) rfl hr) ?_
      show OFin p e below s _ _ Q (T8.setTop (mkF m 75 #[.val (.int wh), .val (.int fl), .val (.int (1 : Int32)), .val (.int (0 : Int32)), .val (.ref a_PROHIBITED), .val (.int (1 : Int32))] []))
      refine OFin.back (fun _ hr => XS.goto X8.here hx rfl (pc0 := 75) (pc' := 81) rfl (hb hby at_75) (by decide) (by decide) hr) ?_
      show OFin p e below s _ _ Q (T8.setTop (mkF m 81 #[.val (.int wh), .val (.int fl), .val (.int (1 : Int32)), .val (.int (0 : Int32)), .val (.ref a_PROHIBITED), .val (.int (1 : Int32))] []))
      refine OFin.back (fun _ hr => XS.aload X8.here hx rfl (hb hby at_81) rfl rfl hr) ?_
      show OFin p e below s _ _ Q (T8.setTop (mkF m 83 #[.val (.int wh), .val (.int fl), .val (.int (1 : Int32)), .val (.int (0 : Int32)), .val (.ref a_PROHIBITED), .val (.int (1 : Int32))] [(.ref a_PROHIBITED)]))
      refine OFin.back (fun _ hr => XS.iloadN X8.here hx rfl (hb hby at_83) rfl hr) ?_
      show OFin p e below s _ _ Q (T8.setTop (mkF m 84 #[.val (.int wh), .val (.int fl), .val (.int (1 : Int32)), .val (.int (0 : Int32)), .val (.ref a_PROHIBITED), .val (.int (1 : Int32))] [(.int (0 : Int32)), (.ref a_PROHIBITED)]))
      obtain ⟨cq9, kq9, q9a, q9b, q9c⟩ := isOf hZ e8 E_PROHIBITED
      obtain ⟨_, _, ⟨T9, L9, k9, n9⟩, -, X9, ⟨Lc9, hQ9, l9, y9, z9⟩, st9⟩ := X8.virtualBack hx (y := (⟨"com/example/mortise/mortise/schema/Facets$ExplicitTimezone", "admits", "(Z)Z"⟩ : MethodName)) (z := (⟨"com/example/mortise/mortise/schema/Facets$ExplicitTimezone", "admits", "(Z)Z"⟩ : MethodName)) hown (mvT hZ (hw _ (List.mem_of_getElem? (i := 4) rfl))) (mvT hZ (hw _ (List.mem_of_getElem? (i := 5) rfl))) (notFace_of_selects (args := #[]) (mvT hZ (hw _ (List.mem_of_getElem? (i := 7) rfl)))) (mvT hZ (hw _ (List.mem_of_getElem? (i := 7) rfl))) (mvT hZ (hw _ (List.mem_of_getElem? (i := 6) rfl))) (by decide) (backOf (W := 0) (rm1 l Z a0 hw [] a_PROHIBITED (0 : Int32) a_REQUIRED a_PROHIBITED h0 n0 Z0 S_REQUIRED S_PROHIBITED) hZ (hw _ (List.mem_of_getElem? (i := 8) rfl)) (hw _ (List.mem_of_getElem? (i := 2) rfl)) (by decide) (by decide)) q9a q9c (g := (mkF m 84 #[.val (.int wh), .val (.int fl), .val (.int (1 : Int32)), .val (.int (0 : Int32)), .val (.ref a_PROHIBITED), .val (.int (1 : Int32))] [(.int (0 : Int32)), (.ref a_PROHIBITED)])) rfl (by rw [hml]; rfl) (Steps.refl _) (argsL := [(.int (0 : Int32))]) (rest := []) (lenOf pd0_0 rfl) rfl (by show 2 * 0 + _ ≤ _; exact Nat.le_of_eq rfl) (hb hby at_84) (fun _ _ => ⟨rfl, e8, (by decide : 0 + 0 ≤ _), (by decide : 0 + 0 ≤ _)⟩)
      dsimp only [Pt.U, Pt.locs, Pt.cells, Pt.slots] at X9 l9 y9 z9 st9 hQ9
      subst l9 y9 z9
      obtain ⟨rfl, N9q, e9⟩ := hQ9
      have N9 := Fr.app N0 N9q
      refine OFin.via st9 ?_
      rw [show (own_adm (0 : Int32) a_PROHIBITED a_PROHIBITED a_REQUIRED) = (1 : Int32) from by simp [own_adm, n1, n2, n3, n4]]
      show OFin p e below s _ _ Q (T9.setTop (mkF m 87 #[.val (.int wh), .val (.int fl), .val (.int (1 : Int32)), .val (.int (0 : Int32)), .val (.ref a_PROHIBITED), .val (.int (1 : Int32))] [(.int (1 : Int32))]))
      refine OFin.back (fun _ hr => XS.iload X9.here hx rfl (hb hby at_87) rfl hr) ?_
      show OFin p e below s _ _ Q (T9.setTop (mkF m 89 #[.val (.int wh), .val (.int fl), .val (.int (1 : Int32)), .val (.int (0 : Int32)), .val (.ref a_PROHIBITED), .val (.int (1 : Int32))] [(.int (1 : Int32)), (.int (1 : Int32))]))
      refine OFin.back (fun _ hr => XS.icmpNo X9.here hx rfl (hb hby at_89) rfl (teq (by decide : (1 : Int32) = (1 : Int32))).2 hr) ?_
      show OFin p e below s _ _ Q (T9.setTop (mkF m 92 #[.val (.int wh), .val (.int fl), .val (.int (1 : Int32)), .val (.int (0 : Int32)), .val (.ref a_PROHIBITED), .val (.int (1 : Int32))] []))
      refine OFin.back (fun _ hr => XS.iconst X9.here hx rfl (hb hby at_92) hr) ?_
      show OFin p e below s _ _ Q (T9.setTop (mkF m 93 #[.val (.int wh), .val (.int fl), .val (.int (1 : Int32)), .val (.int (0 : Int32)), .val (.ref a_PROHIBITED), .val (.int (1 : Int32))] [(.int (1 : Int32))]))
      refine OFin.back (fun _ hr => XS.goto X9.here hx rfl (pc0 := 93) (pc' := 97) rfl (hb hby at_93) (by decide) (by decide) hr) ?_
      show OFin p e below s _ _ Q (T9.setTop (mkF m 97 #[.val (.int wh), .val (.int fl), .val (.int (1 : Int32)), .val (.int (0 : Int32)), .val (.ref a_PROHIBITED), .val (.int (1 : Int32))] [(.int (1 : Int32))]))
      exact OFin.outN (t := .boolean) X9 hx Bd.returns (by simp) Bd.notSynchronized (hb hby at_97) (by decide) (by decide) e9 (by rw [hQ]; exact ⟨rfl, N9⟩)
    · -- not (fl &&& (1 : Int32)) = (0 : Int32)
      refine OFin.back (fun _ hr => XS.ifNo X0.here hx rfl (hb hby at_10) rfl ((if0 _ _).trans (feq hc10_7).1) hr) ?_
      show OFin p e below s _ _ Q (s₁.setTop (mkF m 13 #[.val (.int wh), .val (.int fl), .val (.int (1 : Int32)), .unset, .unset, .unset] []))
      refine OFin.back (fun _ hr => XS.iconst X0.here hx rfl (hb hby at_13) hr) ?_
      show OFin p e below s _ _ Q (s₁.setTop (mkF m 14 #[.val (.int wh), .val (.int fl), .val (.int (1 : Int32)), .unset, .unset, .unset] [(.int (1 : Int32))]))
      refine OFin.back (fun _ hr => XS.goto X0.here hx rfl (pc0 := 14) (pc' := 18) rfl (hb hby at_14) (by decide) (by decide) hr) ?_
      show OFin p e below s _ _ Q (s₁.setTop (mkF m 18 #[.val (.int wh), .val (.int fl), .val (.int (1 : Int32)), .unset, .unset, .unset] [(.int (1 : Int32))]))
      refine OFin.back (fun _ hr => XS.istoreN X0.here hx rfl (hb hby at_18) rfl (l' := #[.val (.int wh), .val (.int fl), .val (.int (1 : Int32)), .val (.int (1 : Int32)), .unset, .unset]) rfl hr) ?_
      show OFin p e below s _ _ Q (s₁.setTop (mkF m 19 #[.val (.int wh), .val (.int fl), .val (.int (1 : Int32)), .val (.int (1 : Int32)), .unset, .unset] []))
      refine OFin.back (fun _ hr => XS.iloadN X0.here hx rfl (hb hby at_19) rfl hr) ?_
      show OFin p e below s _ _ Q (s₁.setTop (mkF m 20 #[.val (.int wh), .val (.int fl), .val (.int (1 : Int32)), .val (.int (1 : Int32)), .unset, .unset] [(.int (1 : Int32))]))
      refine OFin.back (fun _ hr => XS.ifYes X0.here hx rfl (pc0 := 20) (pc' := 31) rfl (hb hby at_20) rfl ((if0 _ _).trans (feq (by decide : ¬ ((1 : Int32) = (0 : Int32)))).2) (by decide) (by decide) hr) ?_
      show OFin p e below s _ _ Q (s₁.setTop (mkF m 31 #[.val (.int wh), .val (.int fl), .val (.int (1 : Int32)), .val (.int (1 : Int32)), .unset, .unset] []))
      refine OFin.back (fun _ hr => XS.iloadN X0.here hx rfl (hb hby at_31) rfl hr) ?_
      show OFin p e below s _ _ Q (s₁.setTop (mkF m 32 #[.val (.int wh), .val (.int fl), .val (.int (1 : Int32)), .val (.int (1 : Int32)), .unset, .unset] [(.int (1 : Int32))]))
      refine OFin.back (fun _ hr => XS.iconst X0.here hx rfl (hb hby at_32) hr) ?_
      show OFin p e below s _ _ Q (s₁.setTop (mkF m 33 #[.val (.int wh), .val (.int fl), .val (.int (1 : Int32)), .val (.int (1 : Int32)), .unset, .unset] [(.int (1 : Int32)), (.int (1 : Int32))]))
      refine OFin.back (fun _ hr => XS.icmpNo X0.here hx rfl (hb hby at_33) rfl (teq (by decide : (1 : Int32) = (1 : Int32))).2 hr) ?_
      show OFin p e below s _ _ Q (s₁.setTop (mkF m 36 #[.val (.int wh), .val (.int fl), .val (.int (1 : Int32)), .val (.int (1 : Int32)), .unset, .unset] []))
      obtain ⟨T10, X10, e10, st10⟩ := getS2 X0 hx hZ hown (host := "") (Or.inl (hw _ (List.mem_of_getElem? (i := 14) rfl))) Via.refl e0 S_PROHIBITED (g := (mkF m 36 #[.val (.int wh), .val (.int fl), .val (.int (1 : Int32)), .val (.int (1 : Int32)), .unset, .unset] [])) rfl (hb hby at_36)
      refine OFin.back st10 ?_
      show OFin p e below s _ _ Q (T10.setTop (mkF m 39 #[.val (.int wh), .val (.int fl), .val (.int (1 : Int32)), .val (.int (1 : Int32)), .unset, .unset] [(.ref a_PROHIBITED)]))
      refine OFin.back (fun _ hr => XS.astore X10.here hx rfl (hb hby at_39) rfl rfl (l' := #[.val (.int wh), .val (.int fl), .val (.int (1 : Int32)), .val (.int (1 : Int32)), .val (.ref a_PROHIBITED), .unset]) rfl hr) ?_
      show OFin p e below s _ _ Q (T10.setTop (mkF m 41 #[.val (.int wh), .val (.int fl), .val (.int (1 : Int32)), .val (.int (1 : Int32)), .val (.ref a_PROHIBITED), .unset] []))
      refine OFin.back (fun _ hr => XS.goto X10.here hx rfl (pc0 := 41) (pc' := 49) rfl (hb hby at_41) (by decide) (by decide) hr) ?_
      show OFin p e below s _ _ Q (T10.setTop (mkF m 49 #[.val (.int wh), .val (.int fl), .val (.int (1 : Int32)), .val (.int (1 : Int32)), .val (.ref a_PROHIBITED), .unset] []))
      refine OFin.back (fun _ hr => XS.iloadN X10.here hx rfl (hb hby at_49) rfl hr) ?_
      show OFin p e below s _ _ Q (T10.setTop (mkF m 50 #[.val (.int wh), .val (.int fl), .val (.int (1 : Int32)), .val (.int (1 : Int32)), .val (.ref a_PROHIBITED), .unset] [(.int (1 : Int32))]))
      refine OFin.back (fun _ hr => XS.ifYes X10.here hx rfl (pc0 := 50) (pc' := 59) rfl (hb hby at_50) rfl ((if0 _ _).trans (feq (by decide : ¬ ((1 : Int32) = (0 : Int32)))).2) (by decide) (by decide) hr) ?_
      show OFin p e below s _ _ Q (T10.setTop (mkF m 59 #[.val (.int wh), .val (.int fl), .val (.int (1 : Int32)), .val (.int (1 : Int32)), .val (.ref a_PROHIBITED), .unset] []))
      refine OFin.back (fun _ hr => XS.iloadN X10.here hx rfl (hb hby at_59) rfl hr) ?_
      show OFin p e below s _ _ Q (T10.setTop (mkF m 60 #[.val (.int wh), .val (.int fl), .val (.int (1 : Int32)), .val (.int (1 : Int32)), .val (.ref a_PROHIBITED), .unset] [(.int (1 : Int32))]))
      refine OFin.back (fun _ hr => XS.iconst X10.here hx rfl (hb hby at_60) hr) ?_
      show OFin p e below s _ _ Q (T10.setTop (mkF m 61 #[.val (.int wh), .val (.int fl), .val (.int (1 : Int32)), .val (.int (1 : Int32)), .val (.ref a_PROHIBITED), .unset] [(.int (1 : Int32)), (.int (1 : Int32))]))
      refine OFin.back (fun _ hr => XS.icmpNo X10.here hx rfl (hb hby at_61) rfl (teq (by decide : (1 : Int32) = (1 : Int32))).2 hr) ?_
      show OFin p e below s _ _ Q (T10.setTop (mkF m 64 #[.val (.int wh), .val (.int fl), .val (.int (1 : Int32)), .val (.int (1 : Int32)), .val (.ref a_PROHIBITED), .unset] []))
      refine OFin.back (fun _ hr => XS.iloadN X10.here hx rfl (hb hby at_64) rfl hr) ?_
      show OFin p e below s _ _ Q (T10.setTop (mkF m 65 #[.val (.int wh), .val (.int fl), .val (.int (1 : Int32)), .val (.int (1 : Int32)), .val (.ref a_PROHIBITED), .unset] [(.int (1 : Int32))]))
      refine OFin.back (fun _ hr => XS.ifYes X10.here hx rfl (pc0 := 65) (pc' := 72) rfl (hb hby at_65) rfl ((if0 _ _).trans (feq (by decide : ¬ ((1 : Int32) = (0 : Int32)))).2) (by decide) (by decide) hr) ?_
      show OFin p e below s _ _ Q (T10.setTop (mkF m 72 #[.val (.int wh), .val (.int fl), .val (.int (1 : Int32)), .val (.int (1 : Int32)), .val (.ref a_PROHIBITED), .unset] []))
      refine OFin.back (fun _ hr => XS.iconst X10.here hx rfl (hb hby at_72) hr) ?_
      show OFin p e below s _ _ Q (T10.setTop (mkF m 73 #[.val (.int wh), .val (.int fl), .val (.int (1 : Int32)), .val (.int (1 : Int32)), .val (.ref a_PROHIBITED), .unset] [(.int (0 : Int32))]))
      refine OFin.back (fun _ hr => XS.istore X10.here hx rfl (hb hby at_73) rfl (l' := #[.val (.int wh), .val (.int fl), .val (.int (1 : Int32)), .val (.int (1 : Int32)), .val (.ref a_PROHIBITED), .val (.int (0 : Int32))]) rfl hr) ?_
      show OFin p e below s _ _ Q (T10.setTop (mkF m 75 #[.val (.int wh), .val (.int fl), .val (.int (1 : Int32)), .val (.int (1 : Int32)), .val (.ref a_PROHIBITED), .val (.int (0 : Int32))] []))
      refine OFin.back (fun _ hr => XS.goto X10.here hx rfl (pc0 := 75) (pc' := 81) rfl (hb hby at_75) (by decide) (by decide) hr) ?_
      show OFin p e below s _ _ Q (T10.setTop (mkF m 81 #[.val (.int wh), .val (.int fl), .val (.int (1 : Int32)), .val (.int (1 : Int32)), .val (.ref a_PROHIBITED), .val (.int (0 : Int32))] []))
      refine OFin.back (fun _ hr => XS.aload X10.here hx rfl (hb hby at_81) rfl rfl hr) ?_
      show OFin p e below s _ _ Q (T10.setTop (mkF m 83 #[.val (.int wh), .val (.int fl), .val (.int (1 : Int32)), .val (.int (1 : Int32)), .val (.ref a_PROHIBITED), .val (.int (0 : Int32))] [(.ref a_PROHIBITED)]))
      refine OFin.back (fun _ hr => XS.iloadN X10.here hx rfl (hb hby at_83) rfl hr) ?_
      show OFin p e below s _ _ Q (T10.setTop (mkF m 84 #[.val (.int wh), .val (.int fl), .val (.int (1 : Int32)), .val (.int (1 : Int32)), .val (.ref a_PROHIBITED), .val (.int (0 : Int32))] [(.int (1 : Int32)), (.ref a_PROHIBITED)]))
      obtain ⟨cq11, kq11, q11a, q11b, q11c⟩ := isOf hZ e10 E_PROHIBITED
      obtain ⟨_, _, ⟨T11, L11, k11, n11⟩, -, X11, ⟨Lc11, hQ11, l11, y11, z11⟩, st11⟩ := X10.virtualBack hx (y := (⟨"com/example/mortise/mortise/schema/Facets$ExplicitTimezone", "admits", "(Z)Z"⟩ : MethodName)) (z := (⟨"com/example/mortise/mortise/schema/Facets$ExplicitTimezone", "admits", "(Z)Z"⟩ : MethodName)) hown (mvT hZ (hw _ (List.mem_of_getElem? (i := 4) rfl))) (mvT hZ (hw _ (List.mem_of_getElem? (i := 5) rfl))) (notFace_of_selects (args := #[]) (mvT hZ (hw _ (List.mem_of_getElem? (i := 7) rfl)))) (mvT hZ (hw _ (List.mem_of_getElem? (i := 7) rfl))) (mvT hZ (hw _ (List.mem_of_getElem? (i := 6) rfl))) (by decide) (backOf (W := 0) (rm1 l Z a0 hw [] a_PROHIBITED (1 : Int32) a_REQUIRED a_PROHIBITED h0 n0 Z0 S_REQUIRED S_PROHIBITED) hZ (hw _ (List.mem_of_getElem? (i := 8) rfl)) (hw _ (List.mem_of_getElem? (i := 2) rfl)) (by decide) (by decide)) q11a q11c (g := (mkF m 84 #[.val (.int wh), .val (.int fl), .val (.int (1 : Int32)), .val (.int (1 : Int32)), .val (.ref a_PROHIBITED), .val (.int (0 : Int32))] [(.int (1 : Int32)), (.ref a_PROHIBITED)])) rfl (by rw [hml]; rfl) (Steps.refl _) (argsL := [(.int (1 : Int32))]) (rest := []) (lenOf pd0_0 rfl) rfl (by show 2 * 0 + _ ≤ _; exact Nat.le_of_eq rfl) (hb hby at_84) (fun _ _ => ⟨rfl, e10, (by decide : 0 + 0 ≤ _), (by decide : 0 + 0 ≤ _)⟩)
      dsimp only [Pt.U, Pt.locs, Pt.cells, Pt.slots] at X11 l11 y11 z11 st11 hQ11
      subst l11 y11 z11
      obtain ⟨rfl, N11q, e11⟩ := hQ11
      have N11 := Fr.app N0 N11q
      refine OFin.via st11 ?_
      rw [show (own_adm (1 : Int32) a_PROHIBITED a_PROHIBITED a_REQUIRED) = (0 : Int32) from by simp [own_adm, n1, n2, n3, n4]]
      show OFin p e below s _ _ Q (T11.setTop (mkF m 87 #[.val (.int wh), .val (.int fl), .val (.int (1 : Int32)), .val (.int (1 : Int32)), .val (.ref a_PROHIBITED), .val (.int (0 : Int32))] [(.int (0 : Int32))]))
      refine OFin.back (fun _ hr => XS.iload X11.here hx rfl (hb hby at_87) rfl hr) ?_
      show OFin p e below s _ _ Q (T11.setTop (mkF m 89 #[.val (.int wh), .val (.int fl), .val (.int (1 : Int32)), .val (.int (1 : Int32)), .val (.ref a_PROHIBITED), .val (.int (0 : Int32))] [(.int (0 : Int32)), (.int (0 : Int32))]))
      refine OFin.back (fun _ hr => XS.icmpNo X11.here hx rfl (hb hby at_89) rfl (teq (by decide : (0 : Int32) = (0 : Int32))).2 hr) ?_
      show OFin p e below s _ _ Q (T11.setTop (mkF m 92 #[.val (.int wh), .val (.int fl), .val (.int (1 : Int32)), .val (.int (1 : Int32)), .val (.ref a_PROHIBITED), .val (.int (0 : Int32))] []))
      refine OFin.back (fun _ hr => XS.iconst X11.here hx rfl (hb hby at_92) hr) ?_
      show OFin p e below s _ _ Q (T11.setTop (mkF m 93 #[.val (.int wh), .val (.int fl), .val (.int (1 : Int32)), .val (.int (1 : Int32)), .val (.ref a_PROHIBITED), .val (.int (0 : Int32))] [(.int (1 : Int32))]))
      refine OFin.back (fun _ hr => XS.goto X11.here hx rfl (pc0 := 93) (pc' := 97) rfl (hb hby at_93) (by decide) (by decide) hr) ?_
      show OFin p e below s _ _ Q (T11.setTop (mkF m 97 #[.val (.int wh), .val (.int fl), .val (.int (1 : Int32)), .val (.int (1 : Int32)), .val (.ref a_PROHIBITED), .val (.int (0 : Int32))] [(.int (1 : Int32))]))
      exact OFin.outN (t := .boolean) X11 hx Bd.returns (by simp) Bd.notSynchronized (hb hby at_97) (by decide) (by decide) e11 (by rw [hQ]; exact ⟨rfl, N11⟩)
  · rw [hk1_2]
    refine OFin.back (fun _ hr => XS.iloadN X0.here hx rfl (hb hby at_7) rfl hr) ?_
    show OFin p e below s _ _ Q (s₁.setTop (mkF m 8 #[.val (.int wh), .val (.int fl), .val (.int (2 : Int32)), .unset, .unset, .unset] [(.int fl)]))
    refine OFin.back (fun _ hr => XS.iconst X0.here hx rfl (hb hby at_8) hr) ?_
    show OFin p e below s _ _ Q (s₁.setTop (mkF m 9 #[.val (.int wh), .val (.int fl), .val (.int (2 : Int32)), .unset, .unset, .unset] [(.int (1 : Int32)), (.int fl)]))
    refine OFin.back (fun _ hr => XS.iand X0.here hx rfl (hb hby at_9) rfl hr) ?_
    show OFin p e below s _ _ Q (s₁.setTop (mkF m 10 #[.val (.int wh), .val (.int fl), .val (.int (2 : Int32)), .unset, .unset, .unset] [(.int (fl &&& (1 : Int32)))]))
    by_cases hc10_12 : (fl &&& (1 : Int32)) = (0 : Int32)
    · -- (fl &&& (1 : Int32)) = (0 : Int32)
      refine OFin.back (fun _ hr => XS.ifYes X0.here hx rfl (pc0 := 10) (pc' := 17) rfl (hb hby at_10) rfl ((if0 _ _).trans (teq hc10_12).1) (by decide) (by decide) hr) ?_
      show OFin p e below s _ _ Q (s₁.setTop (mkF m 17 #[.val (.int wh), .val (.int fl), .val (.int (2 : Int32)), .unset, .unset, .unset] []))
      refine OFin.back (fun _ hr => XS.iconst X0.here hx rfl (hb hby at_17) hr) ?_
      show OFin p e below s _ _ Q (s₁.setTop (mkF m 18 #[.val (.int wh), .val (.int fl), .val (.int (2 : Int32)), .unset, .unset, .unset] [(.int (0 : Int32))]))
      refine OFin.back (fun _ hr => XS.istoreN X0.here hx rfl (hb hby at_18) rfl (l' := #[.val (.int wh), .val (.int fl), .val (.int (2 : Int32)), .val (.int (0 : Int32)), .unset, .unset]) rfl hr) ?_
      show OFin p e below s _ _ Q (s₁.setTop (mkF m 19 #[.val (.int wh), .val (.int fl), .val (.int (2 : Int32)), .val (.int (0 : Int32)), .unset, .unset] []))
      refine OFin.back (fun _ hr => XS.iloadN X0.here hx rfl (hb hby at_19) rfl hr) ?_
      show OFin p e below s _ _ Q (s₁.setTop (mkF m 20 #[.val (.int wh), .val (.int fl), .val (.int (2 : Int32)), .val (.int (0 : Int32)), .unset, .unset] [(.int (2 : Int32))]))
      refine OFin.back (fun _ hr => XS.ifYes X0.here hx rfl (pc0 := 20) (pc' := 31) rfl (hb hby at_20) rfl ((if0 _ _).trans (feq (by decide : ¬ ((2 : Int32) = (0 : Int32)))).2) (by decide) (by decide) hr) ?_
      show OFin p e below s _ _ Q (s₁.setTop (mkF m 31 #[.val (.int wh), .val (.int fl), .val (.int (2 : Int32)), .val (.int (0 : Int32)), .unset, .unset] []))
      refine OFin.back (fun _ hr => XS.iloadN X0.here hx rfl (hb hby at_31) rfl hr) ?_
      show OFin p e below s _ _ Q (s₁.setTop (mkF m 32 #[.val (.int wh), .val (.int fl), .val (.int (2 : Int32)), .val (.int (0 : Int32)), .unset, .unset] [(.int (2 : Int32))]))
      refine OFin.back (fun _ hr => XS.iconst X0.here hx rfl (hb hby at_32) hr) ?_
      show OFin p e below s _ _ Q (s₁.setTop (mkF m 33 #[.val (.int wh), .val (.int fl), .val (.int (2 : Int32)), .val (.int (0 : Int32)), .unset, .unset] [(.int (1 : Int32)), (.int (2 : Int32))]))
      refine OFin.back (fun _ hr => XS.icmpYes X0.here hx rfl (pc0 := 33) (pc' := 44) rfl (hb hby at_33) rfl (feq (by decide : ¬ ((2 : Int32) = (1 : Int32)))).2 (by decide) (by decide) hr) ?_
      show OFin p e below s _ _ Q (s₁.setTop (mkF m 44 #[.val (.int wh), .val (.int fl), .val (.int (2 : Int32)), .val (.int (0 : Int32)), .unset, .unset] []))
      obtain ⟨T13, X13, e13, st13⟩ := getS2 X0 hx hZ hown (host := "") (Or.inl (hw _ (List.mem_of_getElem? (i := 11) rfl))) Via.refl e0 S_OPTIONAL (g := (mkF m 44 #[.val (.int wh), .val (.int fl), .val (.int (2 : Int32)), .val (.int (0 : Int32)), .unset, .unset] [])) rfl (hb hby at_44)
      refine OFin.back st13 ?_
      show OFin p e below s _ _ Q (T13.setTop (mkF m 47 #[.val (.int wh), .val (.int fl), .val (.int (2 : Int32)), .val (.int (0 : Int32)), .unset, .unset] [(.ref a_OPTIONAL)]))
      refine OFin.back (fun _ hr => XS.astore X13.here hx rfl (hb hby at_47) rfl rfl (l' := #[.val (.int wh), .val (.int fl), .val (.int (2 : Int32)), .val (.int (0 : Int32)), .val (.ref a_OPTIONAL), .unset]) rfl hr) ?_
      show OFin p e below s _ _ Q (T13.setTop (mkF m 49 #[.val (.int wh), .val (.int fl), .val (.int (2 : Int32)), .val (.int (0 : Int32)), .val (.ref a_OPTIONAL), .unset] []))
      refine OFin.back (fun _ hr => XS.iloadN X13.here hx rfl (hb hby at_49) rfl hr) ?_
      show OFin p e below s _ _ Q (T13.setTop (mkF m 50 #[.val (.int wh), .val (.int fl), .val (.int (2 : Int32)), .val (.int (0 : Int32)), .val (.ref a_OPTIONAL), .unset] [(.int (2 : Int32))]))
      refine OFin.back (fun _ hr => XS.ifYes X13.here hx rfl (pc0 := 50) (pc' := 59) rfl (hb hby at_50) rfl ((if0 _ _).trans (feq (by decide : ¬ ((2 : Int32) = (0 : Int32)))).2) (by decide) (by decide) hr) ?_
      show OFin p e below s _ _ Q (T13.setTop (mkF m 59 #[.val (.int wh), .val (.int fl), .val (.int (2 : Int32)), .val (.int (0 : Int32)), .val (.ref a_OPTIONAL), .unset] []))
      refine OFin.back (fun _ hr => XS.iloadN X13.here hx rfl (hb hby at_59) rfl hr) ?_
      show OFin p e below s _ _ Q (T13.setTop (mkF m 60 #[.val (.int wh), .val (.int fl), .val (.int (2 : Int32)), .val (.int (0 : Int32)), .val (.ref a_OPTIONAL), .unset] [(.int (2 : Int32))]))
      refine OFin.back (fun _ hr => XS.iconst X13.here hx rfl (hb hby at_60) hr) ?_
      show OFin p e below s _ _ Q (T13.setTop (mkF m 61 #[.val (.int wh), .val (.int fl), .val (.int (2 : Int32)), .val (.int (0 : Int32)), .val (.ref a_OPTIONAL), .unset] [(.int (1 : Int32)), (.int (2 : Int32))]))
      refine OFin.back (fun _ hr => XS.icmpYes X13.here hx rfl (pc0 := 61) (pc' := 78) rfl (hb hby at_61) rfl (feq (by decide : ¬ ((2 : Int32) = (1 : Int32)))).2 (by decide) (by decide) hr) ?_
      show OFin p e below s _ _ Q (T13.setTop (mkF m 78 #[.val (.int wh), .val (.int fl), .val (.int (2 : Int32)), .val (.int (0 : Int32)), .val (.ref a_OPTIONAL), .unset] []))
      refine OFin.back (fun _ hr => XS.iconst X13.here hx rfl (hb hby at_78) hr) ?_
      show OFin p e below s _ _ Q (T13.setTop (mkF m 79 #[.val (.int wh), .val (.int fl), .val (.int (2 : Int32)), .val (.int (0 : Int32)), .val (.ref a_OPTIONAL), .unset] [(.int (1 : Int32))]))
      refine OFin.back (fun _ hr => XS.istore X13.here hx rfl (hb hby at_79) rfl (l' := #[.val (.int wh), .val (.int fl), .val (.int (2 : Int32)), .val (.int (0 : Int32)), .val (.ref a_OPTIONAL), .val (.int (1 : Int32))]) rfl hr) ?_
      show OFin p e below s _ _ Q (T13.setTop (mkF m 81 #[.val (.int wh), .val (.int fl), .val (.int (2 : Int32)), .val (.int (0 : Int32)), .val (.ref a_OPTIONAL), .val (.int (1 : Int32))] []))
      refine OFin.back (fun _ hr => XS.aload X13.here hx rfl (hb hby at_81) rfl rfl hr) ?_
      show OFin p e below s _ _ Q (T13.setTop (mkF m 83 #[.val (.int wh), .val (.int fl), .val (.int (2 : Int32)), .val (.int (0 : Int32)), .val (.ref a_OPTIONAL), .val (.int (1 : Int32))] [(.ref a_OPTIONAL)]))
      refine OFin.back (fun _ hr => XS.iloadN X13.here hx rfl (hb hby at_83) rfl hr) ?_
      show OFin p e below s _ _ Q (T13.setTop (mkF m 84 #[.val (.int wh), .val (.int fl), .val (.int (2 : Int32)), .val (.int (0 : Int32)), .val (.ref a_OPTIONAL), .val (.int (1 : Int32))] [(.int (0 : Int32)), (.ref a_OPTIONAL)]))
      obtain ⟨cq14, kq14, q14a, q14b, q14c⟩ := isOf hZ e13 E_OPTIONAL
      obtain ⟨_, _, ⟨T14, L14, k14, n14⟩, -, X14, ⟨Lc14, hQ14, l14, y14, z14⟩, st14⟩ := X13.virtualBack hx (y := (⟨"com/example/mortise/mortise/schema/Facets$ExplicitTimezone", "admits", "(Z)Z"⟩ : MethodName)) (z := (⟨"com/example/mortise/mortise/schema/Facets$ExplicitTimezone", "admits", "(Z)Z"⟩ : MethodName)) hown (mvT hZ (hw _ (List.mem_of_getElem? (i := 4) rfl))) (mvT hZ (hw _ (List.mem_of_getElem? (i := 5) rfl))) (notFace_of_selects (args := #[]) (mvT hZ (hw _ (List.mem_of_getElem? (i := 7) rfl)))) (mvT hZ (hw _ (List.mem_of_getElem? (i := 7) rfl))) (mvT hZ (hw _ (List.mem_of_getElem? (i := 6) rfl))) (by decide) (backOf (W := 0) (rm1 l Z a0 hw [] a_OPTIONAL (0 : Int32) a_REQUIRED a_PROHIBITED h0 n0 Z0 S_REQUIRED S_PROHIBITED) hZ (hw _ (List.mem_of_getElem? (i := 8) rfl)) (hw _ (List.mem_of_getElem? (i := 2) rfl)) (by decide) (by decide)) q14a q14c (g := (mkF m 84 #[.val (.int wh), .val (.int fl), .val (.int (2 : Int32)), .val (.int (0 : Int32)), .val (.ref a_OPTIONAL), .val (.int (1 : Int32))] [(.int (0 : Int32)), (.ref a_OPTIONAL)])) rfl (by rw [hml]; rfl) (Steps.refl _) (argsL := [(.int (0 : Int32))]) (rest := []) (lenOf pd0_0 rfl) rfl (by show 2 * 0 + _ ≤ _; exact Nat.le_of_eq rfl) (hb hby at_84) (fun _ _ => ⟨rfl, e13, (by decide : 0 + 0 ≤ _), (by decide : 0 + 0 ≤ _)⟩)
      dsimp only [Pt.U, Pt.locs, Pt.cells, Pt.slots] at X14 l14 y14 z14 st14 hQ14
      subst l14 y14 z14
      obtain ⟨rfl, N14q, e14⟩ := hQ14
      have N14 := Fr.app N0 N14q
      refine OFin.via st14 ?_
      rw [show (own_adm (0 : Int32) a_OPTIONAL a_PROHIBITED a_REQUIRED) = (1 : Int32) from by simp [own_adm, n1, n2, n3, n4]]
      show OFin p e below s _ _ Q (T14.setTop (mkF m 87 #[.val (.int wh), .val (.int fl), .val (.int (2 : Int32)), .val (.int (0 : Int32)), .val (.ref a_OPTIONAL), .val (.int (1 : Int32))] [(.int (1 : Int32))]))
      refine OFin.back (fun _ hr => XS.iload X14.here hx rfl (hb hby at_87) rfl hr) ?_
      show OFin p e below s _ _ Q (T14.setTop (mkF m 89 #[.val (.int wh), .val (.int fl), .val (.int (2 : Int32)), .val (.int (0 : Int32)), .val (.ref a_OPTIONAL), .val (.int (1 : Int32))] [(.int (1 : Int32)), (.int (1 : Int32))]))
      refine OFin.back (fun _ hr => XS.icmpNo X14.here hx rfl (hb hby at_89) rfl (teq (by decide : (1 : Int32) = (1 : Int32))).2 hr) ?_
      show OFin p e below s _ _ Q (T14.setTop (mkF m 92 #[.val (.int wh), .val (.int fl), .val (.int (2 : Int32)), .val (.int (0 : Int32)), .val (.ref a_OPTIONAL), .val (.int (1 : Int32))] []))
      refine OFin.back (fun _ hr => XS.iconst X14.here hx rfl (hb hby at_92) hr) ?_
      show OFin p e below s _ _ Q (T14.setTop (mkF m 93 #[.val (.int wh), .val (.int fl), .val (.int (2 : Int32)), .val (.int (0 : Int32)), .val (.ref a_OPTIONAL), .val (.int (1 : Int32))] [(.int (1 : Int32))]))
      refine OFin.back (fun _ hr => XS.goto X14.here hx rfl (pc0 := 93) (pc' := 97) rfl (hb hby at_93) (by decide) (by decide) hr) ?_
      show OFin p e below s _ _ Q (T14.setTop (mkF m 97 #[.val (.int wh), .val (.int fl), .val (.int (2 : Int32)), .val (.int (0 : Int32)), .val (.ref a_OPTIONAL), .val (.int (1 : Int32))] [(.int (1 : Int32))]))
      exact OFin.outN (t := .boolean) X14 hx Bd.returns (by simp) Bd.notSynchronized (hb hby at_97) (by decide) (by decide) e14 (by rw [hQ]; exact ⟨rfl, N14⟩)
    · -- not (fl &&& (1 : Int32)) = (0 : Int32)
      refine OFin.back (fun _ hr => XS.ifNo X0.here hx rfl (hb hby at_10) rfl ((if0 _ _).trans (feq hc10_12).1) hr) ?_
      show OFin p e below s _ _ Q (s₁.setTop (mkF m 13 #[.val (.int wh), .val (.int fl), .val (.int (2 : Int32)), .unset, .unset, .unset] []))
      refine OFin.back (fun _ hr => XS.iconst X0.here hx rfl (hb hby at_13) hr) ?_
      show OFin p e below s _ _ Q (s₁.setTop (mkF m 14 #[.val (.int wh), .val (.int fl), .val (.int (2 : Int32)), .unset, .unset, .unset] [(.int (1 : Int32))]))
      refine OFin.back (fun _ hr => XS.goto X0.here hx rfl (pc0 := 14) (pc' := 18) rfl (hb hby at_14) (by decide) (by decide) hr) ?_
      show OFin p e below s _ _ Q (s₁.setTop (mkF m 18 #[.val (.int wh), .val (.int fl), .val (.int (2 : Int32)), .unset, .unset, .unset] [(.int (1 : Int32))]))
      refine OFin.back (fun _ hr => XS.istoreN X0.here hx rfl (hb hby at_18) rfl (l' := #[.val (.int wh), .val (.int fl), .val (.int (2 : Int32)), .val (.int (1 : Int32)), .unset, .unset]) rfl hr) ?_
      show OFin p e below s _ _ Q (s₁.setTop (mkF m 19 #[.val (.int wh), .val (.int fl), .val (.int (2 : Int32)), .val (.int (1 : Int32)), .unset, .unset] []))
      refine OFin.back (fun _ hr => XS.iloadN X0.here hx rfl (hb hby at_19) rfl hr) ?_
      show OFin p e below s _ _ Q (s₁.setTop (mkF m 20 #[.val (.int wh), .val (.int fl), .val (.int (2 : Int32)), .val (.int (1 : Int32)), .unset, .unset] [(.int (2 : Int32))]))
      refine OFin.back (fun _ hr => XS.ifYes X0.here hx rfl (pc0 := 20) (pc' := 31) rfl (hb hby at_20) rfl ((if0 _ _).trans (feq (by decide : ¬ ((2 : Int32) = (0 : Int32)))).2) (by decide) (by decide) hr) ?_
      show OFin p e below s _ _ Q (s₁.setTop (mkF m 31 #[.val (.int wh), .val (.int fl), .val (.int (2 : Int32)), .val (.int (1 : Int32)), .unset, .unset] []))
      refine OFin.back (fun _ hr => XS.iloadN X0.here hx rfl (hb hby at_31) rfl hr) ?_
      show OFin p e below s _ _ Q (s₁.setTop (mkF m 32 #[.val (.int wh), .val (.int fl), .val (.int (2 : Int32)), .val (.int (1 : Int32)), .unset, .unset] [(.int (2 : Int32))]))
      refine OFin.back (fun _ hr => XS.iconst X0.here hx rfl (hb hby at_32) hr) ?_
      show OFin p e below s _ _ Q (s₁.setTop (mkF m 33 #[.val (.int wh), .val (.int fl), .val (.int (2 : Int32)), .val (.int (1 : Int32)), .unset, .unset] [(.int (1 : Int32)), (.int (2 : Int32))]))
      refine OFin.back (fun _ hr => XS.icmpYes X0.here hx rfl (pc0 := 33) (pc' := 44) rfl (hb hby at_33) rfl (feq (by decide : ¬ ((2 : Int32) = (1 : Int32)))).2 (by decide) (by decide) hr) ?_
      show OFin p e below s _ _ Q (s₁.setTop (mkF m 44 #[.val (.int wh), .val (.int fl), .val (.int (2 : Int32)), .val (.int (1 : Int32)), .unset, .unset] []))
      obtain ⟨T15, X15, e15, st15⟩ := getS2 X0 hx hZ hown (host := "") (Or.inl (hw _ (List.mem_of_getElem? (i := 11) rfl))) Via.refl e0 S_OPTIONAL (g := (mkF m 44 #[.val (.int wh), .val (.int fl), .val (.int (2 : Int32)), .val (.int (1 : Int32)), .unset, .unset] [])) rfl (hb hby at_44)
      refine OFin.back st15 ?_
      show OFin p e below s _ _ Q (T15.setTop (mkF m 47 #[.val (.int wh), .val (.int fl), .val (.int (2 : Int32)), .val (.int (1 : Int32)), .unset, .unset] [(.ref a_OPTIONAL)]))
      refine OFin.back (fun _ hr => XS.astore X15.here hx rfl (hb hby at_47) rfl rfl (l' := #[.val (.int wh), .val (.int fl), .val (.int (2 : Int32)), .val (.int (1 : Int32)), .val (.ref a_OPTIONAL), .unset]) rfl hr) ?_
      show OFin p e below s _ _ Q (T15.setTop (mkF m 49 #[.val (.int wh), .val (.int fl), .val (.int (2 : Int32)), .val (.int (1 : Int32)), .val (.ref a_OPTIONAL), .unset] []))
      refine OFin.back (fun _ hr => XS.iloadN X15.here hx rfl (hb hby at_49) rfl hr) ?_
      show OFin p e below s _ _ Q (T15.setTop (mkF m 50 #[.val (.int wh), .val (.int fl), .val (.int (2 : Int32)), .val (.int (1 : Int32)), .val (.ref a_OPTIONAL), .unset] [(.int (2 : Int32))]))
      refine OFin.back (fun _ hr => XS.ifYes X15.here hx rfl (pc0 := 50) (pc' := 59) rfl (hb hby at_50) rfl ((if0 _ _).trans (feq (by decide : ¬ ((2 : Int32) = (0 : Int32)))).2) (by decide) (by decide) hr) ?_
      show OFin p e below s _ _ Q (T15.setTop (mkF m 59 #[.val (.int wh), .val (.int fl), .val (.int (2 : Int32)), .val (.int (1 : Int32)), .val (.ref a_OPTIONAL), .unset] []))
      refine OFin.back (fun _ hr => XS.iloadN X15.here hx rfl (hb hby at_59) rfl hr) ?_
      show OFin p e below s _ _ Q (T15.setTop (mkF m 60 #[.val (.int wh), .val (.int fl), .val (.int (2 : Int32)), .val (.int (1 : Int32)), .val (.ref a_OPTIONAL), .unset] [(.int (2 : Int32))]))
      refine OFin.back (fun _ hr => XS.iconst X15.here hx rfl (hb hby at_60) hr) ?_
      show OFin p e below s _ _ Q (T15.setTop (mkF m 61 #[.val (.int wh), .val (.int fl), .val (.int (2 : Int32)), .val (.int (1 : Int32)), .val (.ref a_OPTIONAL), .unset] [(.int (1 : Int32)), (.int (2 : Int32))]))
      refine OFin.back (fun _ hr => XS.icmpYes X15.here hx rfl (pc0 := 61) (pc' := 78) rfl (hb hby at_61) rfl (feq (by decide : ¬ ((2 : Int32) = (1 : Int32)))).2 (by decide) (by decide) hr) ?_
      show OFin p e below s _ _ Q (T15.setTop (mkF m 78 #[.val (.int wh), .val (.int fl), .val (.int (2 : Int32)), .val (.int (1 : Int32)), .val (.ref a_OPTIONAL), .unset] []))
      refine OFin.back (fun _ hr => XS.iconst X15.here hx rfl (hb hby at_78) hr) ?_
      show OFin p e below s _ _ Q (T15.setTop (mkF m 79 #[.val (.int wh), .val (.int fl), .val (.int (2 : Int32)), .val (.int (1 : Int32)), .val (.ref a_OPTIONAL), .unset] [(.int (1 : Int32))]))
      refine OFin.back (fun _ hr => XS.istore X15.here hx rfl (hb hby at_79) rfl (l' := #[.val (.int wh), .val (.int fl), .val (.int (2 : Int32)), .val (.int (1 : Int32)), .val (.ref a_OPTIONAL), .val (.int (1 : Int32))]) rfl hr) ?_
      show OFin p e below s _ _ Q (T15.setTop (mkF m 81 #[.val (.int wh), .val (.int fl), .val (.int (2 : Int32)), .val (.int (1 : Int32)), .val (.ref a_OPTIONAL), .val (.int (1 : Int32))] []))
      refine OFin.back (fun _ hr => XS.aload X15.here hx rfl (hb hby at_81) rfl rfl hr) ?_
      show OFin p e below s _ _ Q (T15.setTop (mkF m 83 #[.val (.int wh), .val (.int fl), .val (.int (2 : Int32)), .val (.int (1 : Int32)), .val (.ref a_OPTIONAL), .val (.int (1 : Int32))] [(.ref a_OPTIONAL)]))
      refine OFin.back (fun _ hr => XS.iloadN X15.here hx rfl (hb hby at_83) rfl hr) ?_
      show OFin p e below s _ _ Q (T15.setTop (mkF m 84 #[.val (.int wh), .val (.int fl), .val (.int (2 : Int32)), .val (.int (1 : Int32)), .val (.ref a_OPTIONAL), .val (.int (1 : Int32))] [(.int (1 : Int32)), (.ref a_OPTIONAL)]))
      obtain ⟨cq16, kq16, q16a, q16b, q16c⟩ := isOf hZ e15 E_OPTIONAL
      obtain ⟨_, _, ⟨T16, L16, k16, n16⟩, -, X16, ⟨Lc16, hQ16, l16, y16, z16⟩, st16⟩ := X15.virtualBack hx (y := (⟨"com/example/mortise/mortise/schema/Facets$ExplicitTimezone", "admits", "(Z)Z"⟩ : MethodName)) (z := (⟨"com/example/mortise/mortise/schema/Facets$ExplicitTimezone", "admits", "(Z)Z"⟩ : MethodName)) hown (mvT hZ (hw _ (List.mem_of_getElem? (i := 4) rfl))) (mvT hZ (hw _ (List.mem_of_getElem? (i := 5) rfl))) (notFace_of_selects (args := #[]) (mvT hZ (hw _ (List.mem_of_getElem? (i := 7) rfl)))) (mvT hZ (hw _ (List.mem_of_getElem? (i := 7) rfl))) (mvT hZ (hw _ (List.mem_of_getElem? (i := 6) rfl))) (by decide) (backOf (W := 0) (rm1 l Z a0 hw [] a_OPTIONAL (1 : Int32) a_REQUIRED a_PROHIBITED h0 n0 Z0 S_REQUIRED S_PROHIBITED) hZ (hw _ (List.mem_of_getElem? (i := 8) rfl)) (hw _ (List.mem_of_getElem? (i := 2) rfl)) (by decide) (by decide)) q16a q16c (g := (mkF m 84 #[.val (.int wh), .val (.int fl), .val (.int (2 : Int32)), .val (.int (1 : Int32)), .val (.ref a_OPTIONAL), .val (.int (1 : Int32))] [(.int (1 : Int32)), (.ref a_OPTIONAL)])) rfl (by rw [hml]; rfl) (Steps.refl _) (argsL := [(.int (1 : Int32))]) (rest := []) (lenOf pd0_0 rfl) rfl (by show 2 * 0 + _ ≤ _; exact Nat.le_of_eq rfl) (hb hby at_84) (fun _ _ => ⟨rfl, e15, (by decide : 0 + 0 ≤ _), (by decide : 0 + 0 ≤ _)⟩)
      dsimp only [Pt.U, Pt.locs, Pt.cells, Pt.slots] at X16 l16 y16 z16 st16 hQ16
      subst l16 y16 z16
      obtain ⟨rfl, N16q, e16⟩ := hQ16
      have N16 := Fr.app N0 N16q
      refine OFin.via st16 ?_
      rw [show (own_adm (1 : Int32) a_OPTIONAL a_PROHIBITED a_REQUIRED) = (1 : Int32) from by simp [own_adm, n1, n2, n3, n4]]
      show OFin p e below s _ _ Q (T16.setTop (mkF m 87 #[.val (.int wh), .val (.int fl), .val (.int (2 : Int32)), .val (.int (1 : Int32)), .val (.ref a_OPTIONAL), .val (.int (1 : Int32))] [(.int (1 : Int32))]))
      refine OFin.back (fun _ hr => XS.iload X16.here hx rfl (hb hby at_87) rfl hr) ?_
      show OFin p e below s _ _ Q (T16.setTop (mkF m 89 #[.val (.int wh), .val (.int fl), .val (.int (2 : Int32)), .val (.int (1 : Int32)), .val (.ref a_OPTIONAL), .val (.int (1 : Int32))] [(.int (1 : Int32)), (.int (1 : Int32))]))
      refine OFin.back (fun _ hr => XS.icmpNo X16.here hx rfl (hb hby at_89) rfl (teq (by decide : (1 : Int32) = (1 : Int32))).2 hr) ?_
      show OFin p e below s _ _ Q (T16.setTop (mkF m 92 #[.val (.int wh), .val (.int fl), .val (.int (2 : Int32)), .val (.int (1 : Int32)), .val (.ref a_OPTIONAL), .val (.int (1 : Int32))] []))
      refine OFin.back (fun _ hr => XS.iconst X16.here hx rfl (hb hby at_92) hr) ?_
      show OFin p e below s _ _ Q (T16.setTop (mkF m 93 #[.val (.int wh), .val (.int fl), .val (.int (2 : Int32)), .val (.int (1 : Int32)), .val (.ref a_OPTIONAL), .val (.int (1 : Int32))] [(.int (1 : Int32))]))
      refine OFin.back (fun _ hr => XS.goto X16.here hx rfl (pc0 := 93) (pc' := 97) rfl (hb hby at_93) (by decide) (by decide) hr) ?_
      show OFin p e below s _ _ Q (T16.setTop (mkF m 97 #[.val (.int wh), .val (.int fl), .val (.int (2 : Int32)), .val (.int (1 : Int32)), .val (.ref a_OPTIONAL), .val (.int (1 : Int32))] [(.int (1 : Int32))]))
      exact OFin.outN (t := .boolean) X16 hx Bd.returns (by simp) Bd.notSynchronized (hb hby at_97) (by decide) (by decide) e16 (by rw [hQ]; exact ⟨rfl, N16⟩)
set_option maxRecDepth 65536 in
set_option maxHeartbeats 40000000 in
theorem comes_1 {Post : Tables → Env → Array Value → State → Outcome → State → Prop} (hpost : ∀ tb e args s v u, (limb_1_1.after args s (.returned v) u = true ∧ limb_1_2.after args s (.returned v) u = true ∧ True) → FrameEnd s (.returned v) u (Jvm.fieldLocs frame_1_writes args s ++ Jvm.arrayLocs frame_1_arrays args s ++ Jvm.staticLocs frame_1_statics s) 0 0 → Post tb e args s (.returned v) u) :
    ArmFor flags0 classFile x code maxLocals ret World_1 tables_1 room_1 Calls_1 rest_1 Pre_1 Post := by
  intro l hfl _ _ p e ha hc hk s m args below hf hA hF happ hP
  obtain ⟨hcalls, hrest, hpre⟩ := hP
  obtain ⟨-, -, -, hnamed, -, -, -, hat⟩ := (Spec.applies_iff hf).mp happ
  obtain ⟨hg, hn⟩ := and_e (Cond.before_iff.mp (show (Jvm.Cond.and given_1 narrow_1).before args s = true from hpre))
  obtain ⟨hga, hgb⟩ := and_e hg
  obtain ⟨hgba, hgbb⟩ := and_e hgb
  obtain ⟨w0, w1, rfl⟩ : ∃ w0 w1 : Value, args = #[w0, w1] := by
    have hs : args.size = 2 := by simpa [Cond.value, given_1] using hga
    obtain ⟨L⟩ := args
    match L, hs with
    | [w0, w1], _ => exact ⟨w0, w1, rfl⟩
  have hw := fun d (hd : d ∈ tables_1) => atoms_spec (ws := Jvm.Cond.code x code maxLocals ret :: tables_1) hat d (List.mem_cons_of_mem _ hd)
  have hfit : Fit s := fun {y c} hc i hi => by
    obtain ⟨ha, rfl⟩ := Array.getElem?_eq_some_iff.mp hc
    have q := List.all_eq_true.mp ((Array.all_eq_true_iff_forall_mem.mp hF) _ (Array.getElem_mem ha)) i (List.mem_range.mpr hi)
    simpa [Array.getElem?_eq_getElem hi] using q
  obtain ⟨i0, ei0⟩ := is_v hgba
  obtain rfl : w0 = (.int i0) := Option.some.inj ei0
  obtain ⟨i1, ei1⟩ := is_v hgbb
  obtain rfl : w1 = (.int i1) := Option.some.inj ei1
  obtain ⟨hna, hnb⟩ := and_e hn
  obtain ⟨hnba, hnbb⟩ := and_e hnb
  obtain ⟨hnbba, hnbbb⟩ := and_e hnbb
  obtain ⟨hnbbba, hnbbbb⟩ := and_e hnbbb
  obtain ⟨hnbbbba, hnbbbbb⟩ := and_e hnbbbb
  obtain ⟨a_REQUIRED, ev_REQUIRED⟩ := exa_v hna
  have E_REQUIRED : Exa s s.heap a_REQUIRED "com/example/mortise/mortise/schema/Facets$ExplicitTimezone" := Exa.start ev_REQUIRED hna
  have S_REQUIRED : Sta s s.heap "com/example/mortise/mortise/schema/Facets$ExplicitTimezone" "REQUIRED" "Lcom/example/mortise/mortise/schema/Facets$ExplicitTimezone;" (.ref a_REQUIRED) := Sta.start ev_REQUIRED (Or.inr ⟨(hw _ (List.mem_of_getElem? (i := 2) rfl)), (hw _ (List.mem_of_getElem? (i := 3) rfl))⟩)
  obtain ⟨a_PROHIBITED, ev_PROHIBITED⟩ := exa_v hnba
  have E_PROHIBITED : Exa s s.heap a_PROHIBITED "com/example/mortise/mortise/schema/Facets$ExplicitTimezone" := Exa.start ev_PROHIBITED hnba
  have S_PROHIBITED : Sta s s.heap "com/example/mortise/mortise/schema/Facets$ExplicitTimezone" "PROHIBITED" "Lcom/example/mortise/mortise/schema/Facets$ExplicitTimezone;" (.ref a_PROHIBITED) := Sta.start ev_PROHIBITED (Or.inr ⟨(hw _ (List.mem_of_getElem? (i := 2) rfl)), (hw _ (List.mem_of_getElem? (i := 10) rfl))⟩)
  obtain ⟨a_OPTIONAL, ev_OPTIONAL⟩ := exa_v hnbbbba
  have E_OPTIONAL : Exa s s.heap a_OPTIONAL "com/example/mortise/mortise/schema/Facets$ExplicitTimezone" := Exa.start ev_OPTIONAL hnbbbba
  have S_OPTIONAL : Sta s s.heap "com/example/mortise/mortise/schema/Facets$ExplicitTimezone" "OPTIONAL" "Lcom/example/mortise/mortise/schema/Facets$ExplicitTimezone;" (.ref a_OPTIONAL) := Sta.start ev_OPTIONAL (Or.inr ⟨(hw _ (List.mem_of_getElem? (i := 2) rfl)), (hw _ (List.mem_of_getElem? (i := 12) rfl))⟩)
  have F_REQUIRED_ordinal := own_fldI ev_REQUIRED hnbba
  have F_PROHIBITED_ordinal := own_fldI ev_PROHIBITED hnbbba
  have F_OPTIONAL_ordinal := own_fldI ev_OPTIONAL hnbbbbb
  have n1 : a_REQUIRED ≠ a_PROHIBITED := (Fld.ne F_REQUIRED_ordinal F_PROHIBITED_ordinal (fun h => absurd (Value.int.inj h) (by decide)))
  have n3 : a_OPTIONAL ≠ a_PROHIBITED := (Fld.ne F_OPTIONAL_ordinal F_PROHIBITED_ordinal (fun h => absurd (Value.int.inj h) (by decide)))
  have n4 : a_OPTIONAL ≠ a_REQUIRED := (Fld.ne F_OPTIONAL_ordinal F_REQUIRED_ordinal (fun h => absurd (Value.int.inj h) (by decide)))
  obtain ⟨n, o, h1, h2, h3, _, L, rfl, ⟨rfl, N⟩, hq⟩ := rm0 l s _ hw tables_1 i0 i1 a_REQUIRED a_PROHIBITED a_OPTIONAL s.heap s.heap.size (Nat.le_refl _) S_REQUIRED E_REQUIRED S_PROHIBITED E_PROHIBITED S_OPTIONAL E_OPTIONAL n1 n1.symm n3 n4 p e ha hc hk s m _ below hf ((Spec.applies_iff_loose hf).mp happ).1 ⟨rfl, State.Warmed39.refl s, rfl⟩ trivial
  refine ⟨n, _, h1, h2, h3, hpost _ _ _ _ _ _ ⟨Cond.after_iff.mpr rfl, Cond.after_iff.mpr (eq_i res_at (Term.int_eval (1)) rfl), trivial⟩ ⟨hq.1, hq.2.1, (hq.2.2.sift fun y hy => Or.inr (N y hy)).mono (by decide) (by decide)⟩⟩
theorem main_1_1 : Claimed_1_1 := comes_1 fun _ _ _ _ _ _ h hF => ⟨h.1, hF⟩
theorem main_1_2 : Claimed_1_2 := comes_1 fun _ _ _ _ _ _ h hF => ⟨h.2.1, hF⟩
end Jvm.Pilot.@@N@@
namespace Jvm.Pilot.@@N@@
open Jvm Jvm.ClassFile Sem Op Lib Jvm.Free Jvm.Stand Jvm.Pilot.@@N@@.Jvm.D
/-! MADE BY PROGRAM (witnessworld.py) out of the Statement's table words and the real class files: 12 classes; the members and pool entries that the words name. The judged class is class 1, her method 1. -/
namespace start1
open Jvm.ClassFile
def u (s : String) : CpInfo := .utf8 (stringToUtf16 s)
/-- a pool by its gaps: so many unusable entries, then the entry; so many at the end -/
def gap : Nat → List CpInfo → List CpInfo
  | 0, r => r
  | n + 1, r => .unusable :: gap n r
def poolList (es : List (Nat × CpInfo)) (last : Nat) : List CpInfo := es.foldr (fun e r => gap e.1 (e.2 :: r)) (gap last [])
def pool (es : List (Nat × CpInfo)) (last : Nat) : Array CpInfo := ⟨poolList es last⟩
def fileOf (pool : Array CpInfo) (this : Nat) (attrs : Array Attribute := #[]) (ms : Array MethodInfo := #[]) (fl : Nat := 33) (sup : Nat := 0) (ifs : Array Nat := #[]) (fds : Array FieldInfo := #[]) : ClassFile where
  minorVersion := 0
  majorVersion := 65
  constantPool := pool
  accessFlags := fl
  thisClass := this
  superClass := sup
  interfaces := ifs
  fields := fds
  methods := ms
  attributes := attrs
def plain (name : String) (sup : Option ClassId) : Class where
  name := name
  kind := .ordinary
  loader := none
  accessFlags := 33
  super := sup
  interfaces := #[]
  cf := none
  fields := #[]
  methods := #[]
  instanceTypes := #[]
  staticTypes := #[]
  resolved := #[]
  callSites := []
  init := .initialized
  statics := none
  mirror := none

def pool0 : Array CpInfo := pool [(5, u "<init>"), (0, u "()V"), (1, .class_ 10), (1, u "java/lang/Object")] 113

def k0m0 : Method := { name := "<init>", desc := "()V", sig := { parameters := [], returnType := none }, accessFlags := 1, code := none }
/-- java/lang/Object -/
def k0 : Class := { plain "java/lang/Object" none with
  accessFlags := 33
  interfaces := #[]
  cf := some (fileOf pool0 8 #[] #[{ accessFlags := 1, nameIndex := 5, descriptorIndex := 6, attributes := #[] }] 33 0 #[] #[])
  fields := #[]
  methods := #[k0m0]
  instanceTypes := #[]
  staticTypes := #[]
  resolved := Array.replicate 124 none
  statics := none }

def pool1 : Array CpInfo := pool [(2, .class_ 4), (1, u "java/lang/Object"), (0, u "<init>"), (0, u "()V"), (0, .integer 2147483647), (0, .fieldref 9 10), (0, .class_ 11), (0, .nameAndType 12 13), (0, u "com/example/mortise/mortise/schema/Facets$ExplicitTimezone"), (0, u "REQUIRED"), (0, u "Lcom/example/mortise/mortise/schema/Facets$ExplicitTimezone;"), (0, .fieldref 9 15), (0, .nameAndType 16 13), (0, u "PROHIBITED"), (0, .fieldref 9 18), (0, .nameAndType 19 13), (0, u "OPTIONAL"), (0, .methodref 9 21), (0, .nameAndType 22 23), (0, u "admits"), (0, u "(Z)Z"), (0, .class_ 25), (0, u "com/example/mortise/mortise/schema/ExplicitTimezoneAdmitsPinLaw"), (2, u "law"), (0, u "(II)Z")] 7

def k1m0 : Method := { name := "<init>", desc := "()V", sig := { parameters := [], returnType := none }, accessFlags := 2, code := none }
def k1c1 : Code := { maxStack := 2, maxLocals := 6, code := code, exceptionTable := #[], attributes := #[] }
def k1m1 : Method := { name := "law", desc := "(II)Z", sig := { parameters := [.int, .int], returnType := some .boolean }, accessFlags := 9, code := some k1c1 }
/-- com/example/mortise/mortise/schema/ExplicitTimezoneAdmitsPinLaw -/
def k1 : Class := { plain "com/example/mortise/mortise/schema/ExplicitTimezoneAdmitsPinLaw" (some 0) with
  accessFlags := 49
  interfaces := #[]
  cf := some (fileOf pool1 24 #[] #[{ accessFlags := 2, nameIndex := 5, descriptorIndex := 6, attributes := #[] }, { accessFlags := 9, nameIndex := 28, descriptorIndex := 29, attributes := #[] }] 49 2 #[] #[])
  fields := #[]
  methods := #[k1m0, k1m1]
  instanceTypes := #[]
  staticTypes := #[]
  resolved := Array.replicate 37 none
  statics := none }

def pool2 : Array CpInfo := pool [(1, .class_ 2), (0, u "java/lang/constant/Constable"), (0, .class_ 4), (0, u "java/lang/Object")] 6

/-- java/lang/constant/Constable -/
def k2 : Class := { plain "java/lang/constant/Constable" (some 0) with
  accessFlags := 1537
  interfaces := #[]
  cf := some (fileOf pool2 1 #[] #[] 1537 3 #[] #[])
  fields := #[]
  methods := #[]
  instanceTypes := #[]
  staticTypes := #[]
  resolved := Array.replicate 11 none
  statics := none }

def pool3 : Array CpInfo := pool [(1, .class_ 2), (0, u "java/lang/Comparable"), (0, .class_ 4), (0, u "java/lang/Object")] 7

/-- java/lang/Comparable -/
def k3 : Class := { plain "java/lang/Comparable" (some 0) with
  accessFlags := 1537
  interfaces := #[]
  cf := some (fileOf pool3 1 #[] #[] 1537 3 #[] #[])
  fields := #[]
  methods := #[]
  instanceTypes := #[]
  staticTypes := #[]
  resolved := Array.replicate 12 none
  statics := none }

def pool4 : Array CpInfo := pool [(1, .class_ 2), (0, u "java/io/Serializable"), (0, .class_ 4), (0, u "java/lang/Object")] 2

/-- java/io/Serializable -/
def k4 : Class := { plain "java/io/Serializable" (some 0) with
  accessFlags := 1537
  interfaces := #[]
  cf := some (fileOf pool4 1 #[] #[] 1537 3 #[] #[])
  fields := #[]
  methods := #[]
  instanceTypes := #[]
  staticTypes := #[]
  resolved := Array.replicate 7 none
  statics := none }

def pool5 : Array CpInfo := pool [(2, .class_ 4), (1, u "java/lang/Enum"), (0, u "name"), (0, u "Ljava/lang/String;"), (2, u "ordinal"), (0, u "I"), (1, .class_ 14), (1, u "java/lang/Object"), (4, u "hash"), (86, .class_ 108), (1, u "java/lang/Enum$EnumDesc"), (2, .class_ 112), (0, u "java/lang/constant/Constable"), (0, .class_ 114), (0, u "java/lang/Comparable"), (0, .class_ 116), (0, u "java/io/Serializable")] 87

/-- java/lang/Enum -/
def k5 : Class := { plain "java/lang/Enum" (some 0) with
  accessFlags := 1057
  interfaces := #[2, 3, 4]
  cf := some (fileOf pool5 2 #[.nestMembers #[106]] #[] 1057 12 #[111, 113, 115] #[{ accessFlags := 18, nameIndex := 5, descriptorIndex := 6, attributes := #[] }, { accessFlags := 18, nameIndex := 9, descriptorIndex := 10, attributes := #[] }, { accessFlags := 2, nameIndex := 19, descriptorIndex := 10, attributes := #[] }])
  fields := #[{ name := "name", type := (.object "java/lang/String"), accessFlags := 18, slot := 0, constantValue := 0 }, { name := "ordinal", type := .int, accessFlags := 18, slot := 1, constantValue := 0 }, { name := "hash", type := .int, accessFlags := 2, slot := 2, constantValue := 0 }]
  methods := #[]
  instanceTypes := #[(.object "java/lang/String"), .int, .int]
  staticTypes := #[]
  resolved := Array.replicate 204 none
  statics := none }

def pool6 : Array CpInfo := pool [(1, .class_ 2), (0, u "com/example/mortise/mortise/schema/Facets$ExplicitTimezone"), (0, .fieldref 1 4), (0, .nameAndType 5 6), (0, u "REQUIRED"), (0, u "Lcom/example/mortise/mortise/schema/Facets$ExplicitTimezone;"), (0, .fieldref 1 8), (0, .nameAndType 9 6), (0, u "PROHIBITED"), (2, u "OPTIONAL"), (2, u "$VALUES"), (0, u "[Lcom/example/mortise/mortise/schema/Facets$ExplicitTimezone;"), (6, .class_ 25), (1, u "java/lang/Enum"), (8, u "keyword"), (0, u "Ljava/lang/String;"), (37, u "admits"), (0, u "(Z)Z"), (7, .class_ 83), (0, u "com/example/mortise/mortise/schema/Facets")] 22

def k6c0 : Code := { maxStack := 2, maxLocals := 2, code := prog_110_method_6_code, exceptionTable := #[], attributes := #[] }
def k6m0 : Method := { name := "admits", desc := "(Z)Z", sig := { parameters := [.boolean], returnType := some .boolean }, accessFlags := 0, code := some k6c0 }
/-- com/example/mortise/mortise/schema/Facets$ExplicitTimezone -/
def k6 : Class := { plain "com/example/mortise/mortise/schema/Facets$ExplicitTimezone" (some 5) with
  accessFlags := 16432
  interfaces := #[]
  cf := some (fileOf pool6 1 #[.nestHost 82] #[{ accessFlags := 0, nameIndex := 73, descriptorIndex := 74, attributes := #[] }] 16432 23 #[] #[{ accessFlags := 16409, nameIndex := 5, descriptorIndex := 6, attributes := #[] }, { accessFlags := 16409, nameIndex := 9, descriptorIndex := 6, attributes := #[] }, { accessFlags := 16409, nameIndex := 12, descriptorIndex := 6, attributes := #[] }, { accessFlags := 18, nameIndex := 34, descriptorIndex := 35, attributes := #[] }, { accessFlags := 4122, nameIndex := 15, descriptorIndex := 16, attributes := #[] }])
  fields := #[{ name := "REQUIRED", type := (.object "com/example/mortise/mortise/schema/Facets$ExplicitTimezone"), accessFlags := 16409, slot := 0, constantValue := 0 }, { name := "PROHIBITED", type := (.object "com/example/mortise/mortise/schema/Facets$ExplicitTimezone"), accessFlags := 16409, slot := 1, constantValue := 0 }, { name := "OPTIONAL", type := (.object "com/example/mortise/mortise/schema/Facets$ExplicitTimezone"), accessFlags := 16409, slot := 2, constantValue := 0 }, { name := "keyword", type := (.object "java/lang/String"), accessFlags := 18, slot := 3, constantValue := 0 }, { name := "$VALUES", type := (.array (.object "com/example/mortise/mortise/schema/Facets$ExplicitTimezone")), accessFlags := 4122, slot := 3, constantValue := 0 }]
  methods := #[k6m0]
  instanceTypes := #[(.object "java/lang/String"), .int, .int, (.object "java/lang/String")]
  staticTypes := #[(.object "com/example/mortise/mortise/schema/Facets$ExplicitTimezone"), (.object "com/example/mortise/mortise/schema/Facets$ExplicitTimezone"), (.object "com/example/mortise/mortise/schema/Facets$ExplicitTimezone"), (.array (.object "com/example/mortise/mortise/schema/Facets$ExplicitTimezone"))]
  resolved := Array.replicate 106 none
  statics := some 0 }

def pool7 : Array CpInfo := pool [(1, u "java/lang/Cloneable"), (0, .class_ 1), (0, u "java/lang/Object"), (0, .class_ 3)] 3

/-- java/lang/Cloneable -/
def k7 : Class := { plain "java/lang/Cloneable" (some 0) with
  accessFlags := 1537
  interfaces := #[]
  cf := some (fileOf pool7 2 #[] #[] 1537 4 #[] #[])
  fields := #[]
  methods := #[]
  instanceTypes := #[]
  staticTypes := #[]
  resolved := Array.replicate 8 none
  statics := none }

/-- the primitive byte -/
def k8 : Class := { plain "byte" none with kind := .primitive 'B', accessFlags := 0x411 }
/-- [B -/
def k9 : Class := { plain "[B" (some 0) with kind := .array 8 .byte, interfaces := #[7, 4], accessFlags := 1041 }

/-- the primitive int -/
def k10 : Class := { plain "int" none with kind := .primitive 'I', accessFlags := 0x411 }
/-- [I -/
def k11 : Class := { plain "[I" (some 0) with kind := .array 10 .int, interfaces := #[7, 4], accessFlags := 1041 }

def heap : Heap := #[{ cls := 6, slots := #[.ref 1, .ref 2, .ref 3, .null], vm := .statics 6 },
  { cls := 6, slots := #[.null, .int 0, .int 0, .null], vm := .none },
  { cls := 6, slots := #[.null, .int 1, .int 0, .null], vm := .none },
  { cls := 6, slots := #[.null, .int 2, .int 0, .null], vm := .none }]
def classes : Array Class := #[k0, k1, k2, k3, k4, k5, k6, k7, k8, k9, k10, k11]
def interned : List (Array UInt16 × Addr) := []
def slotsUsed : Nat := 16
def theMethod : MethodId := ⟨1, 1⟩
def args0 : Array Value := #[.int 5, .int 1]
def aboutOver (below : List Frame) : State where
  vm := { classes := classes, interned := interned.toArray }
  heap := heap
  slotsUsed := slotsUsed
  threads := #[{ frames := .invoking theMethod args0 :: below }]
def below0 : List Frame := [.native { method := ⟨0, 0⟩, args := #[] }]
def about1 : State := aboutOver below0
def p0 : Program := .bare "" "" ""
def e0 : Env := launch0.env 0 0 0
theorem w_frames : about1.frames = Frame.invoking theMethod args0 :: below0 := rfl
set_option maxRecDepth 65536 in
theorem w_args : argsFit about1.vm theMethod args0 = true := by decide +kernel
set_option maxRecDepth 65536 in
theorem w_heap : heapFits about1 = true := by decide +kernel
set_option maxRecDepth 65536 in
theorem w_runnable : about1.curStatus? = some .runnable := by decide +kernel
set_option maxRecDepth 65536 in
theorem w_alone : about1.alone = true := by decide +kernel
set_option maxRecDepth 65536 in
theorem w_named : about1.methodNamed? x = some theMethod := by decide +kernel
set_option maxRecDepth 65536 in
theorem w_hears : about1.hears theMethod below0 = true := by decide +kernel
set_option maxRecDepth 65536 in
theorem w_ripe : about1.ripe theMethod args0 below0 = true := by decide +kernel
theorem w_running : about1.status = .running := rfl
set_option maxRecDepth 65536 in
theorem w_room : about1.hasRoom e0.platform room_1 = true :=
  launch0.hasRoom_least _ room_1 (by decide +kernel) (by decide +kernel) (by decide +kernel) (by decide +kernel) (by decide +kernel) (by decide +kernel)
theorem allAtoms_all (ts : List Jvm.Cond) (a : Array Jvm.Value) (st : Jvm.State) : (allAtoms ts).before a st = ts.all (fun c => c.before a st) := by
  induction ts with
  | nil => rfl
  | cons c t ih =>
    show (Jvm.Cond.and c (allAtoms t)).before a st = _
    rw [Jvm.Cond.before_and, ih, List.all_cons]
def words1 : List Jvm.Cond := Jvm.Cond.code x code maxLocals ret :: tables_1
/-- a 'code' word, met by the world's own term for the bytes: nothing is compared byte by byte -/
theorem code_word {y : MethodName} {bytes : ByteArray} {mx : Nat} {rt : Option FieldType} {a : Array Value} {s : State} {m : MethodId} {meth : Method} {c : Code} (h1 : s.methodNamed? y = some m) (h2 : s.vm.method? m = some meth) (h3 : meth.code = some c) (h4 : c.code = bytes)
    (h5 : (c.maxLocals == mx && c.exceptionTable.isEmpty && decide (c.maxStack ≤ mostOperands) && decide (meth.sig.returnType = rt) && !meth.locks && decide (parseMethodDescriptor y.desc = some meth.sig)) = true) : (Jvm.Cond.code y bytes mx rt).before a s = true := by
  simp only [Bool.and_eq_true, beq_iff_eq, Bool.not_eq_true', decide_eq_true_eq] at h5
  obtain ⟨⟨⟨⟨⟨g1, g2⟩, g3⟩, g4⟩, g5⟩, g6⟩ := h5
  simp [Cond.before, Cond.holds, Cond.value, h1, h2, h3, h4, g1, g2, g3, g4, g5, g6]
def isCode : Jvm.Cond → Bool
  | .code _ _ _ _ => true
  | _ => false
theorem all_split {L : List Jvm.Cond} {P : Jvm.Cond → Bool} (h1 : L.all (fun c => isCode c || P c) = true) (h2 : ∀ c ∈ L.filter isCode, P c = true) : L.all P = true := by
  refine List.all_eq_true.mpr fun c hc => ?_
  have h := List.all_eq_true.mp h1 c hc
  rcases Bool.eq_false_or_eq_true (isCode c) with hi | hi
  · exact h2 c (List.mem_filter.mpr ⟨hc, hi⟩)
  · simpa [hi] using h
set_option maxRecDepth 65536 in
theorem w_c0 : (Jvm.Cond.code x code maxLocals ret).before args0 about1 = true := code_word (m := ⟨1, 1⟩) (meth := k1m1) (c := k1c1) (by decide +kernel) rfl rfl rfl (by decide +kernel)
set_option maxRecDepth 65536 in
theorem w_c1 : (Jvm.Cond.code ({ cls := "com/example/mortise/mortise/schema/Facets$ExplicitTimezone", name := "admits", desc := "(Z)Z" } : Jvm.MethodName) prog_110_method_6_code (2 : Nat) (Option.some Jvm.ClassFile.FieldType.boolean)).before args0 about1 = true := code_word (m := ⟨6, 0⟩) (meth := k6m0) (c := k6c0) (by decide +kernel) rfl rfl rfl (by decide +kernel)
def codes1 : List Jvm.Cond := [Jvm.Cond.code x code maxLocals ret, Jvm.Cond.code ({ cls := "com/example/mortise/mortise/schema/Facets$ExplicitTimezone", name := "admits", desc := "(Z)Z" } : Jvm.MethodName) prog_110_method_6_code (2 : Nat) (Option.some Jvm.ClassFile.FieldType.boolean)]
set_option maxRecDepth 65536 in
theorem codes_eq : words1.filter isCode = codes1 := rfl
theorem w_codes : ∀ c ∈ words1.filter isCode, c.before args0 about1 = true := by
  rw [codes_eq]
  intro c hc
  simp only [codes1, List.mem_cons, List.not_mem_nil, or_false] at hc
  rcases hc with rfl | rfl
  · exact w_c0
  · exact w_c1
set_option maxRecDepth 65536 in
theorem w_t1 : words1.all (fun c => isCode c || c.before args0 about1) = true := by decide +kernel
theorem w_tables : (allAtoms (Jvm.Cond.code x code maxLocals ret :: tables_1)).before args0 about1 = true := by
  rw [allAtoms_all]
  show words1.all (fun c => c.before args0 about1) = true
  refine all_split ?_ w_codes
  rw [w_t1]
set_option maxRecDepth 65536 in
theorem w_case : (Jvm.Cond.and given_1 narrow_1).before args0 about1 = true := by decide +kernel
theorem w_applies : (headSpec (Jvm.Cond.code x code maxLocals ret :: tables_1) room_1).applies x e0.platform about1 = true :=
  (Spec.applies_iff w_frames).mpr ⟨w_running, w_runnable, w_alone, w_named, w_hears, w_ripe, w_room, w_tables⟩
theorem atStart : AtStart classFile x code maxLocals ret World_1 tables_1 room_1 Calls_1 rest_1 Pre_1 launch0 p0 e0 about1 theMethod args0 below0 :=
  ⟨lists_1, trivial, launch0.admits_env _ _ _, launch0.least_env, fairChoices_fair.cas, fairChoices_fair.clock, w_frames, w_args, w_heap, w_applies, trivial, trivial, w_case⟩
end start1
theorem witness_1 : WitnessClaimed_1 := ⟨start1.p0, start1.e0, start1.about1, start1.theMethod, start1.args0, start1.below0, start1.atStart⟩
end Jvm.Pilot.@@N@@
