import JvmDerived
import JvmDerived.Pilot.@@N@@Statement
import JvmDerived.Pilot.@@N@@Code
set_option linter.unusedVariables false
set_option linter.unusedSimpArgs false
namespace Jvm.RoadKit
open Sem ClassFile Op Lib Jvm.Stand Jvm.Free Jvm.LawKit
section New
variable {p : Program} {l : Launch} {e : Env} {R : Room} {s : State} {m : MethodId} {args : Array Value} {below : List Frame} {meth : Method} {c : Code} {T : State} {locs : List Loc} {cells slots : Nat}
theorem retI (X : Stand p l e R s m args below meth c T locs cells slots) (hx : p.tables.exec = Jvm.exec) {pc : Nat} {Ls : Array Slot} {z : Int32} {rest : List Value} (hret : meth.sig.returnType = some .int) (hd : decode c.code pc = .ok (.ireturn, 1)) {fs : List Frame}
    (hl : ∀ (f : JFrame) (acts : List Action), f.method = m → f.locked = none → f.entered = [] → (doReturn e (T.setTop f) acts (some (.int z))).1 = T.setFrames fs) : Steps p.tables e below (T.setTop (mkF m pc Ls (.int z :: rest))) (T.setFrames fs) := by
  have hm' : T.vm.method? m = some meth := X.method'
  have hn : narrow .int (.int z) = .int z := rfl
  show Steps p.tables e below (T.setTop { method := m, pc := pc, locals := Ls, stack := _ :: rest, locked := none }) _
  jvm_step X.here [X.here.top, hx, hd, hm', hret, hn]
  first | (intro acts; rw [hl _ acts rfl rfl rfl]) | rw [hl _ _ rfl rfl rfl]
  exact Steps.refl _
/-- from S the invocation comes to its end, and Q says what it returned, the heap, the places written -/
def OFin (p : Program) (e : Env) (below : List Frame) (s : State) (k n : Nat) (Q : Option Value → Heap → List Loc → Prop) (S : State) : Prop :=
  ∃ t o, Steps p.tables e below S t ∧ t.status = .running ∧ Ended t below o ∧ ∃ v L, o = .returned v ∧ Q v t.heap L ∧ FrameEnd s o t L k n
variable {k n : Nat} {Q : Option Value → Heap → List Loc → Prop} {S S' : State}
theorem OFin.back (h : ∀ t, Steps p.tables e below S' t → Steps p.tables e below S t) (g : OFin p e below s k n Q S') : OFin p e below s k n Q S := by
  obtain ⟨t, o, h1, h2⟩ := g
  exact ⟨t, o, h t h1, h2⟩
theorem OFin.via (h : Steps p.tables e below S S') (g : OFin p e below s k n Q S') : OFin p e below s k n Q S := by
  obtain ⟨t, o, h1, h2⟩ := g
  exact ⟨t, o, h.trans h1, h2⟩
variable {h : Heap} {pc : Nat} {Ls : Array Slot} {z : Int32} {rest : List Value}
theorem OFin.outI (X : Stand p l e R s m args below meth c T locs cells slots) (hx : p.tables.exec = Jvm.exec) (hret : meth.sig.returnType = some .int) (hk : meth.locks = false) (hd : decode c.code pc = .ok (.ireturn, 1)) (hc : cells ≤ k) (hs : slots ≤ n) (eT : T.heap = h) (hq : Q (some (.int z)) h locs) :
    OFin p e below s k n Q (T.setTop (mkF m pc Ls (.int z :: rest))) := by
  obtain ⟨fs, hr, hrun, hended, hW, hsame⟩ := X.leave (v := some (.int z)) (fun h => by rw [hret] at h; cases h) hk
  exact ⟨_, _, retI X hx hret hd hr, hrun, hended, _, _, rfl, by show Q _ T.heap _; rw [eT]; exact hq, ⟨_, rfl⟩, hW, hsame.mono hc hs⟩
theorem OFin.outN {t : FieldType} (X : Stand p l e R s m args below meth c T locs cells slots) (hx : p.tables.exec = Jvm.exec) (hret : meth.sig.returnType = some t) (ht : t = .boolean ∨ t = .byte ∨ t = .char ∨ t = .short) (hk : meth.locks = false) (hd : decode c.code pc = .ok (.ireturn, 1)) (hc : cells ≤ k) (hs : slots ≤ n) (eT : T.heap = h) (hq : Q (some (.int (nar t z))) h locs) :
    OFin p e below s k n Q (T.setTop (mkF m pc Ls (.int z :: rest))) := by
  obtain ⟨fs, hr, hrun, hended, hW, hsame⟩ := X.leave (v := some (.int (nar t z))) (fun h => by rw [hret] at h; cases h) hk
  exact ⟨_, _, retN X hx hret ht hd hr, hrun, hended, _, _, rfl, by show Q _ T.heap _; rw [eT]; exact hq, ⟨_, rfl⟩, hW, hsame.mono hc hs⟩
theorem OFin.outA {t : FieldType} {w : Value} (X : Stand p l e R s m args below meth c T locs cells slots) (hx : p.tables.exec = Jvm.exec) (hret : meth.sig.returnType = some t) (ht : t.isReference = true) (hn : narrow t w = w) (hw : w.isRef = true) (hk : meth.locks = false) (hd : decode c.code pc = .ok (.areturn, 1)) (hc : cells ≤ k) (hs : slots ≤ n) (eT : T.heap = h) (hq : Q (some w) h locs) :
    OFin p e below s k n Q (T.setTop (mkF m pc Ls (w :: rest))) := by
  obtain ⟨fs, hr, hrun, hended, hW, hsame⟩ := X.leave (v := some w) (fun h => by rw [hret] at h; cases h) hk
  exact ⟨_, _, retOut X hx hret hn (Or.inr (Or.inr (Or.inr (Or.inr ⟨rfl, ht, hw⟩)))) hd hr, hrun, hended, _, _, rfl, by show Q _ T.heap _; rw [eT]; exact hq, ⟨_, rfl⟩, hW, hsame.mono hc hs⟩
theorem OFin.outJ {w : Int64} (X : Stand p l e R s m args below meth c T locs cells slots) (hx : p.tables.exec = Jvm.exec) (hret : meth.sig.returnType = some .long) (hk : meth.locks = false) (hd : decode c.code pc = .ok (.lreturn, 1)) (hc : cells ≤ k) (hs : slots ≤ n) (eT : T.heap = h) (hq : Q (some (.long w)) h locs) :
    OFin p e below s k n Q (T.setTop (mkF m pc Ls (.long w :: rest))) := by
  obtain ⟨fs, hr, hrun, hended, hW, hsame⟩ := X.leave (v := some (.long w)) (fun h => by rw [hret] at h; cases h) hk
  exact ⟨_, _, retOut X hx hret rfl (Or.inr (Or.inl ⟨rfl, rfl, _, rfl⟩)) hd hr, hrun, hended, _, _, rfl, by show Q _ T.heap _; rw [eT]; exact hq, ⟨_, rfl⟩, hW, hsame.mono hc hs⟩
theorem OFin.outV (X : Stand p l e R s m args below meth c T locs cells slots) (hx : p.tables.exec = Jvm.exec) (hret : meth.sig.returnType = none) (hk : meth.locks = false) (hd : decode c.code pc = .ok (.return_, 1)) (hc : cells ≤ k) (hs : slots ≤ n) (eT : T.heap = h) (hq : Q none h locs) :
    OFin p e below s k n Q (T.setTop (mkF m pc Ls [])) := by
  obtain ⟨fs, hr, hrun, hended, hW, hsame⟩ := X.leave (v := none) (fun _ => rfl) hk
  exact ⟨_, _, X.returnOut hx hret hd hr, hrun, hended, _, _, rfl, by show Q _ T.heap _; rw [eT]; exact hq, ⟨_, rfl⟩, hW, hsame.mono hc hs⟩
end New
end Jvm.RoadKit
namespace Jvm.Pilot.@@N@@
open Jvm Jvm.ClassFile Sem Op Lib Jvm.Free Jvm.Stand Jvm.LawKit Jvm.RoadKit Bundle Jvm.Pilot.@@N@@.Jvm.D

theorem own_fldI {Z : State} {args : Array Value} {t : Term} {a : Addr} {C n d : String} {k : Int32} (ht : t.eval args Z none [] Z = some (.ref a)) (h : (Jvm.Cond.eq (Jvm.Term.field t C n d) (Jvm.Term.int k)).value args Z none Z [] = some true) : Fld Z Z.heap a C n d (.int k) := by
  exact Fld.start ((fld_at ht).symm.trans (eqv_i (F := Jvm.Term.int k) rfl h))

theorem own_ne {a b n : Nat} (h : a < n) (g : b = n) : a ≠ b := by omega
theorem own_sta {Z : State} {C n d : String} {v : Value} {k : Nat} {h : Heap} (S : Sta Z Z.heap C n d v) (O : Old Z k h) : Sta Z h C n d v := S.ext O.2
def own_miss (n : Int32) : Int32 := if n = 0 then -1 else 0
theorem own_z : (0 : Int32).toInt = 0 := by decide
theorem own_i1 : (1 : Int32).toInt = 1 := by decide
theorem own_nn {n : Int32} (h : ¬ n < 0) : 0 ≤ n.toInt := by rw [Int32.lt_iff_toInt_lt, own_z] at h; omega
theorem own_neg {i : Int32} (hk : i.toInt + 1 = ((0 : Nat) : Int)) : i < (0 : Int32) := by
  rw [Int32.lt_iff_toInt_lt, own_z]; omega
theorem own_m1 {n : Int32} (h : ¬ n < 0) : (n - (1 : Int32)).toInt + 1 = (n.toNatClampNeg : Int) := by
  have h1 := own_nn h
  have h2 := c_isub n 1
  have h3 := rng32 (n - 1)
  have h4 := rng32 n
  have h5 := nat_of h
  have h6 := own_i1
  omega
theorem own_m2 {n : Int32} (h : ¬ n < 0) : (n - (1 : Int32)).toInt + 1 = n.toInt := by rw [own_m1 h, nat_of h]
theorem own_m3 {i : Int32} {k : Nat} (h : ¬ i < (0 : Int32)) (hk : i.toInt + 1 = ((k + 1 : Nat) : Int)) : (i + (-1 : Int32)).toInt + 1 = (k : Int) := by
  have h1 := own_nn h
  have h2 := c_iadd i (-1)
  have h3 := rng32 (i + (-1))
  have h4 := rng32 i
  have h6 : (-1 : Int32).toInt = -1 := by decide
  omega
theorem own_m4 {i n : Int32} (h : ¬ i < (0 : Int32)) (hn : i < n) : (i + (-1 : Int32)).toInt + 1 < n.toInt ∧ i.toInt = (i + (-1 : Int32)).toInt + 1 := by
  have h1 := own_nn h
  have h2 := c_iadd i (-1)
  have h3 := rng32 (i + (-1))
  have h4 := rng32 i
  have h6 : (-1 : Int32).toInt = -1 := by decide
  rw [Int32.lt_iff_toInt_lt] at hn
  omega
theorem own_m5 {i r n : Int32} (h : ¬ n < 0) (hk : i.toInt + 1 = ((0 : Nat) : Int)) (hr : (i.toInt + 1 = n.toInt ∧ r = -1) ∨ (i.toInt + 1 < n.toInt ∧ r.toInt = i.toInt + 1)) : r = own_miss n := by
  have hz := own_z
  unfold own_miss
  rcases hr with ⟨h1, h2⟩ | ⟨h1, h2⟩
  · rw [if_pos (Int32.toInt_inj.mp (by omega)), h2]
  · rw [if_neg (fun q => by rw [q] at h1; omega)]
    exact Int32.toInt_inj.mp (by omega)
theorem own_n0 (x : Int32) : ¬ (x &&& (7 : Int32)) < 0 := by
  have h := c_mask x 7 3 (by decide) (by decide)
  rw [Int32.lt_iff_toInt_lt, own_z]; omega
theorem own_n7 (x : Int32) : (x &&& (7 : Int32)).toNatClampNeg ≤ 7 := by
  have h := c_mask x 7 3 (by decide) (by decide)
  have h2 := nat_of (own_n0 x)
  omega
theorem own_pos {n : Int32} (h : ¬ n < 0) (hz : ¬ n = 0) : (0 : Int32) < n := by
  have h1 := own_nn h
  have h2 : n.toInt ≠ (0 : Int32).toInt := fun q => hz (Int32.toInt_inj.mp q)
  rw [own_z] at h2
  rw [Int32.lt_iff_toInt_lt, own_z]; omega
theorem own_fm {x n : Int32} (hp : (0 : Int32) < n) : 0 ≤ ((x &&& (2147483647 : Int32)) % n).toInt ∧ ((x &&& (2147483647 : Int32)) % n).toInt < n.toInt := by
  have h := c_mask x 2147483647 31 (by decide) (by decide)
  have h2 : ((x &&& (2147483647 : Int32)) % n).toInt = (x &&& (2147483647 : Int32)).toInt.tmod n.toInt := Int32.toInt_mod _ _
  have h7 : 0 ≤ (x &&& (2147483647 : Int32)).toInt := by rw [h]; omega
  rw [Int32.lt_iff_toInt_lt, own_z] at hp
  rw [Int.tmod_eq_emod_of_nonneg h7] at h2
  exact ⟨by rw [h2]; exact Int.emod_nonneg _ (by omega), by rw [h2]; exact Int.emod_lt_of_pos _ hp⟩
theorem own_f0 {x n : Int32} (hp : (0 : Int32) < n) : ¬ ((x &&& (2147483647 : Int32)) % n) < 0 := by
  have h := (own_fm (x := x) hp).1
  rw [Int32.lt_iff_toInt_lt, own_z]; omega
theorem own_f1 {x n : Int32} (hp : (0 : Int32) < n) : ((x &&& (2147483647 : Int32)) % n) < n := Int32.lt_iff_toInt_lt.mpr (own_fm hp).2
theorem own_lt_ne {a b n : Nat} (h : a < n) (g : n ≤ b) : a ≠ b := by omega
theorem own_hit {c : Cell} {j : Nat} {v : Value} (h : j < c.slots.size) : (c.setSlot j v).slots[j]? = some v := by simp [Cell.setSlot, h]
theorem d1_0 : decode prog_181_method_1_code 0 = .ok (.aload_n 0, 1) := by decide +kernel
theorem d1_1 : decode prog_181_method_1_code 1 = .ok (.invokespecial 1, 3) := by decide +kernel
theorem d1_4 : decode prog_181_method_1_code 4 = .ok (.aload_n 0, 1) := by decide +kernel
theorem d1_5 : decode prog_181_method_1_code 5 = .ok (.iload_n 1, 1) := by decide +kernel
theorem d1_6 : decode prog_181_method_1_code 6 = .ok (.anewarray 2, 3) := by decide +kernel
theorem d1_9 : decode prog_181_method_1_code 9 = .ok (.putfield 7, 3) := by decide +kernel
theorem d1_12 : decode prog_181_method_1_code 12 = .ok (.aload_n 0, 1) := by decide +kernel
theorem d1_13 : decode prog_181_method_1_code 13 = .ok (.iload_n 1, 1) := by decide +kernel
theorem d1_14 : decode prog_181_method_1_code 14 = .ok (.anewarray 13, 3) := by decide +kernel
theorem d1_17 : decode prog_181_method_1_code 17 = .ok (.putfield 15, 3) := by decide +kernel
theorem d1_20 : decode prog_181_method_1_code 20 = .ok (.aload_n 0, 1) := by decide +kernel
theorem d1_21 : decode prog_181_method_1_code 21 = .ok (.iload_n 1, 1) := by decide +kernel
theorem d1_22 : decode prog_181_method_1_code 22 = .ok (.newarray .int, 2) := by decide +kernel
theorem d1_24 : decode prog_181_method_1_code 24 = .ok (.putfield 19, 3) := by decide +kernel
theorem d1_27 : decode prog_181_method_1_code 27 = .ok (.return_, 1) := by decide +kernel
theorem pn1 : plainName "com/example/mortise/mortise/validate/KeySequence" = true := by first | (simp [plainName, overriddenIn]; done) | decide +kernel
theorem ef1 (m : MethodId) (a : Addr) (nn : Int32) : entryFrame m #[(.ref a), (.int nn)] 2 = mkF m 0 #[.val (.ref a), .val (.int nn)] [] := by first | (simp [entryFrame, mkF, argsToLocals, Value.category]; done) | rfl
def Q1 (Z : State) (a : Addr) (nn : Int32) (h0 : Heap) (n0 : Nat) (v : Option Value) (h : Heap) (L : List Loc) : Prop := v = none ∧ Fr n0 L ∧ Keep h0 h [a] ∧ Exa Z h a "com/example/mortise/mortise/validate/KeySequence" ∧ ∃ (x y z : Addr) (k1 k2 k3 : ClassId), (Fld Z h a "com/example/mortise/mortise/validate/KeySequence" "values" "[Ljava/lang/Object;" (.ref x) ∧ Fld Z h a "com/example/mortise/mortise/validate/KeySequence" "texts" "[Ljava/lang/String;" (.ref y) ∧ Fld Z h a "com/example/mortise/mortise/validate/KeySequence" "found" "[I" (.ref z) ∧ Fld Z h a "com/example/mortise/mortise/validate/KeySequence" "unknown" "Z" (.int (0 : Int32)) ∧ Arv Z h x k1 (.object "java/lang/Object") nn [] .null ∧ Arv Z h y k2 (.object "java/lang/String") nn [] .null ∧ Arv Z h z k3 .int nn [] (.int (0 : Int32))) ∧ (n0 ≤ x ∧ n0 ≤ y ∧ n0 ≤ z ∧ h0.size ≤ x ∧ h0.size ≤ y ∧ h0.size ≤ z ∧ x ≠ y ∧ x ≠ z ∧ y ≠ z)
set_option maxRecDepth 65536 in
set_option maxHeartbeats 40000000 in
theorem rm1 (l : Launch) (Z : State) (a0 : Array Value) (hw : ∀ d ∈ tables_1, d.before a0 Z = true) (ws : List Jvm.Cond) (a : Addr) (nn : Int32) (h0 : Heap) (n0 : Nat) (Z0 : n0 ≤ h0.size) (F_values : Fld Z h0 a "com/example/mortise/mortise/validate/KeySequence" "values" "[Ljava/lang/Object;" .null) (F_texts : Fld Z h0 a "com/example/mortise/mortise/validate/KeySequence" "texts" "[Ljava/lang/String;" .null) (F_found : Fld Z h0 a "com/example/mortise/mortise/validate/KeySequence" "found" "[I" .null) (F_unknown : Fld Z h0 a "com/example/mortise/mortise/validate/KeySequence" "unknown" "Z" (.int (0 : Int32))) (EX : Exa Z h0 a "com/example/mortise/mortise/validate/KeySequence") (ga : n0 ≤ a) (hn : ¬ nn < 0) (hc : nn.toNatClampNeg ≤ 7) :
    MetFree l (⟨"com/example/mortise/mortise/validate/KeySequence", "<init>", "(I)V"⟩ : MethodName) (head1 (Jvm.Cond.code (⟨"com/example/mortise/mortise/validate/KeySequence", "<init>", "(I)V"⟩ : MethodName) prog_181_method_1_code 2 none :: ws) ({ frames := 1, cells := 3, slots := 21, locals := 20 } : Room)) (fun ar_ U => ar_ = #[(.ref a), (.int nn)] ∧ Z.Warmed39 U.vm ∧ U.heap = h0) (fun _ _ _ _ _ => True) (fun _ U o U' => ∃ v L, o = .returned v ∧ Q1 Z a nn h0 n0 v U'.heap L ∧ FrameEnd U o U' L ({ frames := 1, cells := 3, slots := 21, locals := 20 } : Room).cells ({ frames := 1, cells := 3, slots := 21, locals := 20 } : Room).slots) := by
  refine MetFree.of_bodySF (plainFor_of_name pn1) hisR ?_
  intro p e s m args below meth c s₁ Bd hml0 hP hK
  obtain ⟨rfl, hZ, hh⟩ := hP
  have hx := Bd.exec
  have hby := Bd.bytes
  have hml : c.maxLocals = 2 := hml0
  have hown : s.vm.findClass "com/example/mortise/mortise/validate/KeySequence" = some m.cls := findClass_of_methodNamed Bd.named
  have hnm := (name_of_methodNamed Bd.named Bd.method).1
  have X0 : Stand p l e ({ frames := 1, cells := 3, slots := 21, locals := 20 } : Room) s m #[(.ref a), (.int nn)] below meth c s₁ [] 0 0 := Stand.of_body Bd
  have e0 : s₁.heap = h0 := by rw [← hh, Bd.state]; rfl
  have N0 := Fr.nil n0
  show OFin p e below s _ _ (Q1 Z a nn h0 n0) (s₁.setTop (entryFrame m #[(.ref a), (.int nn)] 2))
  rw [ef1]
  obtain ⟨Q, hQ⟩ : ∃ Q, Q = Q1 Z a nn h0 n0 := ⟨_, rfl⟩
  rw [← hQ]
  show OFin p e below s _ _ Q (s₁.setTop (mkF m 0 #[.val (.ref a), .val (.int nn)] []))
  refine OFin.back (fun _ hr => XS.aloadN X0.here hx rfl (hb hby d1_0) rfl rfl hr) ?_
  show OFin p e below s _ _ Q (s₁.setTop (mkF m 1 #[.val (.ref a), .val (.int nn)] [(.ref a)]))
  obtain ⟨T1, X1, e1, st1⟩ := initO X0 hx hZ hown (hw _ (List.mem_of_getElem? (i := 6) rfl)) (hw _ (List.mem_of_getElem? (i := 7) rfl)) (hw _ (List.mem_of_getElem? (i := 8) rfl)) e0 (g := (mkF m 1 #[.val (.ref a), .val (.int nn)] [(.ref a)])) rfl (by rw [hml]; rfl) rfl (hb hby d1_1) (by decide) (W := 0) (by show 2 * 0 + _ ≤ _; exact Nat.le_of_eq rfl) (by decide)
  refine OFin.back st1 ?_
  show OFin p e below s _ _ Q (T1.setTop (mkF m 4 #[.val (.ref a), .val (.int nn)] []))
  refine OFin.back (fun _ hr => XS.aloadN X1.here hx rfl (hb hby d1_4) rfl rfl hr) ?_
  show OFin p e below s _ _ Q (T1.setTop (mkF m 5 #[.val (.ref a), .val (.int nn)] [(.ref a)]))
  refine OFin.back (fun _ hr => XS.iloadN X1.here hx rfl (hb hby d1_5) rfl hr) ?_
  show OFin p e below s _ _ Q (T1.setTop (mkF m 6 #[.val (.ref a), .val (.int nn)] [(.int nn), (.ref a)]))
  obtain ⟨T2, h2, k2, X2, e2, E2, A2, O2, st2⟩ := newR X1 hx hZ hown (hw _ (List.mem_of_getElem? (i := 9) rfl)) (hw _ (List.mem_of_getElem? (i := 10) rfl)) e1 (g := (mkF m 6 #[.val (.ref a), .val (.int nn)] [(.int nn), (.ref a)])) rfl (hb hby d1_6) rfl hn (cap := 7) hc (by decide) (by decide) (by decide)
  obtain ⟨bq2, g2⟩ : ∃ z, z = h0.size := ⟨_, rfl⟩
  rw [← g2] at A2 st2
  have f3 := own_ne F_values.lt g2
  have f4 := Nat.le_trans Z0 (Nat.le_of_eq g2.symm)
  have f5 := Nat.le_trans (Keep.refl h0 [a]).1 (Nat.le_of_eq g2.symm)
  have f6 := F_values.ext E2
  have f7 := F_texts.ext E2
  have f8 := F_found.ext E2
  have f9 := F_unknown.ext E2
  have f10 := EX.ext E2
  have f11 := Nat.le_trans Z0 E2.1
  have f12 := (Keep.refl h0 [a]).ext E2
  have V2 : Arv Z h2 bq2 k2 (.object "java/lang/Object") nn [] .null := Arv.new A2 hn
  refine OFin.back st2 ?_
  show OFin p e below s _ _ Q (T2.setTop (mkF m 9 #[.val (.ref a), .val (.int nn)] [(.ref bq2), (.ref a)]))
  obtain ⟨T13, h13, X13, e13, W13, st13⟩ := putF X2 hx hZ hown (host := "") (Or.inl (hw _ (List.mem_of_getElem? (i := 11) rfl))) Via.refl e2 f6 f10 (Or.inr ⟨(hw _ (List.mem_of_getElem? (i := 12) rfl)), rfl, hnm⟩) (hw _ (List.mem_of_getElem? (i := 1) rfl)) (ty := (.array (.object "java/lang/Object"))) (by decide) rfl rfl (g := (mkF m 9 #[.val (.ref a), .val (.int nn)] [(.ref bq2), (.ref a)])) rfl rfl (hb hby d1_9)
  have f14 := f6.same W13
  have f15 := f7.other W13 (Or.inr (slot_ne (Or.inr (hw _ (List.mem_of_getElem? (i := 16) rfl))) (Or.inr (hw _ (List.mem_of_getElem? (i := 12) rfl))) (by decide) (t := (.array (.object "java/lang/String"))) (t' := (.array (.object "java/lang/Object"))) (by decide) (by decide)))
  have f16 := f8.other W13 (Or.inr (slot_ne (Or.inr (hw _ (List.mem_of_getElem? (i := 19) rfl))) (Or.inr (hw _ (List.mem_of_getElem? (i := 12) rfl))) (by decide) (t := (.array .int)) (t' := (.array (.object "java/lang/Object"))) (by decide) (by decide)))
  have f17 := f9.other W13 (Or.inr (slot_ne (Or.inl (hw _ (List.mem_of_getElem? (i := 32) rfl))) (Or.inr (hw _ (List.mem_of_getElem? (i := 12) rfl))) (by decide) (t := .boolean) (t' := (.array (.object "java/lang/Object"))) (by decide) (by decide)))
  have f18 := f10.wr W13
  have f19 := V2.other W13 (Ne.symm f3)
  have f20 := Nat.le_trans f11 (Keep.of_wr W13).1
  have f21 := f12.wr W13 (Or.inl (List.mem_of_getElem? (i := 0) rfl))
  have N13 := Fr.snoc X13 N0 ga
  refine OFin.back st13 ?_
  show OFin p e below s _ _ Q (T13.setTop (mkF m 12 #[.val (.ref a), .val (.int nn)] []))
  refine OFin.back (fun _ hr => XS.aloadN X13.here hx rfl (hb hby d1_12) rfl rfl hr) ?_
  show OFin p e below s _ _ Q (T13.setTop (mkF m 13 #[.val (.ref a), .val (.int nn)] [(.ref a)]))
  refine OFin.back (fun _ hr => XS.iloadN X13.here hx rfl (hb hby d1_13) rfl hr) ?_
  show OFin p e below s _ _ Q (T13.setTop (mkF m 14 #[.val (.ref a), .val (.int nn)] [(.int nn), (.ref a)]))
  obtain ⟨T22, h22, k22, X22, e22, E22, A22, O22, st22⟩ := newR X13 hx hZ hown (hw _ (List.mem_of_getElem? (i := 13) rfl)) (hw _ (List.mem_of_getElem? (i := 14) rfl)) e13 (g := (mkF m 14 #[.val (.ref a), .val (.int nn)] [(.int nn), (.ref a)])) rfl (hb hby d1_14) rfl hn (cap := 7) hc (by decide) (by decide) (by decide)
  obtain ⟨bq22, g22⟩ : ∃ z, z = h13.size := ⟨_, rfl⟩
  rw [← g22] at A22 st22
  have f23 := own_ne f15.lt g22
  have f24 := own_ne f19.lt g22
  have f25 := Nat.le_trans f20 (Nat.le_of_eq g22.symm)
  have f26 := Nat.le_trans f21.1 (Nat.le_of_eq g22.symm)
  have f27 := f15.ext E22
  have f28 := f16.ext E22
  have f29 := f17.ext E22
  have f30 := f18.ext E22
  have f31 := f19.ext E22
  have f32 := f14.ext E22
  have f33 := Nat.le_trans f20 E22.1
  have f34 := f21.ext E22
  have V22 : Arv Z h22 bq22 k22 (.object "java/lang/String") nn [] .null := Arv.new A22 hn
  refine OFin.back st22 ?_
  show OFin p e below s _ _ Q (T22.setTop (mkF m 17 #[.val (.ref a), .val (.int nn)] [(.ref bq22), (.ref a)]))
  obtain ⟨T35, h35, X35, e35, W35, st35⟩ := putF X22 hx hZ hown (host := "") (Or.inl (hw _ (List.mem_of_getElem? (i := 15) rfl))) Via.refl e22 f27 f30 (Or.inr ⟨(hw _ (List.mem_of_getElem? (i := 16) rfl)), rfl, hnm⟩) (hw _ (List.mem_of_getElem? (i := 1) rfl)) (ty := (.array (.object "java/lang/String"))) (by decide) rfl rfl (g := (mkF m 17 #[.val (.ref a), .val (.int nn)] [(.ref bq22), (.ref a)])) rfl rfl (hb hby d1_17)
  have f36 := f27.same W35
  have f37 := f28.other W35 (Or.inr (slot_ne (Or.inr (hw _ (List.mem_of_getElem? (i := 19) rfl))) (Or.inr (hw _ (List.mem_of_getElem? (i := 16) rfl))) (by decide) (t := (.array .int)) (t' := (.array (.object "java/lang/String"))) (by decide) (by decide)))
  have f38 := f29.other W35 (Or.inr (slot_ne (Or.inl (hw _ (List.mem_of_getElem? (i := 32) rfl))) (Or.inr (hw _ (List.mem_of_getElem? (i := 16) rfl))) (by decide) (t := .boolean) (t' := (.array (.object "java/lang/String"))) (by decide) (by decide)))
  have f39 := f30.wr W35
  have f40 := f31.other W35 (Ne.symm f3)
  have f41 := f32.other W35 (Or.inr (slot_ne (Or.inr (hw _ (List.mem_of_getElem? (i := 12) rfl))) (Or.inr (hw _ (List.mem_of_getElem? (i := 16) rfl))) (by decide) (t := (.array (.object "java/lang/Object"))) (t' := (.array (.object "java/lang/String"))) (by decide) (by decide)))
  have f42 := V22.other W35 (Ne.symm f23)
  have f43 := Nat.le_trans f33 (Keep.of_wr W35).1
  have f44 := f34.wr W35 (Or.inl (List.mem_of_getElem? (i := 0) rfl))
  have N35 := Fr.snoc X35 N13 ga
  refine OFin.back st35 ?_
  show OFin p e below s _ _ Q (T35.setTop (mkF m 20 #[.val (.ref a), .val (.int nn)] []))
  refine OFin.back (fun _ hr => XS.aloadN X35.here hx rfl (hb hby d1_20) rfl rfl hr) ?_
  show OFin p e below s _ _ Q (T35.setTop (mkF m 21 #[.val (.ref a), .val (.int nn)] [(.ref a)]))
  refine OFin.back (fun _ hr => XS.iloadN X35.here hx rfl (hb hby d1_21) rfl hr) ?_
  show OFin p e below s _ _ Q (T35.setTop (mkF m 22 #[.val (.ref a), .val (.int nn)] [(.int nn), (.ref a)]))
  obtain ⟨T45, h45, k45, X45, e45, E45, A45, st45⟩ := newP X35 hx hZ (hw _ (List.mem_of_getElem? (i := 17) rfl)) e35 (g := (mkF m 22 #[.val (.ref a), .val (.int nn)] [(.int nn), (.ref a)])) rfl (hb hby d1_22) rfl hn (cap := 7) hc (by decide) (by decide) (by decide)
  obtain ⟨bq45, g45⟩ : ∃ z, z = h35.size := ⟨_, rfl⟩
  rw [← g45] at A45 st45
  have f46 := own_ne f37.lt g45
  have f47 := own_ne f40.lt g45
  have f48 := own_ne f42.lt g45
  have f49 := Nat.le_trans f43 (Nat.le_of_eq g45.symm)
  have f50 := Nat.le_trans f44.1 (Nat.le_of_eq g45.symm)
  have f51 := f37.ext E45
  have f52 := f38.ext E45
  have f53 := f39.ext E45
  have f54 := f40.ext E45
  have f55 := f41.ext E45
  have f56 := f42.ext E45
  have f57 := f36.ext E45
  have f58 := Nat.le_trans f43 E45.1
  have f59 := f44.ext E45
  have V45 : Arv Z h45 bq45 k45 .int nn [] (.int (0 : Int32)) := Arv.new A45 hn
  refine OFin.back st45 ?_
  show OFin p e below s _ _ Q (T45.setTop (mkF m 24 #[.val (.ref a), .val (.int nn)] [(.ref bq45), (.ref a)]))
  obtain ⟨T60, h60, X60, e60, W60, st60⟩ := putF X45 hx hZ hown (host := "") (Or.inl (hw _ (List.mem_of_getElem? (i := 18) rfl))) Via.refl e45 f51 f53 (Or.inr ⟨(hw _ (List.mem_of_getElem? (i := 19) rfl)), rfl, hnm⟩) (hw _ (List.mem_of_getElem? (i := 1) rfl)) (ty := (.array .int)) (by decide) rfl rfl (g := (mkF m 24 #[.val (.ref a), .val (.int nn)] [(.ref bq45), (.ref a)])) rfl rfl (hb hby d1_24)
  have f61 := f51.same W60
  have f62 := f52.other W60 (Or.inr (slot_ne (Or.inl (hw _ (List.mem_of_getElem? (i := 32) rfl))) (Or.inr (hw _ (List.mem_of_getElem? (i := 19) rfl))) (by decide) (t := .boolean) (t' := (.array .int)) (by decide) (by decide)))
  have f63 := f53.wr W60
  have f64 := f54.other W60 (Ne.symm f3)
  have f65 := f55.other W60 (Or.inr (slot_ne (Or.inr (hw _ (List.mem_of_getElem? (i := 12) rfl))) (Or.inr (hw _ (List.mem_of_getElem? (i := 19) rfl))) (by decide) (t := (.array (.object "java/lang/Object"))) (t' := (.array .int)) (by decide) (by decide)))
  have f66 := f56.other W60 (Ne.symm f23)
  have f67 := f57.other W60 (Or.inr (slot_ne (Or.inr (hw _ (List.mem_of_getElem? (i := 16) rfl))) (Or.inr (hw _ (List.mem_of_getElem? (i := 19) rfl))) (by decide) (t := (.array (.object "java/lang/String"))) (t' := (.array .int)) (by decide) (by decide)))
  have f68 := V45.other W60 (Ne.symm f46)
  have f69 := Nat.le_trans f58 (Keep.of_wr W60).1
  have f70 := f59.wr W60 (Or.inl (List.mem_of_getElem? (i := 0) rfl))
  have N60 := Fr.snoc X60 N35 ga
  refine OFin.back st60 ?_
  show OFin p e below s _ _ Q (T60.setTop (mkF m 27 #[.val (.ref a), .val (.int nn)] []))
  exact OFin.outV X60 hx Bd.returns Bd.notSynchronized (hb hby d1_27) (by decide) (by decide) e60 (by rw [hQ]; exact ⟨rfl, N60, f70, f63, bq2, bq22, bq45, k2, k22, k45, ⟨f65, f67, f61, f62, f64, f66, f68⟩, ⟨f4, f25, f49, f5, f26, f50, f24, f47, f48⟩⟩)
theorem d2_0 : decode prog_181_method_6_code 0 = .ok (.iconst (-1), 1) := by decide +kernel
theorem d2_1 : decode prog_181_method_6_code 1 = .ok (.istore_n 1, 1) := by decide +kernel
theorem d2_2 : decode prog_181_method_6_code 2 = .ok (.aload_n 0, 1) := by decide +kernel
theorem d2_3 : decode prog_181_method_6_code 3 = .ok (.getfield 7, 3) := by decide +kernel
theorem d2_6 : decode prog_181_method_6_code 6 = .ok (.arraylength, 1) := by decide +kernel
theorem d2_7 : decode prog_181_method_6_code 7 = .ok (.iconst 1, 1) := by decide +kernel
theorem d2_8 : decode prog_181_method_6_code 8 = .ok (.isub, 1) := by decide +kernel
theorem d2_9 : decode prog_181_method_6_code 9 = .ok (.istore_n 2, 1) := by decide +kernel
theorem d2_10 : decode prog_181_method_6_code 10 = .ok (.iload_n 2, 1) := by decide +kernel
theorem d2_11 : decode prog_181_method_6_code 11 = .ok (.ifCond .lt 24, 3) := by decide +kernel
theorem d2_14 : decode prog_181_method_6_code 14 = .ok (.aload_n 0, 1) := by decide +kernel
theorem d2_15 : decode prog_181_method_6_code 15 = .ok (.getfield 7, 3) := by decide +kernel
theorem d2_18 : decode prog_181_method_6_code 18 = .ok (.iload_n 2, 1) := by decide +kernel
theorem d2_19 : decode prog_181_method_6_code 19 = .ok (.aaload, 1) := by decide +kernel
theorem d2_20 : decode prog_181_method_6_code 20 = .ok (.ifnonnull 7, 3) := by decide +kernel
theorem d2_23 : decode prog_181_method_6_code 23 = .ok (.iload_n 2, 1) := by decide +kernel
theorem d2_24 : decode prog_181_method_6_code 24 = .ok (.goto 4, 3) := by decide +kernel
theorem d2_28 : decode prog_181_method_6_code 28 = .ok (.istore_n 1, 1) := by decide +kernel
theorem d2_29 : decode prog_181_method_6_code 29 = .ok (.iinc 2 (-1), 3) := by decide +kernel
theorem d2_32 : decode prog_181_method_6_code 32 = .ok (.goto (-22), 3) := by decide +kernel
theorem d2_35 : decode prog_181_method_6_code 35 = .ok (.iload_n 1, 1) := by decide +kernel
theorem d2_36 : decode prog_181_method_6_code 36 = .ok (.ireturn, 1) := by decide +kernel
theorem pn2 : plainName "com/example/mortise/mortise/validate/KeySequence" = true := by first | (simp [plainName, overriddenIn]; done) | decide +kernel
theorem ef2 (m : MethodId) (a : Addr) : entryFrame m #[(.ref a)] 3 = mkF m 0 #[.val (.ref a), .unset, .unset] [] := by first | (simp [entryFrame, mkF, argsToLocals, Value.category]; done) | rfl
def Q2 (Z : State) (a : Addr) (nn : Int32) (x : Addr) (k1 : ClassId) (h0 : Heap) (n0 : Nat) (v : Option Value) (h : Heap) (L : List Loc) : Prop := v = some (.int (own_miss nn)) ∧ Fr n0 L ∧ h = h0
set_option maxRecDepth 65536 in
set_option maxHeartbeats 40000000 in
theorem rm2 (l : Launch) (Z : State) (a0 : Array Value) (hw : ∀ d ∈ tables_1, d.before a0 Z = true) (ws : List Jvm.Cond) (a : Addr) (nn : Int32) (x : Addr) (k1 : ClassId) (h0 : Heap) (n0 : Nat) (Z0 : n0 ≤ h0.size) (F1 : Fld Z h0 a "com/example/mortise/mortise/validate/KeySequence" "values" "[Ljava/lang/Object;" (.ref x)) (V1 : Arv Z h0 x k1 (.object "java/lang/Object") nn [] .null) (hn : ¬ nn < 0) :
    MetFree l (⟨"com/example/mortise/mortise/validate/KeySequence", "missing", "()I"⟩ : MethodName) (head1 (Jvm.Cond.code (⟨"com/example/mortise/mortise/validate/KeySequence", "missing", "()I"⟩ : MethodName) prog_181_method_6_code 3 (some .int) :: ws) ({ frames := 0, cells := 0, slots := 0, locals := 0 } : Room)) (fun ar_ U => ar_ = #[(.ref a)] ∧ Z.Warmed39 U.vm ∧ U.heap = h0) (fun _ _ _ _ _ => True) (fun _ U o U' => ∃ v L, o = .returned v ∧ Q2 Z a nn x k1 h0 n0 v U'.heap L ∧ FrameEnd U o U' L ({ frames := 0, cells := 0, slots := 0, locals := 0 } : Room).cells ({ frames := 0, cells := 0, slots := 0, locals := 0 } : Room).slots) := by
  refine MetFree.of_bodySF (plainFor_of_name pn2) hisR ?_
  intro p e s m args below meth c s₁ Bd hml0 hP hK
  obtain ⟨rfl, hZ, hh⟩ := hP
  have hx := Bd.exec
  have hby := Bd.bytes
  have hml : c.maxLocals = 3 := hml0
  have hown : s.vm.findClass "com/example/mortise/mortise/validate/KeySequence" = some m.cls := findClass_of_methodNamed Bd.named
  have hnm := (name_of_methodNamed Bd.named Bd.method).1
  have X0 : Stand p l e ({ frames := 0, cells := 0, slots := 0, locals := 0 } : Room) s m #[(.ref a)] below meth c s₁ [] 0 0 := Stand.of_body Bd
  have e0 : s₁.heap = h0 := by rw [← hh, Bd.state]; rfl
  have N0 := Fr.nil n0
  show OFin p e below s _ _ (Q2 Z a nn x k1 h0 n0) (s₁.setTop (entryFrame m #[(.ref a)] 3))
  rw [ef2]
  obtain ⟨Q, hQ⟩ : ∃ Q, Q = Q2 Z a nn x k1 h0 n0 := ⟨_, rfl⟩
  rw [← hQ]
  show OFin p e below s _ _ Q (s₁.setTop (mkF m 0 #[.val (.ref a), .unset, .unset] []))
  refine OFin.back (fun _ hr => XS.iconst X0.here hx rfl (hb hby d2_0) hr) ?_
  show OFin p e below s _ _ Q (s₁.setTop (mkF m 1 #[.val (.ref a), .unset, .unset] [(.int (-1 : Int32))]))
  refine OFin.back (fun _ hr => XS.istoreN X0.here hx rfl (hb hby d2_1) rfl (l' := #[.val (.ref a), .val (.int (-1 : Int32)), .unset]) rfl hr) ?_
  show OFin p e below s _ _ Q (s₁.setTop (mkF m 2 #[.val (.ref a), .val (.int (-1 : Int32)), .unset] []))
  refine OFin.back (fun _ hr => XS.aloadN X0.here hx rfl (hb hby d2_2) rfl rfl hr) ?_
  show OFin p e below s _ _ Q (s₁.setTop (mkF m 3 #[.val (.ref a), .val (.int (-1 : Int32)), .unset] [(.ref a)]))
  obtain ⟨T1, X1, e1, st1⟩ := getF X0 hx hZ hown (host := "") (Or.inl (hw _ (List.mem_of_getElem? (i := 11) rfl))) Via.refl e0 F1 (g := (mkF m 3 #[.val (.ref a), .val (.int (-1 : Int32)), .unset] [(.ref a)])) rfl rfl (hb hby d2_3)
  refine OFin.back st1 ?_
  show OFin p e below s _ _ Q (T1.setTop (mkF m 6 #[.val (.ref a), .val (.int (-1 : Int32)), .unset] [(.ref x)]))
  obtain ⟨cl2, Ar2, q2, S2, M2, H2, G2⟩ := id V1
  refine OFin.back (X1.arraylength hx (by rw [e1]; exact Ar2.1) (State.isArrayOf_alike hZ.alike Ar2.2.1) (g := (mkF m 6 #[.val (.ref a), .val (.int (-1 : Int32)), .unset] [(.ref x)])) rfl rfl (hb hby d2_6)) ?_
  rw [len_of S2 M2]
  show OFin p e below s _ _ Q (T1.setTop (mkF m 7 #[.val (.ref a), .val (.int (-1 : Int32)), .unset] [(.int nn)]))
  refine OFin.back (fun _ hr => XS.iconst X1.here hx rfl (hb hby d2_7) hr) ?_
  show OFin p e below s _ _ Q (T1.setTop (mkF m 8 #[.val (.ref a), .val (.int (-1 : Int32)), .unset] [(.int (1 : Int32)), (.int nn)]))
  refine OFin.back (fun _ hr => XS.isub X1.here hx rfl (hb hby d2_8) rfl hr) ?_
  show OFin p e below s _ _ Q (T1.setTop (mkF m 9 #[.val (.ref a), .val (.int (-1 : Int32)), .unset] [(.int (nn - (1 : Int32)))]))
  refine OFin.back (fun _ hr => XS.istoreN X1.here hx rfl (hb hby d2_9) rfl (l' := #[.val (.ref a), .val (.int (-1 : Int32)), .val (.int (nn - (1 : Int32)))]) rfl hr) ?_
  show OFin p e below s _ _ Q (T1.setTop (mkF m 10 #[.val (.ref a), .val (.int (-1 : Int32)), .val (.int (nn - (1 : Int32)))] []))
  have LOOP : ∀ (k : Nat) (i r : Int32) (T1 : State), Stand p l e ({ frames := 0, cells := 0, slots := 0, locals := 0 } : Room) s m #[(.ref a)] below meth c T1 [] 0 0 → T1.heap = h0 → i.toInt + 1 = k → ((i.toInt + 1 = nn.toInt ∧ r = -1) ∨ (i.toInt + 1 < nn.toInt ∧ r.toInt = i.toInt + 1)) → OFin p e below s ({ frames := 0, cells := 0, slots := 0, locals := 0 } : Room).cells ({ frames := 0, cells := 0, slots := 0, locals := 0 } : Room).slots Q (T1.setTop (mkF m 10 #[.val (.ref a), .val (.int r), .val (.int i)] [])) := by
    intro k
    induction k with
    | zero =>
      intro i r T1 X1 e1 hk hr
      have hi : i < (0 : Int32) := own_neg hk
      show OFin p e below s _ _ Q (T1.setTop (mkF m 10 #[.val (.ref a), .val (.int r), .val (.int i)] []))
      refine OFin.back (fun _ hr => XS.iloadN X1.here hx rfl (hb hby d2_10) rfl hr) ?_
      show OFin p e below s _ _ Q (T1.setTop (mkF m 11 #[.val (.ref a), .val (.int r), .val (.int i)] [(.int i)]))
      refine OFin.back (fun _ hr => XS.ifYes X1.here hx rfl (pc0 := 11) (pc' := 35) rfl (hb hby d2_11) rfl ((if0 _ _).trans (tlt hi).1) (by decide) (by decide) hr) ?_
      show OFin p e below s _ _ Q (T1.setTop (mkF m 35 #[.val (.ref a), .val (.int r), .val (.int i)] []))
      refine OFin.back (fun _ hr => XS.iloadN X1.here hx rfl (hb hby d2_35) rfl hr) ?_
      show OFin p e below s _ _ Q (T1.setTop (mkF m 36 #[.val (.ref a), .val (.int r), .val (.int i)] [(.int r)]))
      exact OFin.outI X1 hx Bd.returns Bd.notSynchronized (hb hby d2_36) (by decide) (by decide) e1 (by rw [hQ]; exact ⟨by rw [own_m5 hn hk hr], N0, rfl⟩)
    | succ k ih =>
      intro i r T1 X1 e1 hk hr
      have h0' : (0 : Int32).toInt = 0 := by decide
      have hi : ¬ i < (0 : Int32) := fun q => by rw [Int32.lt_iff_toInt_lt] at q; omega
      have hin : i < nn := Int32.lt_iff_toInt_lt.mpr (by rcases hr with hr | hr <;> omega)
      show OFin p e below s _ _ Q (T1.setTop (mkF m 10 #[.val (.ref a), .val (.int r), .val (.int i)] []))
      refine OFin.back (fun _ hr => XS.iloadN X1.here hx rfl (hb hby d2_10) rfl hr) ?_
      show OFin p e below s _ _ Q (T1.setTop (mkF m 11 #[.val (.ref a), .val (.int r), .val (.int i)] [(.int i)]))
      refine OFin.back (fun _ hr => XS.ifNo X1.here hx rfl (hb hby d2_11) rfl ((if0 _ _).trans (flt hi).1) hr) ?_
      show OFin p e below s _ _ Q (T1.setTop (mkF m 14 #[.val (.ref a), .val (.int r), .val (.int i)] []))
      refine OFin.back (fun _ hr => XS.aloadN X1.here hx rfl (hb hby d2_14) rfl rfl hr) ?_
      show OFin p e below s _ _ Q (T1.setTop (mkF m 15 #[.val (.ref a), .val (.int r), .val (.int i)] [(.ref a)]))
      obtain ⟨T3, X3, e3, st3⟩ := getF X1 hx hZ hown (host := "") (Or.inl (hw _ (List.mem_of_getElem? (i := 11) rfl))) Via.refl e1 F1 (g := (mkF m 15 #[.val (.ref a), .val (.int r), .val (.int i)] [(.ref a)])) rfl rfl (hb hby d2_15)
      refine OFin.back st3 ?_
      show OFin p e below s _ _ Q (T3.setTop (mkF m 18 #[.val (.ref a), .val (.int r), .val (.int i)] [(.ref x)]))
      refine OFin.back (fun _ hr => XS.iloadN X3.here hx rfl (hb hby d2_18) rfl hr) ?_
      show OFin p e below s _ _ Q (T3.setTop (mkF m 19 #[.val (.ref a), .val (.int r), .val (.int i)] [(.int i), (.ref x)]))
      obtain ⟨cl4, Ar4, q4, S4, M4, H4, G4⟩ := id V1
      have hin4 : ¬ (i < 0 ∨ cl4.slots.size ≤ (i).toNatClampNeg) := inb_of S4 ⟨hi, hin⟩
      refine OFin.back (X3.aaload hx (j := i) (v := .null) (by rw [e3]; exact Ar4.1) (State.isArrayOf_alike hZ.alike Ar4.2.1) rfl Ar4.2.2 hin4 (H4.at hin4 rfl) (g := (mkF m 19 #[.val (.ref a), .val (.int r), .val (.int i)] [(.int i), (.ref x)])) rfl rfl (hb hby d2_19)) ?_
      show OFin p e below s _ _ Q (T3.setTop (mkF m 20 #[.val (.ref a), .val (.int r), .val (.int i)] [.null]))
      refine OFin.back (fun _ hr => XS.ifnonnullNo X3.here hx rfl (hb hby d2_20) rfl hr) ?_
      show OFin p e below s _ _ Q (T3.setTop (mkF m 23 #[.val (.ref a), .val (.int r), .val (.int i)] []))
      refine OFin.back (fun _ hr => XS.iloadN X3.here hx rfl (hb hby d2_23) rfl hr) ?_
      show OFin p e below s _ _ Q (T3.setTop (mkF m 24 #[.val (.ref a), .val (.int r), .val (.int i)] [(.int i)]))
      refine OFin.back (fun _ hr => XS.goto X3.here hx rfl (pc0 := 24) (pc' := 28) rfl (hb hby d2_24) (by decide) (by decide) hr) ?_
      show OFin p e below s _ _ Q (T3.setTop (mkF m 28 #[.val (.ref a), .val (.int r), .val (.int i)] [(.int i)]))
      refine OFin.back (fun _ hr => XS.istoreN X3.here hx rfl (hb hby d2_28) rfl (l' := #[.val (.ref a), .val (.int i), .val (.int i)]) rfl hr) ?_
      show OFin p e below s _ _ Q (T3.setTop (mkF m 29 #[.val (.ref a), .val (.int i), .val (.int i)] []))
      refine OFin.back (fun _ hr => XS.iinc X3.here hx rfl (hb hby d2_29) rfl (l' := #[.val (.ref a), .val (.int i), .val (.int (i + (-1 : Int32)))]) rfl hr) ?_
      show OFin p e below s _ _ Q (T3.setTop (mkF m 32 #[.val (.ref a), .val (.int i), .val (.int (i + (-1 : Int32)))] []))
      refine OFin.back (fun _ hr => XS.goto X3.here hx rfl (pc0 := 32) (pc' := 10) rfl (hb hby d2_32) (by decide) (by decide) hr) ?_
      show OFin p e below s _ _ Q (T3.setTop (mkF m 10 #[.val (.ref a), .val (.int i), .val (.int (i + (-1 : Int32)))] []))
      exact ih _ _ _ X3 e3 (own_m3 hi hk) (Or.inr (own_m4 hi hin))
  exact LOOP nn.toNatClampNeg _ _ _ X1 e1 (own_m1 hn) (Or.inl ⟨own_m2 hn, rfl⟩)
theorem d3_0 : decode prog_181_method_4_code 0 = .ok (.aload_n 0, 1) := by decide +kernel
theorem d3_1 : decode prog_181_method_4_code 1 = .ok (.iconst 1, 1) := by decide +kernel
theorem d3_2 : decode prog_181_method_4_code 2 = .ok (.putfield 29, 3) := by decide +kernel
theorem d3_5 : decode prog_181_method_4_code 5 = .ok (.return_, 1) := by decide +kernel
theorem pn3 : plainName "com/example/mortise/mortise/validate/KeySequence" = true := by first | (simp [plainName, overriddenIn]; done) | decide +kernel
theorem ef3 (m : MethodId) (a : Addr) : entryFrame m #[(.ref a)] 1 = mkF m 0 #[.val (.ref a)] [] := by first | (simp [entryFrame, mkF, argsToLocals, Value.category]; done) | rfl
def Q3 (Z : State) (a : Addr) (x : Addr) (u : Int32) (h0 : Heap) (n0 : Nat) (v : Option Value) (h : Heap) (L : List Loc) : Prop := v = none ∧ Fr n0 L ∧ Keep h0 h [a] ∧ Exa Z h a "com/example/mortise/mortise/validate/KeySequence" ∧ Fld Z h a "com/example/mortise/mortise/validate/KeySequence" "values" "[Ljava/lang/Object;" (.ref x) ∧ Fld Z h a "com/example/mortise/mortise/validate/KeySequence" "unknown" "Z" (.int (1 : Int32))
set_option maxRecDepth 65536 in
set_option maxHeartbeats 40000000 in
theorem rm3 (l : Launch) (Z : State) (a0 : Array Value) (hw : ∀ d ∈ tables_1, d.before a0 Z = true) (ws : List Jvm.Cond) (a : Addr) (x : Addr) (u : Int32) (h0 : Heap) (n0 : Nat) (Z0 : n0 ≤ h0.size) (F1 : Fld Z h0 a "com/example/mortise/mortise/validate/KeySequence" "values" "[Ljava/lang/Object;" (.ref x)) (F4 : Fld Z h0 a "com/example/mortise/mortise/validate/KeySequence" "unknown" "Z" (.int u)) (EX : Exa Z h0 a "com/example/mortise/mortise/validate/KeySequence") (ga : n0 ≤ a) :
    MetFree l (⟨"com/example/mortise/mortise/validate/KeySequence", "forget", "()V"⟩ : MethodName) (head1 (Jvm.Cond.code (⟨"com/example/mortise/mortise/validate/KeySequence", "forget", "()V"⟩ : MethodName) prog_181_method_4_code 1 none :: ws) ({ frames := 0, cells := 0, slots := 0, locals := 0 } : Room)) (fun ar_ U => ar_ = #[(.ref a)] ∧ Z.Warmed39 U.vm ∧ U.heap = h0) (fun _ _ _ _ _ => True) (fun _ U o U' => ∃ v L, o = .returned v ∧ Q3 Z a x u h0 n0 v U'.heap L ∧ FrameEnd U o U' L ({ frames := 0, cells := 0, slots := 0, locals := 0 } : Room).cells ({ frames := 0, cells := 0, slots := 0, locals := 0 } : Room).slots) := by
  refine MetFree.of_bodySF (plainFor_of_name pn3) hisR ?_
  intro p e s m args below meth c s₁ Bd hml0 hP hK
  obtain ⟨rfl, hZ, hh⟩ := hP
  have hx := Bd.exec
  have hby := Bd.bytes
  have hml : c.maxLocals = 1 := hml0
  have hown : s.vm.findClass "com/example/mortise/mortise/validate/KeySequence" = some m.cls := findClass_of_methodNamed Bd.named
  have hnm := (name_of_methodNamed Bd.named Bd.method).1
  have X0 : Stand p l e ({ frames := 0, cells := 0, slots := 0, locals := 0 } : Room) s m #[(.ref a)] below meth c s₁ [] 0 0 := Stand.of_body Bd
  have e0 : s₁.heap = h0 := by rw [← hh, Bd.state]; rfl
  have N0 := Fr.nil n0
  show OFin p e below s _ _ (Q3 Z a x u h0 n0) (s₁.setTop (entryFrame m #[(.ref a)] 1))
  rw [ef3]
  obtain ⟨Q, hQ⟩ : ∃ Q, Q = Q3 Z a x u h0 n0 := ⟨_, rfl⟩
  rw [← hQ]
  show OFin p e below s _ _ Q (s₁.setTop (mkF m 0 #[.val (.ref a)] []))
  refine OFin.back (fun _ hr => XS.aloadN X0.here hx rfl (hb hby d3_0) rfl rfl hr) ?_
  show OFin p e below s _ _ Q (s₁.setTop (mkF m 1 #[.val (.ref a)] [(.ref a)]))
  refine OFin.back (fun _ hr => XS.iconst X0.here hx rfl (hb hby d3_1) hr) ?_
  show OFin p e below s _ _ Q (s₁.setTop (mkF m 2 #[.val (.ref a)] [(.int (1 : Int32)), (.ref a)]))
  obtain ⟨T1, h1, X1, e1, W1, st1⟩ := putFN X0 hx hZ hown (hw _ (List.mem_of_getElem? (i := 31) rfl)) Via.refl e0 F4 EX (Or.inl (hw _ (List.mem_of_getElem? (i := 32) rfl))) (hw _ (List.mem_of_getElem? (i := 1) rfl)) (ty := .boolean) (v' := (.int (1 : Int32))) (by decide) rfl (by decide) (g := (mkF m 2 #[.val (.ref a)] [(.int (1 : Int32)), (.ref a)])) rfl rfl (hb hby d3_2)
  have f2 := F4.same W1
  have f3 := F1.other W1 (Or.inr (slot_ne (Or.inr (hw _ (List.mem_of_getElem? (i := 12) rfl))) (Or.inl (hw _ (List.mem_of_getElem? (i := 32) rfl))) (by decide) (t := (.array (.object "java/lang/Object"))) (t' := .boolean) (by decide) (by decide)))
  have f4 := EX.wr W1
  have f5 := Nat.le_trans Z0 (Keep.of_wr W1).1
  have f6 := (Keep.refl h0 [a]).wr W1 (Or.inl (List.mem_of_getElem? (i := 0) rfl))
  have N1 := Fr.snoc X1 N0 ga
  refine OFin.back st1 ?_
  show OFin p e below s _ _ Q (T1.setTop (mkF m 5 #[.val (.ref a)] []))
  exact OFin.outV X1 hx Bd.returns Bd.notSynchronized (hb hby d3_5) (by decide) (by decide) e1 (by rw [hQ]; exact ⟨rfl, N1, f6, f4, f3, f2⟩)
theorem d4_0 : decode prog_181_method_2_code 0 = .ok (.aload_n 0, 1) := by decide +kernel
theorem d4_1 : decode prog_181_method_2_code 1 = .ok (.getfield 19, 3) := by decide +kernel
theorem d4_4 : decode prog_181_method_2_code 4 = .ok (.iload_n 1, 1) := by decide +kernel
theorem d4_5 : decode prog_181_method_2_code 5 = .ok (.dup2, 1) := by decide +kernel
theorem d4_6 : decode prog_181_method_2_code 6 = .ok (.iaload, 1) := by decide +kernel
theorem d4_7 : decode prog_181_method_2_code 7 = .ok (.iload_n 2, 1) := by decide +kernel
theorem d4_8 : decode prog_181_method_2_code 8 = .ok (.iadd, 1) := by decide +kernel
theorem d4_9 : decode prog_181_method_2_code 9 = .ok (.iastore, 1) := by decide +kernel
theorem d4_10 : decode prog_181_method_2_code 10 = .ok (.aload_n 0, 1) := by decide +kernel
theorem d4_11 : decode prog_181_method_2_code 11 = .ok (.getfield 19, 3) := by decide +kernel
theorem d4_14 : decode prog_181_method_2_code 14 = .ok (.iload_n 1, 1) := by decide +kernel
theorem d4_15 : decode prog_181_method_2_code 15 = .ok (.iaload, 1) := by decide +kernel
theorem d4_16 : decode prog_181_method_2_code 16 = .ok (.iconst 1, 1) := by decide +kernel
theorem d4_17 : decode prog_181_method_2_code 17 = .ok (.if_icmp .le 7, 3) := by decide +kernel
theorem d4_20 : decode prog_181_method_2_code 20 = .ok (.iconst 1, 1) := by decide +kernel
theorem d4_21 : decode prog_181_method_2_code 21 = .ok (.goto 4, 3) := by decide +kernel
theorem d4_24 : decode prog_181_method_2_code 24 = .ok (.iconst 0, 1) := by decide +kernel
theorem d4_25 : decode prog_181_method_2_code 25 = .ok (.ireturn, 1) := by decide +kernel
theorem pn4 : plainName "com/example/mortise/mortise/validate/KeySequence" = true := by first | (simp [plainName, overriddenIn]; done) | decide +kernel
theorem ef4 (m : MethodId) (a : Addr) (ff : Int32) (nd : Int32) : entryFrame m #[(.ref a), (.int ff), (.int nd)] 3 = mkF m 0 #[.val (.ref a), .val (.int ff), .val (.int nd)] [] := by first | (simp [entryFrame, mkF, argsToLocals, Value.category]; done) | rfl
def Q4 (Z : State) (a : Addr) (ff : Int32) (nd : Int32) (nn : Int32) (z : Addr) (k3 : ClassId) (h0 : Heap) (n0 : Nat) (v : Option Value) (h : Heap) (L : List Loc) : Prop := ∃ r : Int32, v = some (.int r) ∧ Fr n0 L ∧ Keep h0 h [z]
set_option maxRecDepth 65536 in
set_option maxHeartbeats 40000000 in
theorem rm4 (l : Launch) (Z : State) (a0 : Array Value) (hw : ∀ d ∈ tables_1, d.before a0 Z = true) (ws : List Jvm.Cond) (a : Addr) (ff : Int32) (nd : Int32) (nn : Int32) (z : Addr) (k3 : ClassId) (h0 : Heap) (n0 : Nat) (Z0 : n0 ≤ h0.size) (F3 : Fld Z h0 a "com/example/mortise/mortise/validate/KeySequence" "found" "[I" (.ref z)) (V3 : Arv Z h0 z k3 .int nn [] (.int (0 : Int32))) (hf0 : ¬ ff < 0) (hf1 : ff < nn) (gz : n0 ≤ z) (naz : a ≠ z) :
    MetFree l (⟨"com/example/mortise/mortise/validate/KeySequence", "select", "(II)Z"⟩ : MethodName) (head1 (Jvm.Cond.code (⟨"com/example/mortise/mortise/validate/KeySequence", "select", "(II)Z"⟩ : MethodName) prog_181_method_2_code 3 (some .boolean) :: ws) ({ frames := 0, cells := 0, slots := 0, locals := 0 } : Room)) (fun ar_ U => ar_ = #[(.ref a), (.int ff), (.int nd)] ∧ Z.Warmed39 U.vm ∧ U.heap = h0) (fun _ _ _ _ _ => True) (fun _ U o U' => ∃ v L, o = .returned v ∧ Q4 Z a ff nd nn z k3 h0 n0 v U'.heap L ∧ FrameEnd U o U' L ({ frames := 0, cells := 0, slots := 0, locals := 0 } : Room).cells ({ frames := 0, cells := 0, slots := 0, locals := 0 } : Room).slots) := by
  refine MetFree.of_bodySF (plainFor_of_name pn4) hisR ?_
  intro p e s m args below meth c s₁ Bd hml0 hP hK
  obtain ⟨rfl, hZ, hh⟩ := hP
  have hx := Bd.exec
  have hby := Bd.bytes
  have hml : c.maxLocals = 3 := hml0
  have hown : s.vm.findClass "com/example/mortise/mortise/validate/KeySequence" = some m.cls := findClass_of_methodNamed Bd.named
  have hnm := (name_of_methodNamed Bd.named Bd.method).1
  have X0 : Stand p l e ({ frames := 0, cells := 0, slots := 0, locals := 0 } : Room) s m #[(.ref a), (.int ff), (.int nd)] below meth c s₁ [] 0 0 := Stand.of_body Bd
  have e0 : s₁.heap = h0 := by rw [← hh, Bd.state]; rfl
  have N0 := Fr.nil n0
  show OFin p e below s _ _ (Q4 Z a ff nd nn z k3 h0 n0) (s₁.setTop (entryFrame m #[(.ref a), (.int ff), (.int nd)] 3))
  rw [ef4]
  obtain ⟨Q, hQ⟩ : ∃ Q, Q = Q4 Z a ff nd nn z k3 h0 n0 := ⟨_, rfl⟩
  rw [← hQ]
  show OFin p e below s _ _ Q (s₁.setTop (mkF m 0 #[.val (.ref a), .val (.int ff), .val (.int nd)] []))
  refine OFin.back (fun _ hr => XS.aloadN X0.here hx rfl (hb hby d4_0) rfl rfl hr) ?_
  show OFin p e below s _ _ Q (s₁.setTop (mkF m 1 #[.val (.ref a), .val (.int ff), .val (.int nd)] [(.ref a)]))
  obtain ⟨T1, X1, e1, st1⟩ := getF X0 hx hZ hown (host := "") (Or.inl (hw _ (List.mem_of_getElem? (i := 18) rfl))) Via.refl e0 F3 (g := (mkF m 1 #[.val (.ref a), .val (.int ff), .val (.int nd)] [(.ref a)])) rfl rfl (hb hby d4_1)
  refine OFin.back st1 ?_
  show OFin p e below s _ _ Q (T1.setTop (mkF m 4 #[.val (.ref a), .val (.int ff), .val (.int nd)] [(.ref z)]))
  refine OFin.back (fun _ hr => XS.iloadN X1.here hx rfl (hb hby d4_4) rfl hr) ?_
  show OFin p e below s _ _ Q (T1.setTop (mkF m 5 #[.val (.ref a), .val (.int ff), .val (.int nd)] [(.int ff), (.ref z)]))
  refine OFin.back (fun _ hr => Jvm.Free.XT.dup2 X1.here hx rfl (hb hby d4_5) rfl rfl rfl hr) ?_
  show OFin p e below s _ _ Q (T1.setTop (mkF m 6 #[.val (.ref a), .val (.int ff), .val (.int nd)] [(.int ff), (.ref z), (.int ff), (.ref z)]))
  obtain ⟨cl2, Ar2, q2, S2, M2, H2, G2⟩ := id V3
  have hin2 : ¬ (ff < 0 ∨ cl2.slots.size ≤ (ff).toNatClampNeg) := inb_of S2 ⟨hf0, hf1⟩
  refine OFin.back (X1.iaload hx (j := ff) (v := (.int (0 : Int32))) (by rw [e1]; exact Ar2.1) (State.isArrayOf_alike hZ.alike Ar2.2.1) Ar2.2.2 hin2 (H2.at hin2 rfl) (g := (mkF m 6 #[.val (.ref a), .val (.int ff), .val (.int nd)] [(.int ff), (.ref z), (.int ff), (.ref z)])) rfl rfl (hb hby d4_6)) ?_
  show OFin p e below s _ _ Q (T1.setTop (mkF m 7 #[.val (.ref a), .val (.int ff), .val (.int nd)] [(.int (0 : Int32)), (.int ff), (.ref z)]))
  refine OFin.back (fun _ hr => XS.iloadN X1.here hx rfl (hb hby d4_7) rfl hr) ?_
  show OFin p e below s _ _ Q (T1.setTop (mkF m 8 #[.val (.ref a), .val (.int ff), .val (.int nd)] [(.int nd), (.int (0 : Int32)), (.int ff), (.ref z)]))
  refine OFin.back (fun _ hr => XS.iadd X1.here hx rfl (hb hby d4_8) rfl hr) ?_
  show OFin p e below s _ _ Q (T1.setTop (mkF m 9 #[.val (.ref a), .val (.int ff), .val (.int nd)] [(.int ((0 : Int32) + nd)), (.int ff), (.ref z)]))
  obtain ⟨clw, Arw, qw, Sw, Mw, Hw, Gw⟩ := id V3
  have hinw : ¬ (ff < 0 ∨ clw.slots.size ≤ (ff).toNatClampNeg) := inb_of Sw ⟨hf0, hf1⟩
  obtain ⟨T3, h3, X3, e3, W3, st3⟩ := stI X1 hx hZ e1 Arw (j := ff) hinw (g := (mkF m 9 #[.val (.ref a), .val (.int ff), .val (.int nd)] [(.int ((0 : Int32) + nd)), (.int ff), (.ref z)])) rfl rfl (hb hby d4_9)
  have f4 := F3.other W3 (Or.inl naz)
  have f5 := Nat.le_trans Z0 (Keep.of_wr W3).1
  have f6 := (Keep.refl h0 [z]).wr W3 (Or.inl (List.mem_of_getElem? (i := 0) rfl))
  have N3 := Fr.snoc X3 N0 gz
  have Ars := Arw.same W3
  have hats : (clw.setSlot ff.toNatClampNeg (.int ((0 : Int32) + nd))).slots[ff.toNatClampNeg]? = some (.int ((0 : Int32) + nd)) := own_hit (Nat.lt_of_not_le fun q => hinw (Or.inr q))
  have hins : ¬ (ff < 0 ∨ (clw.setSlot ff.toNatClampNeg (.int ((0 : Int32) + nd))).slots.size ≤ (ff).toNatClampNeg) := by rw [sz_set]; exact hinw
  refine OFin.back st3 ?_
  show OFin p e below s _ _ Q (T3.setTop (mkF m 10 #[.val (.ref a), .val (.int ff), .val (.int nd)] []))
  refine OFin.back (fun _ hr => XS.aloadN X3.here hx rfl (hb hby d4_10) rfl rfl hr) ?_
  show OFin p e below s _ _ Q (T3.setTop (mkF m 11 #[.val (.ref a), .val (.int ff), .val (.int nd)] [(.ref a)]))
  obtain ⟨T7, X7, e7, st7⟩ := getF X3 hx hZ hown (host := "") (Or.inl (hw _ (List.mem_of_getElem? (i := 18) rfl))) Via.refl e3 f4 (g := (mkF m 11 #[.val (.ref a), .val (.int ff), .val (.int nd)] [(.ref a)])) rfl rfl (hb hby d4_11)
  refine OFin.back st7 ?_
  show OFin p e below s _ _ Q (T7.setTop (mkF m 14 #[.val (.ref a), .val (.int ff), .val (.int nd)] [(.ref z)]))
  refine OFin.back (fun _ hr => XS.iloadN X7.here hx rfl (hb hby d4_14) rfl hr) ?_
  show OFin p e below s _ _ Q (T7.setTop (mkF m 15 #[.val (.ref a), .val (.int ff), .val (.int nd)] [(.int ff), (.ref z)]))
  refine OFin.back (X7.iaload hx (j := ff) (v := (.int ((0 : Int32) + nd))) (by rw [e7]; exact Ars.1) (State.isArrayOf_alike hZ.alike Ars.2.1) Ars.2.2 hins hats (g := (mkF m 15 #[.val (.ref a), .val (.int ff), .val (.int nd)] [(.int ff), (.ref z)])) rfl rfl (hb hby d4_15)) ?_
  show OFin p e below s _ _ Q (T7.setTop (mkF m 16 #[.val (.ref a), .val (.int ff), .val (.int nd)] [(.int ((0 : Int32) + nd))]))
  refine OFin.back (fun _ hr => XS.iconst X7.here hx rfl (hb hby d4_16) hr) ?_
  show OFin p e below s _ _ Q (T7.setTop (mkF m 17 #[.val (.ref a), .val (.int ff), .val (.int nd)] [(.int (1 : Int32)), (.int ((0 : Int32) + nd))]))
  by_cases hc17_8 : (1 : Int32) < ((0 : Int32) + nd)
  · -- (1 : Int32) < ((0 : Int32) + nd)
    refine OFin.back (fun _ hr => XS.icmpNo X7.here hx rfl (hb hby d4_17) rfl (tlt hc17_8).2.2.2 hr) ?_
    show OFin p e below s _ _ Q (T7.setTop (mkF m 20 #[.val (.ref a), .val (.int ff), .val (.int nd)] []))
    refine OFin.back (fun _ hr => XS.iconst X7.here hx rfl (hb hby d4_20) hr) ?_
    show OFin p e below s _ _ Q (T7.setTop (mkF m 21 #[.val (.ref a), .val (.int ff), .val (.int nd)] [(.int (1 : Int32))]))
    refine OFin.back (fun _ hr => XS.goto X7.here hx rfl (pc0 := 21) (pc' := 25) rfl (hb hby d4_21) (by decide) (by decide) hr) ?_
    show OFin p e below s _ _ Q (T7.setTop (mkF m 25 #[.val (.ref a), .val (.int ff), .val (.int nd)] [(.int (1 : Int32))]))
    exact OFin.outN (t := .boolean) X7 hx Bd.returns (by simp) Bd.notSynchronized (hb hby d4_25) (by decide) (by decide) e7 (by rw [hQ]; exact ⟨_, rfl, N3, f6⟩)
  · -- not (1 : Int32) < ((0 : Int32) + nd)
    refine OFin.back (fun _ hr => XS.icmpYes X7.here hx rfl (pc0 := 17) (pc' := 24) rfl (hb hby d4_17) rfl (flt hc17_8).2.2.2 (by decide) (by decide) hr) ?_
    show OFin p e below s _ _ Q (T7.setTop (mkF m 24 #[.val (.ref a), .val (.int ff), .val (.int nd)] []))
    refine OFin.back (fun _ hr => XS.iconst X7.here hx rfl (hb hby d4_24) hr) ?_
    show OFin p e below s _ _ Q (T7.setTop (mkF m 25 #[.val (.ref a), .val (.int ff), .val (.int nd)] [(.int (0 : Int32))]))
    exact OFin.outN (t := .boolean) X7 hx Bd.returns (by simp) Bd.notSynchronized (hb hby d4_25) (by decide) (by decide) e7 (by rw [hQ]; exact ⟨_, rfl, N3, f6⟩)
theorem d5_0 : decode prog_181_method_3_code 0 = .ok (.aload_n 2, 1) := by decide +kernel
theorem d5_1 : decode prog_181_method_3_code 1 = .ok (.ifnull 10, 3) := by decide +kernel
theorem d5_11 : decode prog_181_method_3_code 11 = .ok (.aload_n 0, 1) := by decide +kernel
theorem d5_12 : decode prog_181_method_3_code 12 = .ok (.iconst 1, 1) := by decide +kernel
theorem d5_13 : decode prog_181_method_3_code 13 = .ok (.putfield 29, 3) := by decide +kernel
theorem d5_16 : decode prog_181_method_3_code 16 = .ok (.goto 59, 3) := by decide +kernel
theorem d5_75 : decode prog_181_method_3_code 75 = .ok (.aload_n 0, 1) := by decide +kernel
theorem d5_76 : decode prog_181_method_3_code 76 = .ok (.getfield 15, 3) := by decide +kernel
theorem d5_79 : decode prog_181_method_3_code 79 = .ok (.iload_n 1, 1) := by decide +kernel
theorem d5_80 : decode prog_181_method_3_code 80 = .ok (.aload_n 2, 1) := by decide +kernel
theorem d5_81 : decode prog_181_method_3_code 81 = .ok (.ifnonnull 7, 3) := by decide +kernel
theorem d5_84 : decode prog_181_method_3_code 84 = .ok (.aconst_null, 1) := by decide +kernel
theorem d5_85 : decode prog_181_method_3_code 85 = .ok (.goto 7, 3) := by decide +kernel
theorem d5_92 : decode prog_181_method_3_code 92 = .ok (.aastore, 1) := by decide +kernel
theorem d5_93 : decode prog_181_method_3_code 93 = .ok (.return_, 1) := by decide +kernel
theorem pn5 : plainName "com/example/mortise/mortise/validate/KeySequence" = true := by first | (simp [plainName, overriddenIn]; done) | decide +kernel
theorem ef5 (m : MethodId) (a : Addr) (ff : Int32) (xv : Addr) : entryFrame m #[(.ref a), (.int ff), .null, (.ref xv)] 4 = mkF m 0 #[.val (.ref a), .val (.int ff), .val .null, .val (.ref xv)] [] := by first | (simp [entryFrame, mkF, argsToLocals, Value.category]; done) | rfl
def Q5 (Z : State) (a : Addr) (ff : Int32) (xv : Addr) (nn : Int32) (x : Addr) (y : Addr) (k2 : ClassId) (u : Int32) (h0 : Heap) (n0 : Nat) (v : Option Value) (h : Heap) (L : List Loc) : Prop := v = none ∧ Fr n0 L ∧ Keep h0 h [a, y] ∧ Exa Z h a "com/example/mortise/mortise/validate/KeySequence" ∧ Fld Z h a "com/example/mortise/mortise/validate/KeySequence" "values" "[Ljava/lang/Object;" (.ref x) ∧ Fld Z h a "com/example/mortise/mortise/validate/KeySequence" "unknown" "Z" (.int (1 : Int32))
set_option maxRecDepth 65536 in
set_option maxHeartbeats 40000000 in
theorem rm5 (l : Launch) (Z : State) (a0 : Array Value) (hw : ∀ d ∈ tables_1, d.before a0 Z = true) (ws : List Jvm.Cond) (a : Addr) (ff : Int32) (xv : Addr) (nn : Int32) (x : Addr) (y : Addr) (k2 : ClassId) (u : Int32) (h0 : Heap) (n0 : Nat) (Z0 : n0 ≤ h0.size) (F1 : Fld Z h0 a "com/example/mortise/mortise/validate/KeySequence" "values" "[Ljava/lang/Object;" (.ref x)) (F4 : Fld Z h0 a "com/example/mortise/mortise/validate/KeySequence" "unknown" "Z" (.int u)) (EX : Exa Z h0 a "com/example/mortise/mortise/validate/KeySequence") (ga : n0 ≤ a) (F2 : Fld Z h0 a "com/example/mortise/mortise/validate/KeySequence" "texts" "[Ljava/lang/String;" (.ref y)) (V2 : Arv Z h0 y k2 (.object "java/lang/String") nn [] .null) (hf0 : ¬ ff < 0) (hf1 : ff < nn) (gy : n0 ≤ y) (nay : a ≠ y) :
    MetFree l (⟨"com/example/mortise/mortise/validate/KeySequence", "take", "(ILcom/example/mortise/mortise/schema/Checked;Lcom/example/mortise/mortise/XsdVersion;)V"⟩ : MethodName) (head1 (Jvm.Cond.code (⟨"com/example/mortise/mortise/validate/KeySequence", "take", "(ILcom/example/mortise/mortise/schema/Checked;Lcom/example/mortise/mortise/XsdVersion;)V"⟩ : MethodName) prog_181_method_3_code 4 none :: ws) ({ frames := 0, cells := 0, slots := 0, locals := 0 } : Room)) (fun ar_ U => ar_ = #[(.ref a), (.int ff), .null, (.ref xv)] ∧ Z.Warmed39 U.vm ∧ U.heap = h0) (fun _ _ _ _ _ => True) (fun _ U o U' => ∃ v L, o = .returned v ∧ Q5 Z a ff xv nn x y k2 u h0 n0 v U'.heap L ∧ FrameEnd U o U' L ({ frames := 0, cells := 0, slots := 0, locals := 0 } : Room).cells ({ frames := 0, cells := 0, slots := 0, locals := 0 } : Room).slots) := by
  refine MetFree.of_bodySF (plainFor_of_name pn5) hisR ?_
  intro p e s m args below meth c s₁ Bd hml0 hP hK
  obtain ⟨rfl, hZ, hh⟩ := hP
  have hx := Bd.exec
  have hby := Bd.bytes
  have hml : c.maxLocals = 4 := hml0
  have hown : s.vm.findClass "com/example/mortise/mortise/validate/KeySequence" = some m.cls := findClass_of_methodNamed Bd.named
  have hnm := (name_of_methodNamed Bd.named Bd.method).1
  have X0 : Stand p l e ({ frames := 0, cells := 0, slots := 0, locals := 0 } : Room) s m #[(.ref a), (.int ff), .null, (.ref xv)] below meth c s₁ [] 0 0 := Stand.of_body Bd
  have e0 : s₁.heap = h0 := by rw [← hh, Bd.state]; rfl
  have N0 := Fr.nil n0
  show OFin p e below s _ _ (Q5 Z a ff xv nn x y k2 u h0 n0) (s₁.setTop (entryFrame m #[(.ref a), (.int ff), .null, (.ref xv)] 4))
  rw [ef5]
  obtain ⟨Q, hQ⟩ : ∃ Q, Q = Q5 Z a ff xv nn x y k2 u h0 n0 := ⟨_, rfl⟩
  rw [← hQ]
  show OFin p e below s _ _ Q (s₁.setTop (mkF m 0 #[.val (.ref a), .val (.int ff), .val .null, .val (.ref xv)] []))
  refine OFin.back (fun _ hr => XS.aloadN X0.here hx rfl (hb hby d5_0) rfl rfl hr) ?_
  show OFin p e below s _ _ Q (s₁.setTop (mkF m 1 #[.val (.ref a), .val (.int ff), .val .null, .val (.ref xv)] [.null]))
  refine OFin.back (fun _ hr => XS.ifnullYes X0.here hx rfl (pc0 := 1) (pc' := 11) rfl (hb hby d5_1) rfl (by decide) (by decide) hr) ?_
  show OFin p e below s _ _ Q (s₁.setTop (mkF m 11 #[.val (.ref a), .val (.int ff), .val .null, .val (.ref xv)] []))
  refine OFin.back (fun _ hr => XS.aloadN X0.here hx rfl (hb hby d5_11) rfl rfl hr) ?_
  show OFin p e below s _ _ Q (s₁.setTop (mkF m 12 #[.val (.ref a), .val (.int ff), .val .null, .val (.ref xv)] [(.ref a)]))
  refine OFin.back (fun _ hr => XS.iconst X0.here hx rfl (hb hby d5_12) hr) ?_
  show OFin p e below s _ _ Q (s₁.setTop (mkF m 13 #[.val (.ref a), .val (.int ff), .val .null, .val (.ref xv)] [(.int (1 : Int32)), (.ref a)]))
  obtain ⟨T1, h1, X1, e1, W1, st1⟩ := putFN X0 hx hZ hown (hw _ (List.mem_of_getElem? (i := 31) rfl)) Via.refl e0 F4 EX (Or.inl (hw _ (List.mem_of_getElem? (i := 32) rfl))) (hw _ (List.mem_of_getElem? (i := 1) rfl)) (ty := .boolean) (v' := (.int (1 : Int32))) (by decide) rfl (by decide) (g := (mkF m 13 #[.val (.ref a), .val (.int ff), .val .null, .val (.ref xv)] [(.int (1 : Int32)), (.ref a)])) rfl rfl (hb hby d5_13)
  have f2 := F4.same W1
  have f3 := F1.other W1 (Or.inr (slot_ne (Or.inr (hw _ (List.mem_of_getElem? (i := 12) rfl))) (Or.inl (hw _ (List.mem_of_getElem? (i := 32) rfl))) (by decide) (t := (.array (.object "java/lang/Object"))) (t' := .boolean) (by decide) (by decide)))
  have f4 := EX.wr W1
  have f5 := F2.other W1 (Or.inr (slot_ne (Or.inr (hw _ (List.mem_of_getElem? (i := 16) rfl))) (Or.inl (hw _ (List.mem_of_getElem? (i := 32) rfl))) (by decide) (t := (.array (.object "java/lang/String"))) (t' := .boolean) (by decide) (by decide)))
  have f6 := V2.other W1 (Ne.symm nay)
  have f7 := Nat.le_trans Z0 (Keep.of_wr W1).1
  have f8 := (Keep.refl h0 [a, y]).wr W1 (Or.inl (List.mem_of_getElem? (i := 0) rfl))
  have N1 := Fr.snoc X1 N0 ga
  refine OFin.back st1 ?_
  show OFin p e below s _ _ Q (T1.setTop (mkF m 16 #[.val (.ref a), .val (.int ff), .val .null, .val (.ref xv)] []))
  refine OFin.back (fun _ hr => XS.goto X1.here hx rfl (pc0 := 16) (pc' := 75) rfl (hb hby d5_16) (by decide) (by decide) hr) ?_
  show OFin p e below s _ _ Q (T1.setTop (mkF m 75 #[.val (.ref a), .val (.int ff), .val .null, .val (.ref xv)] []))
  refine OFin.back (fun _ hr => XS.aloadN X1.here hx rfl (hb hby d5_75) rfl rfl hr) ?_
  show OFin p e below s _ _ Q (T1.setTop (mkF m 76 #[.val (.ref a), .val (.int ff), .val .null, .val (.ref xv)] [(.ref a)]))
  obtain ⟨T9, X9, e9, st9⟩ := getF X1 hx hZ hown (host := "") (Or.inl (hw _ (List.mem_of_getElem? (i := 15) rfl))) Via.refl e1 f5 (g := (mkF m 76 #[.val (.ref a), .val (.int ff), .val .null, .val (.ref xv)] [(.ref a)])) rfl rfl (hb hby d5_76)
  refine OFin.back st9 ?_
  show OFin p e below s _ _ Q (T9.setTop (mkF m 79 #[.val (.ref a), .val (.int ff), .val .null, .val (.ref xv)] [(.ref y)]))
  refine OFin.back (fun _ hr => XS.iloadN X9.here hx rfl (hb hby d5_79) rfl hr) ?_
  show OFin p e below s _ _ Q (T9.setTop (mkF m 80 #[.val (.ref a), .val (.int ff), .val .null, .val (.ref xv)] [(.int ff), (.ref y)]))
  refine OFin.back (fun _ hr => XS.aloadN X9.here hx rfl (hb hby d5_80) rfl rfl hr) ?_
  show OFin p e below s _ _ Q (T9.setTop (mkF m 81 #[.val (.ref a), .val (.int ff), .val .null, .val (.ref xv)] [.null, (.int ff), (.ref y)]))
  refine OFin.back (fun _ hr => XS.ifnonnullNo X9.here hx rfl (hb hby d5_81) rfl hr) ?_
  show OFin p e below s _ _ Q (T9.setTop (mkF m 84 #[.val (.ref a), .val (.int ff), .val .null, .val (.ref xv)] [(.int ff), (.ref y)]))
  refine OFin.back (fun _ hr => XS.aconstNull X9.here hx rfl (hb hby d5_84) hr) ?_
  show OFin p e below s _ _ Q (T9.setTop (mkF m 85 #[.val (.ref a), .val (.int ff), .val .null, .val (.ref xv)] [.null, (.int ff), (.ref y)]))
  refine OFin.back (fun _ hr => XS.goto X9.here hx rfl (pc0 := 85) (pc' := 92) rfl (hb hby d5_85) (by decide) (by decide) hr) ?_
  show OFin p e below s _ _ Q (T9.setTop (mkF m 92 #[.val (.ref a), .val (.int ff), .val .null, .val (.ref xv)] [.null, (.int ff), (.ref y)]))
  obtain ⟨clw, Arw, qw, Sw, Mw, Hw, Gw⟩ := id f6
  have hinw : ¬ (ff < 0 ∨ clw.slots.size ≤ (ff).toNatClampNeg) := inb_of Sw ⟨hf0, hf1⟩
  obtain ⟨T10, h10, X10, e10, W10, st10⟩ := stR X9 hx hZ e9 Arw (j := ff) hinw rfl (Or.inl rfl) (g := (mkF m 92 #[.val (.ref a), .val (.int ff), .val .null, .val (.ref xv)] [.null, (.int ff), (.ref y)])) rfl rfl (hb hby d5_92)
  have f11 := f3.other W10 (Or.inl nay)
  have f12 := f4.wr W10
  have f13 := f5.other W10 (Or.inl nay)
  have f14 := f2.other W10 (Or.inl nay)
  have f15 := Nat.le_trans f7 (Keep.of_wr W10).1
  have f16 := f8.wr W10 (Or.inl (List.mem_of_getElem? (i := 1) rfl))
  have N10 := Fr.snoc X10 N1 gy
  refine OFin.back st10 ?_
  show OFin p e below s _ _ Q (T10.setTop (mkF m 93 #[.val (.ref a), .val (.int ff), .val .null, .val (.ref xv)] []))
  exact OFin.outV X10 hx Bd.returns Bd.notSynchronized (hb hby d5_93) (by decide) (by decide) e10 (by rw [hQ]; exact ⟨rfl, N10, f16, f12, f11, f14⟩)
theorem pn0 : plainName "com/example/mortise/mortise/validate/KeySequenceMissingPinLaw" = true := by first | (simp [plainName, overriddenIn]; done) | decide +kernel
theorem pd0_0 : parseMethodDescriptor "(I)V" = some ⟨[.int], none⟩ := by decide +kernel
theorem pd0_1 : parseMethodDescriptor "()I" = some ⟨[], some .int⟩ := by decide +kernel
theorem pd0_2 : parseMethodDescriptor "()V" = some ⟨[], none⟩ := by decide +kernel
theorem pd0_3 : parseMethodDescriptor "(ILcom/example/mortise/mortise/schema/Checked;Lcom/example/mortise/mortise/XsdVersion;)V" = some ⟨[.int, (.object "com/example/mortise/mortise/schema/Checked"), (.object "com/example/mortise/mortise/XsdVersion")], none⟩ := by decide +kernel
theorem pd0_4 : parseMethodDescriptor "(II)Z" = some ⟨[.int, .int], some .boolean⟩ := by decide +kernel
theorem ef0 (m : MethodId) (sz0 : Int32) (fd : Int32) (nd : Int32) (fl : Int32) : entryFrame m #[(.int sz0), (.int fd), (.int nd), (.int fl)] maxLocals = mkF m 0 #[.val (.int sz0), .val (.int fd), .val (.int nd), .val (.int fl), .unset, .unset, .unset, .unset, .unset] [] := by first | (simp [entryFrame, mkF, argsToLocals, Value.category, maxLocals]; done) | rfl
def Q0 (Z : State) (sz0 : Int32) (fd : Int32) (nd : Int32) (fl : Int32) (a_V1_1 : Addr) (a_V1_0 : Addr) (h0 : Heap) (n0 : Nat) (v : Option Value) (h : Heap) (L : List Loc) : Prop := v = some (.int 1) ∧ Fr n0 L
set_option maxRecDepth 65536 in
set_option maxHeartbeats 40000000 in
theorem rm0 (l : Launch) (Z : State) (a0 : Array Value) (hw : ∀ d ∈ tables_1, d.before a0 Z = true) (ws : List Jvm.Cond) (sz0 : Int32) (fd : Int32) (nd : Int32) (fl : Int32) (a_V1_1 : Addr) (a_V1_0 : Addr) (h0 : Heap) (n0 : Nat) (Z0 : n0 ≤ h0.size) (O0 : Old Z n0 h0) (S_V1_1 : Sta Z Z.heap "com/example/mortise/mortise/XsdVersion" "V1_1" "Lcom/example/mortise/mortise/XsdVersion;" (.ref a_V1_1)) (S_V1_0 : Sta Z Z.heap "com/example/mortise/mortise/XsdVersion" "V1_0" "Lcom/example/mortise/mortise/XsdVersion;" (.ref a_V1_0)) :
    MetFree l x (head1 (Jvm.Cond.code x code maxLocals ret :: ws) room_1) (fun ar_ U => ar_ = #[(.int sz0), (.int fd), (.int nd), (.int fl)] ∧ Z.Warmed39 U.vm ∧ U.heap = h0) (fun _ _ _ _ _ => True) (fun _ U o U' => ∃ v L, o = .returned v ∧ Q0 Z sz0 fd nd fl a_V1_1 a_V1_0 h0 n0 v U'.heap L ∧ FrameEnd U o U' L room_1.cells room_1.slots) := by
  refine MetFree.of_bodySF (plainFor_of_name pn0) hisR ?_
  intro p e s m args below meth c s₁ Bd hml0 hP hK
  obtain ⟨rfl, hZ, hh⟩ := hP
  have hx := Bd.exec
  have hby := Bd.bytes
  have hml : c.maxLocals = 9 := hml0
  have hown : s.vm.findClass "com/example/mortise/mortise/validate/KeySequenceMissingPinLaw" = some m.cls := findClass_of_methodNamed Bd.named
  have hnm := (name_of_methodNamed Bd.named Bd.method).1
  have X0 : Stand p l e room_1 s m #[(.int sz0), (.int fd), (.int nd), (.int fl)] below meth c s₁ [] 0 0 := Stand.of_body Bd
  have e0 : s₁.heap = h0 := by rw [← hh, Bd.state]; rfl
  have N0 := Fr.nil n0
  show OFin p e below s _ _ (Q0 Z sz0 fd nd fl a_V1_1 a_V1_0 h0 n0) (s₁.setTop (entryFrame m #[(.int sz0), (.int fd), (.int nd), (.int fl)] maxLocals))
  rw [ef0]
  obtain ⟨Q, hQ⟩ : ∃ Q, Q = Q0 Z sz0 fd nd fl a_V1_1 a_V1_0 h0 n0 := ⟨_, rfl⟩
  rw [← hQ]
  show OFin p e below s _ _ Q (s₁.setTop (mkF m 0 #[.val (.int sz0), .val (.int fd), .val (.int nd), .val (.int fl), .unset, .unset, .unset, .unset, .unset] []))
  refine OFin.back (fun _ hr => XS.iloadN X0.here hx rfl (hb hby at_0) rfl hr) ?_
  show OFin p e below s _ _ Q (s₁.setTop (mkF m 1 #[.val (.int sz0), .val (.int fd), .val (.int nd), .val (.int fl), .unset, .unset, .unset, .unset, .unset] [(.int sz0)]))
  refine OFin.back (fun _ hr => XS.bipush X0.here hx rfl (hb hby at_1) hr) ?_
  show OFin p e below s _ _ Q (s₁.setTop (mkF m 3 #[.val (.int sz0), .val (.int fd), .val (.int nd), .val (.int fl), .unset, .unset, .unset, .unset, .unset] [(.int (7 : Int32)), (.int sz0)]))
  refine OFin.back (fun _ hr => XS.iand X0.here hx rfl (hb hby at_3) rfl hr) ?_
  show OFin p e below s _ _ Q (s₁.setTop (mkF m 4 #[.val (.int sz0), .val (.int fd), .val (.int nd), .val (.int fl), .unset, .unset, .unset, .unset, .unset] [(.int (sz0 &&& (7 : Int32)))]))
  refine OFin.back (fun _ hr => XS.istore X0.here hx rfl (hb hby at_4) rfl (l' := #[.val (.int sz0), .val (.int fd), .val (.int nd), .val (.int fl), .val (.int (sz0 &&& (7 : Int32))), .unset, .unset, .unset, .unset]) rfl hr) ?_
  show OFin p e below s _ _ Q (s₁.setTop (mkF m 6 #[.val (.int sz0), .val (.int fd), .val (.int nd), .val (.int fl), .val (.int (sz0 &&& (7 : Int32))), .unset, .unset, .unset, .unset] []))
  obtain ⟨v4, hv4⟩ : ∃ z, z = (sz0 &&& (7 : Int32)) := ⟨_, rfl⟩
  rw [← hv4]
  have hn : ¬ v4 < 0 := by rw [hv4]; exact own_n0 sz0
  have hc : v4.toNatClampNeg ≤ 7 := by rw [hv4]; exact own_n7 sz0
  by_cases hz : v4 = (0 : Int32)
  · have hp : ¬ (0 : Int32) < v4 := by rw [hz]; decide
    obtain ⟨T1, h1, X1, e1, E1, A1, D1, -, st1⟩ := newO X0 hx hZ hown (hw _ (List.mem_of_getElem? (i := 0) rfl)) (hw _ (List.mem_of_getElem? (i := 1) rfl)) (hw _ (List.mem_of_getElem? (i := 2) rfl)) e0 (g := (mkF m 6 #[.val (.int sz0), .val (.int fd), .val (.int nd), .val (.int fl), .val (.int v4), .unset, .unset, .unset, .unset] [])) rfl (hb hby at_6) (by decide) (by decide)
    obtain ⟨bq1, g1⟩ : ∃ z, z = h0.size := ⟨_, rfl⟩
    rw [← g1] at A1 D1 st1
    have f2 := Nat.le_trans Z0 (Nat.le_of_eq g1.symm)
    have f3 := Nat.le_trans (Keep.refl h0 []).1 (Nat.le_of_eq g1.symm)
    have f4 := O0.ext E1
    have f5 := Nat.le_trans Z0 E1.1
    have f6 := (Keep.refl h0 []).ext E1
    have f7 : Fld Z h1 bq1 "com/example/mortise/mortise/validate/KeySequence" "values" "[Ljava/lang/Object;" .null := D1 (Or.inr (hw _ (List.mem_of_getElem? (i := 12) rfl))) (ty := (.array (.object "java/lang/Object"))) (by decide)
    have f8 : Fld Z h1 bq1 "com/example/mortise/mortise/validate/KeySequence" "texts" "[Ljava/lang/String;" .null := D1 (Or.inr (hw _ (List.mem_of_getElem? (i := 16) rfl))) (ty := (.array (.object "java/lang/String"))) (by decide)
    have f9 : Fld Z h1 bq1 "com/example/mortise/mortise/validate/KeySequence" "found" "[I" .null := D1 (Or.inr (hw _ (List.mem_of_getElem? (i := 19) rfl))) (ty := (.array .int)) (by decide)
    have f10 : Fld Z h1 bq1 "com/example/mortise/mortise/validate/KeySequence" "unknown" "Z" (.int (0 : Int32)) := D1 (Or.inl (hw _ (List.mem_of_getElem? (i := 32) rfl))) (ty := .boolean) (by decide)
    refine OFin.back st1 ?_
    show OFin p e below s _ _ Q (T1.setTop (mkF m 9 #[.val (.int sz0), .val (.int fd), .val (.int nd), .val (.int fl), .val (.int v4), .unset, .unset, .unset, .unset] [(.ref bq1)]))
    refine OFin.back (fun _ hr => XS.dup X1.here hx rfl (hb hby at_9) rfl rfl hr) ?_
    show OFin p e below s _ _ Q (T1.setTop (mkF m 10 #[.val (.int sz0), .val (.int fd), .val (.int nd), .val (.int fl), .val (.int v4), .unset, .unset, .unset, .unset] [(.ref bq1), (.ref bq1)]))
    refine OFin.back (fun _ hr => XS.iload X1.here hx rfl (hb hby at_10) rfl hr) ?_
    show OFin p e below s _ _ Q (T1.setTop (mkF m 12 #[.val (.int sz0), .val (.int fd), .val (.int nd), .val (.int fl), .val (.int v4), .unset, .unset, .unset, .unset] [(.int v4), (.ref bq1), (.ref bq1)]))
    obtain ⟨_, _, ⟨T11, L11, k11, n11⟩, -, X11, ⟨Lc11, hQ11, l11, y11, z11⟩, st11⟩ := X1.specialBack hx (y := (⟨"com/example/mortise/mortise/validate/KeySequence", "<init>", "(I)V"⟩ : MethodName)) rfl hown (mvT hZ (hw _ (List.mem_of_getElem? (i := 3) rfl))) (mvT hZ (hw _ (List.mem_of_getElem? (i := 4) rfl))) (mvT hZ (hw _ (List.mem_of_getElem? (i := 5) rfl))) (by decide) (backOf (W := 1) (rm1 l Z a0 hw [] bq1 v4 (h1) n0 f5 f7 f8 f9 f10 A1 f2 hn hc) hZ (hw _ (List.mem_of_getElem? (i := 5) rfl)) (hw _ (List.mem_of_getElem? (i := 2) rfl)) (by decide) (by decide)) (g := (mkF m 12 #[.val (.int sz0), .val (.int fd), .val (.int nd), .val (.int fl), .val (.int v4), .unset, .unset, .unset, .unset] [(.int v4), (.ref bq1), (.ref bq1)])) rfl (by rw [hml]; rfl) (Steps.refl _) (a := bq1) (argsL := [(.int v4)]) (rest := [(.ref bq1)]) (lenOf pd0_0 rfl) rfl (by show 2 * 0 + _ ≤ _; exact Nat.le_of_eq rfl) (hb hby at_12) (fun _ _ => ⟨rfl, e1, (by decide : 1 + 3 ≤ _), (by decide : 4 + 21 ≤ _)⟩)
    dsimp only [Pt.U, Pt.locs, Pt.cells, Pt.slots] at X11 l11 y11 z11 st11 hQ11
    subst l11 y11 z11
    obtain ⟨rfl, N11q, K11, EX11, x, y, z, k1, k2, k3, ⟨Fx11, Fy11, Fz11, Fu11, Vx11, Vy11, Vz11⟩, ⟨gx, gy, gz, sx, sy, sz, nxy, nxz, nyz⟩⟩ := hQ11
    have N11 := Fr.app N0 N11q
    refine OFin.via st11 ?_
    have f12 := f4.keep K11 (allS f2 all0)
    have f13 := A1.keep K11
    have f14 := Nat.le_trans f5 K11.1
    have f15 := f6.trans K11 (allS (Or.inr f3) all0)
    have f16 := own_lt_ne A1.lt sx
    have f17 := own_lt_ne A1.lt sy
    have f18 := own_lt_ne A1.lt sz
    have f19 := Nat.le_trans f6.1 sx
    have f20 := Nat.le_trans f6.1 sy
    have f21 := Nat.le_trans f6.1 sz
    show OFin p e below s _ _ Q (T11.setTop (mkF m 15 #[.val (.int sz0), .val (.int fd), .val (.int nd), .val (.int fl), .val (.int v4), .unset, .unset, .unset, .unset] [(.ref bq1)]))
    refine OFin.back (fun _ hr => XS.astore X11.here hx rfl (hb hby at_15) rfl rfl (l' := #[.val (.int sz0), .val (.int fd), .val (.int nd), .val (.int fl), .val (.int v4), .val (.ref bq1), .unset, .unset, .unset]) rfl hr) ?_
    show OFin p e below s _ _ Q (T11.setTop (mkF m 17 #[.val (.int sz0), .val (.int fd), .val (.int nd), .val (.int fl), .val (.int v4), .val (.ref bq1), .unset, .unset, .unset] []))
    refine OFin.back (fun _ hr => XS.iload X11.here hx rfl (hb hby at_17) rfl hr) ?_
    show OFin p e below s _ _ Q (T11.setTop (mkF m 19 #[.val (.int sz0), .val (.int fd), .val (.int nd), .val (.int fl), .val (.int v4), .val (.ref bq1), .unset, .unset, .unset] [(.int v4)]))
    refine OFin.back (fun _ hr => XS.ifNo X11.here hx rfl (hb hby at_19) rfl ((if0 _ _).trans (teq hz).2) hr) ?_
    show OFin p e below s _ _ Q (T11.setTop (mkF m 22 #[.val (.int sz0), .val (.int fd), .val (.int nd), .val (.int fl), .val (.int v4), .val (.ref bq1), .unset, .unset, .unset] []))
    refine OFin.back (fun _ hr => XS.iconst X11.here hx rfl (hb hby at_22) hr) ?_
    show OFin p e below s _ _ Q (T11.setTop (mkF m 23 #[.val (.int sz0), .val (.int fd), .val (.int nd), .val (.int fl), .val (.int v4), .val (.ref bq1), .unset, .unset, .unset] [(.int (-1 : Int32))]))
    refine OFin.back (fun _ hr => XS.goto X11.here hx rfl (pc0 := 23) (pc' := 27) rfl (hb hby at_23) (by decide) (by decide) hr) ?_
    show OFin p e below s _ _ Q (T11.setTop (mkF m 27 #[.val (.int sz0), .val (.int fd), .val (.int nd), .val (.int fl), .val (.int v4), .val (.ref bq1), .unset, .unset, .unset] [(.int (-1 : Int32))]))
    refine OFin.back (fun _ hr => XS.istore X11.here hx rfl (hb hby at_27) rfl (l' := #[.val (.int sz0), .val (.int fd), .val (.int nd), .val (.int fl), .val (.int v4), .val (.ref bq1), .val (.int (-1 : Int32)), .unset, .unset]) rfl hr) ?_
    show OFin p e below s _ _ Q (T11.setTop (mkF m 29 #[.val (.int sz0), .val (.int fd), .val (.int nd), .val (.int fl), .val (.int v4), .val (.ref bq1), .val (.int (-1 : Int32)), .unset, .unset] []))
    refine OFin.back (fun _ hr => XS.aload X11.here hx rfl (hb hby at_29) rfl rfl hr) ?_
    show OFin p e below s _ _ Q (T11.setTop (mkF m 31 #[.val (.int sz0), .val (.int fd), .val (.int nd), .val (.int fl), .val (.int v4), .val (.ref bq1), .val (.int (-1 : Int32)), .unset, .unset] [(.ref bq1)]))
    obtain ⟨cq22, kq22, q22a, q22b, q22c⟩ := isOf hZ rfl EX11
    obtain ⟨_, _, ⟨T22, L22, k22, n22⟩, -, X22, ⟨Lc22, hQ22, l22, y22, z22⟩, st22⟩ := X11.virtualBack hx (y := (⟨"com/example/mortise/mortise/validate/KeySequence", "missing", "()I"⟩ : MethodName)) (z := (⟨"com/example/mortise/mortise/validate/KeySequence", "missing", "()I"⟩ : MethodName)) hown (mvT hZ (hw _ (List.mem_of_getElem? (i := 20) rfl))) (mvT hZ (hw _ (List.mem_of_getElem? (i := 21) rfl))) (notFace_of_selects (args := #[]) (mvT hZ (hw _ (List.mem_of_getElem? (i := 23) rfl)))) (mvT hZ (hw _ (List.mem_of_getElem? (i := 23) rfl))) (mvT hZ (hw _ (List.mem_of_getElem? (i := 22) rfl))) (by decide) (backOf (W := 0) (rm2 l Z a0 hw [] bq1 v4 x k1 (T11.heap) n0 f14 Fx11 Vx11 hn) hZ (hw _ (List.mem_of_getElem? (i := 24) rfl)) (hw _ (List.mem_of_getElem? (i := 2) rfl)) (by decide) (by decide)) q22a q22c (g := (mkF m 31 #[.val (.int sz0), .val (.int fd), .val (.int nd), .val (.int fl), .val (.int v4), .val (.ref bq1), .val (.int (-1 : Int32)), .unset, .unset] [(.ref bq1)])) rfl (by rw [hml]; rfl) (Steps.refl _) (argsL := []) (rest := []) (lenOf pd0_1 rfl) rfl (by show 2 * 0 + _ ≤ _; exact Nat.le_of_eq rfl) (hb hby at_31) (fun _ _ => ⟨rfl, rfl, (by decide : 4 + 0 ≤ _), (by decide : 25 + 0 ≤ _)⟩)
    dsimp only [Pt.U, Pt.locs, Pt.cells, Pt.slots] at X22 l22 y22 z22 st22 hQ22
    subst l22 y22 z22
    obtain ⟨rfl, N22q, e22⟩ := hQ22
    have N22 := Fr.app N11 N22q
    refine OFin.via st22 ?_
    rw [show own_miss v4 = (-1 : Int32) from if_pos hz]
    show OFin p e below s _ _ Q (T22.setTop (mkF m 34 #[.val (.int sz0), .val (.int fd), .val (.int nd), .val (.int fl), .val (.int v4), .val (.ref bq1), .val (.int (-1 : Int32)), .unset, .unset] [(.int (-1 : Int32))]))
    refine OFin.back (fun _ hr => XS.iload X22.here hx rfl (hb hby at_34) rfl hr) ?_
    show OFin p e below s _ _ Q (T22.setTop (mkF m 36 #[.val (.int sz0), .val (.int fd), .val (.int nd), .val (.int fl), .val (.int v4), .val (.ref bq1), .val (.int (-1 : Int32)), .unset, .unset] [(.int (-1 : Int32)), (.int (-1 : Int32))]))
    refine OFin.back (fun _ hr => XS.icmpNo X22.here hx rfl (hb hby at_36) rfl (teq (by decide : (-1 : Int32) = (-1 : Int32))).2 hr) ?_
    show OFin p e below s _ _ Q (T22.setTop (mkF m 39 #[.val (.int sz0), .val (.int fd), .val (.int nd), .val (.int fl), .val (.int v4), .val (.ref bq1), .val (.int (-1 : Int32)), .unset, .unset] []))
    refine OFin.back (fun _ hr => XS.iconst X22.here hx rfl (hb hby at_39) hr) ?_
    show OFin p e below s _ _ Q (T22.setTop (mkF m 40 #[.val (.int sz0), .val (.int fd), .val (.int nd), .val (.int fl), .val (.int v4), .val (.ref bq1), .val (.int (-1 : Int32)), .unset, .unset] [(.int (1 : Int32))]))
    refine OFin.back (fun _ hr => XS.goto X22.here hx rfl (pc0 := 40) (pc' := 44) rfl (hb hby at_40) (by decide) (by decide) hr) ?_
    show OFin p e below s _ _ Q (T22.setTop (mkF m 44 #[.val (.int sz0), .val (.int fd), .val (.int nd), .val (.int fl), .val (.int v4), .val (.ref bq1), .val (.int (-1 : Int32)), .unset, .unset] [(.int (1 : Int32))]))
    refine OFin.back (fun _ hr => XS.istore X22.here hx rfl (hb hby at_44) rfl (l' := #[.val (.int sz0), .val (.int fd), .val (.int nd), .val (.int fl), .val (.int v4), .val (.ref bq1), .val (.int (-1 : Int32)), .val (.int (1 : Int32)), .unset]) rfl hr) ?_
    show OFin p e below s _ _ Q (T22.setTop (mkF m 46 #[.val (.int sz0), .val (.int fd), .val (.int nd), .val (.int fl), .val (.int v4), .val (.ref bq1), .val (.int (-1 : Int32)), .val (.int (1 : Int32)), .unset] []))
    refine OFin.back (fun _ hr => XS.iload X22.here hx rfl (hb hby at_46) rfl hr) ?_
    show OFin p e below s _ _ Q (T22.setTop (mkF m 48 #[.val (.int sz0), .val (.int fd), .val (.int nd), .val (.int fl), .val (.int v4), .val (.ref bq1), .val (.int (-1 : Int32)), .val (.int (1 : Int32)), .unset] [(.int v4)]))
    refine OFin.back (fun _ hr => XS.ifYes X22.here hx rfl (pc0 := 48) (pc' := 116) rfl (hb hby at_48) rfl ((if0 _ _).trans (flt hp).2.2.2) (by decide) (by decide) hr) ?_
    show OFin p e below s _ _ Q (T22.setTop (mkF m 116 #[.val (.int sz0), .val (.int fd), .val (.int nd), .val (.int fl), .val (.int v4), .val (.ref bq1), .val (.int (-1 : Int32)), .val (.int (1 : Int32)), .unset] []))
    refine OFin.back (fun _ hr => XS.iload X22.here hx rfl (hb hby at_116) rfl hr) ?_
    show OFin p e below s _ _ Q (T22.setTop (mkF m 118 #[.val (.int sz0), .val (.int fd), .val (.int nd), .val (.int fl), .val (.int v4), .val (.ref bq1), .val (.int (-1 : Int32)), .val (.int (1 : Int32)), .unset] [(.int (1 : Int32))]))
    refine OFin.back (fun _ hr => XS.ifNo X22.here hx rfl (hb hby at_118) rfl ((if0 _ _).trans (feq (by decide : ¬ ((1 : Int32) = (0 : Int32)))).1) hr) ?_
    show OFin p e below s _ _ Q (T22.setTop (mkF m 121 #[.val (.int sz0), .val (.int fd), .val (.int nd), .val (.int fl), .val (.int v4), .val (.ref bq1), .val (.int (-1 : Int32)), .val (.int (1 : Int32)), .unset] []))
    refine OFin.back (fun _ hr => XS.aload X22.here hx rfl (hb hby at_121) rfl rfl hr) ?_
    show OFin p e below s _ _ Q (T22.setTop (mkF m 123 #[.val (.int sz0), .val (.int fd), .val (.int nd), .val (.int fl), .val (.int v4), .val (.ref bq1), .val (.int (-1 : Int32)), .val (.int (1 : Int32)), .unset] [(.ref bq1)]))
    obtain ⟨cq23, kq23, q23a, q23b, q23c⟩ := isOf hZ e22 EX11
    obtain ⟨_, _, ⟨T23, L23, k23, n23⟩, -, X23, ⟨Lc23, hQ23, l23, y23, z23⟩, st23⟩ := X22.virtualBack hx (y := (⟨"com/example/mortise/mortise/validate/KeySequence", "missing", "()I"⟩ : MethodName)) (z := (⟨"com/example/mortise/mortise/validate/KeySequence", "missing", "()I"⟩ : MethodName)) hown (mvT hZ (hw _ (List.mem_of_getElem? (i := 20) rfl))) (mvT hZ (hw _ (List.mem_of_getElem? (i := 21) rfl))) (notFace_of_selects (args := #[]) (mvT hZ (hw _ (List.mem_of_getElem? (i := 23) rfl)))) (mvT hZ (hw _ (List.mem_of_getElem? (i := 23) rfl))) (mvT hZ (hw _ (List.mem_of_getElem? (i := 22) rfl))) (by decide) (backOf (W := 0) (rm2 l Z a0 hw [] bq1 v4 x k1 (T11.heap) n0 f14 Fx11 Vx11 hn) hZ (hw _ (List.mem_of_getElem? (i := 24) rfl)) (hw _ (List.mem_of_getElem? (i := 2) rfl)) (by decide) (by decide)) q23a q23c (g := (mkF m 123 #[.val (.int sz0), .val (.int fd), .val (.int nd), .val (.int fl), .val (.int v4), .val (.ref bq1), .val (.int (-1 : Int32)), .val (.int (1 : Int32)), .unset] [(.ref bq1)])) rfl (by rw [hml]; rfl) (Steps.refl _) (argsL := []) (rest := []) (lenOf pd0_1 rfl) rfl (by show 2 * 0 + _ ≤ _; exact Nat.le_of_eq rfl) (hb hby at_123) (fun _ _ => ⟨rfl, e22, (by decide : 4 + 0 ≤ _), (by decide : 25 + 0 ≤ _)⟩)
    dsimp only [Pt.U, Pt.locs, Pt.cells, Pt.slots] at X23 l23 y23 z23 st23 hQ23
    subst l23 y23 z23
    obtain ⟨rfl, N23q, e23⟩ := hQ23
    have N23 := Fr.app N22 N23q
    refine OFin.via st23 ?_
    rw [show own_miss v4 = (-1 : Int32) from if_pos hz]
    show OFin p e below s _ _ Q (T23.setTop (mkF m 126 #[.val (.int sz0), .val (.int fd), .val (.int nd), .val (.int fl), .val (.int v4), .val (.ref bq1), .val (.int (-1 : Int32)), .val (.int (1 : Int32)), .unset] [(.int (-1 : Int32))]))
    refine OFin.back (fun _ hr => XS.iload X23.here hx rfl (hb hby at_126) rfl hr) ?_
    show OFin p e below s _ _ Q (T23.setTop (mkF m 128 #[.val (.int sz0), .val (.int fd), .val (.int nd), .val (.int fl), .val (.int v4), .val (.ref bq1), .val (.int (-1 : Int32)), .val (.int (1 : Int32)), .unset] [(.int (-1 : Int32)), (.int (-1 : Int32))]))
    refine OFin.back (fun _ hr => XS.icmpNo X23.here hx rfl (hb hby at_128) rfl (teq (by decide : (-1 : Int32) = (-1 : Int32))).2 hr) ?_
    show OFin p e below s _ _ Q (T23.setTop (mkF m 131 #[.val (.int sz0), .val (.int fd), .val (.int nd), .val (.int fl), .val (.int v4), .val (.ref bq1), .val (.int (-1 : Int32)), .val (.int (1 : Int32)), .unset] []))
    refine OFin.back (fun _ hr => XS.iconst X23.here hx rfl (hb hby at_131) hr) ?_
    show OFin p e below s _ _ Q (T23.setTop (mkF m 132 #[.val (.int sz0), .val (.int fd), .val (.int nd), .val (.int fl), .val (.int v4), .val (.ref bq1), .val (.int (-1 : Int32)), .val (.int (1 : Int32)), .unset] [(.int (1 : Int32))]))
    refine OFin.back (fun _ hr => XS.goto X23.here hx rfl (pc0 := 132) (pc' := 136) rfl (hb hby at_132) (by decide) (by decide) hr) ?_
    show OFin p e below s _ _ Q (T23.setTop (mkF m 136 #[.val (.int sz0), .val (.int fd), .val (.int nd), .val (.int fl), .val (.int v4), .val (.ref bq1), .val (.int (-1 : Int32)), .val (.int (1 : Int32)), .unset] [(.int (1 : Int32))]))
    exact OFin.outN (t := .boolean) X23 hx Bd.returns (by simp) Bd.notSynchronized (hb hby at_136) (by decide) (by decide) e23 (by rw [hQ]; exact ⟨rfl, N23⟩)
  · have hp : (0 : Int32) < v4 := own_pos hn hz
    obtain ⟨T24, h24, X24, e24, E24, A24, D24, -, st24⟩ := newO X0 hx hZ hown (hw _ (List.mem_of_getElem? (i := 0) rfl)) (hw _ (List.mem_of_getElem? (i := 1) rfl)) (hw _ (List.mem_of_getElem? (i := 2) rfl)) e0 (g := (mkF m 6 #[.val (.int sz0), .val (.int fd), .val (.int nd), .val (.int fl), .val (.int v4), .unset, .unset, .unset, .unset] [])) rfl (hb hby at_6) (by decide) (by decide)
    obtain ⟨bq24, g24⟩ : ∃ z, z = h0.size := ⟨_, rfl⟩
    rw [← g24] at A24 D24 st24
    have f25 := Nat.le_trans Z0 (Nat.le_of_eq g24.symm)
    have f26 := Nat.le_trans (Keep.refl h0 []).1 (Nat.le_of_eq g24.symm)
    have f27 := O0.ext E24
    have f28 := Nat.le_trans Z0 E24.1
    have f29 := (Keep.refl h0 []).ext E24
    have f30 : Fld Z h24 bq24 "com/example/mortise/mortise/validate/KeySequence" "values" "[Ljava/lang/Object;" .null := D24 (Or.inr (hw _ (List.mem_of_getElem? (i := 12) rfl))) (ty := (.array (.object "java/lang/Object"))) (by decide)
    have f31 : Fld Z h24 bq24 "com/example/mortise/mortise/validate/KeySequence" "texts" "[Ljava/lang/String;" .null := D24 (Or.inr (hw _ (List.mem_of_getElem? (i := 16) rfl))) (ty := (.array (.object "java/lang/String"))) (by decide)
    have f32 : Fld Z h24 bq24 "com/example/mortise/mortise/validate/KeySequence" "found" "[I" .null := D24 (Or.inr (hw _ (List.mem_of_getElem? (i := 19) rfl))) (ty := (.array .int)) (by decide)
    have f33 : Fld Z h24 bq24 "com/example/mortise/mortise/validate/KeySequence" "unknown" "Z" (.int (0 : Int32)) := D24 (Or.inl (hw _ (List.mem_of_getElem? (i := 32) rfl))) (ty := .boolean) (by decide)
    refine OFin.back st24 ?_
    show OFin p e below s _ _ Q (T24.setTop (mkF m 9 #[.val (.int sz0), .val (.int fd), .val (.int nd), .val (.int fl), .val (.int v4), .unset, .unset, .unset, .unset] [(.ref bq24)]))
    refine OFin.back (fun _ hr => XS.dup X24.here hx rfl (hb hby at_9) rfl rfl hr) ?_
    show OFin p e below s _ _ Q (T24.setTop (mkF m 10 #[.val (.int sz0), .val (.int fd), .val (.int nd), .val (.int fl), .val (.int v4), .unset, .unset, .unset, .unset] [(.ref bq24), (.ref bq24)]))
    refine OFin.back (fun _ hr => XS.iload X24.here hx rfl (hb hby at_10) rfl hr) ?_
    show OFin p e below s _ _ Q (T24.setTop (mkF m 12 #[.val (.int sz0), .val (.int fd), .val (.int nd), .val (.int fl), .val (.int v4), .unset, .unset, .unset, .unset] [(.int v4), (.ref bq24), (.ref bq24)]))
    obtain ⟨_, _, ⟨T34, L34, k34, n34⟩, -, X34, ⟨Lc34, hQ34, l34, y34, z34⟩, st34⟩ := X24.specialBack hx (y := (⟨"com/example/mortise/mortise/validate/KeySequence", "<init>", "(I)V"⟩ : MethodName)) rfl hown (mvT hZ (hw _ (List.mem_of_getElem? (i := 3) rfl))) (mvT hZ (hw _ (List.mem_of_getElem? (i := 4) rfl))) (mvT hZ (hw _ (List.mem_of_getElem? (i := 5) rfl))) (by decide) (backOf (W := 1) (rm1 l Z a0 hw [] bq24 v4 (h24) n0 f28 f30 f31 f32 f33 A24 f25 hn hc) hZ (hw _ (List.mem_of_getElem? (i := 5) rfl)) (hw _ (List.mem_of_getElem? (i := 2) rfl)) (by decide) (by decide)) (g := (mkF m 12 #[.val (.int sz0), .val (.int fd), .val (.int nd), .val (.int fl), .val (.int v4), .unset, .unset, .unset, .unset] [(.int v4), (.ref bq24), (.ref bq24)])) rfl (by rw [hml]; rfl) (Steps.refl _) (a := bq24) (argsL := [(.int v4)]) (rest := [(.ref bq24)]) (lenOf pd0_0 rfl) rfl (by show 2 * 0 + _ ≤ _; exact Nat.le_of_eq rfl) (hb hby at_12) (fun _ _ => ⟨rfl, e24, (by decide : 1 + 3 ≤ _), (by decide : 4 + 21 ≤ _)⟩)
    dsimp only [Pt.U, Pt.locs, Pt.cells, Pt.slots] at X34 l34 y34 z34 st34 hQ34
    subst l34 y34 z34
    obtain ⟨rfl, N34q, K34, EX34, x, y, z, k1, k2, k3, ⟨Fx34, Fy34, Fz34, Fu34, Vx34, Vy34, Vz34⟩, ⟨gx, gy, gz, sx, sy, sz, nxy, nxz, nyz⟩⟩ := hQ34
    have N34 := Fr.app N0 N34q
    refine OFin.via st34 ?_
    have f35 := f27.keep K34 (allS f25 all0)
    have f36 := A24.keep K34
    have f37 := Nat.le_trans f28 K34.1
    have f38 := f29.trans K34 (allS (Or.inr f26) all0)
    have f39 := own_lt_ne A24.lt sx
    have f40 := own_lt_ne A24.lt sy
    have f41 := own_lt_ne A24.lt sz
    have f42 := Nat.le_trans f29.1 sx
    have f43 := Nat.le_trans f29.1 sy
    have f44 := Nat.le_trans f29.1 sz
    show OFin p e below s _ _ Q (T34.setTop (mkF m 15 #[.val (.int sz0), .val (.int fd), .val (.int nd), .val (.int fl), .val (.int v4), .unset, .unset, .unset, .unset] [(.ref bq24)]))
    refine OFin.back (fun _ hr => XS.astore X34.here hx rfl (hb hby at_15) rfl rfl (l' := #[.val (.int sz0), .val (.int fd), .val (.int nd), .val (.int fl), .val (.int v4), .val (.ref bq24), .unset, .unset, .unset]) rfl hr) ?_
    show OFin p e below s _ _ Q (T34.setTop (mkF m 17 #[.val (.int sz0), .val (.int fd), .val (.int nd), .val (.int fl), .val (.int v4), .val (.ref bq24), .unset, .unset, .unset] []))
    refine OFin.back (fun _ hr => XS.iload X34.here hx rfl (hb hby at_17) rfl hr) ?_
    show OFin p e below s _ _ Q (T34.setTop (mkF m 19 #[.val (.int sz0), .val (.int fd), .val (.int nd), .val (.int fl), .val (.int v4), .val (.ref bq24), .unset, .unset, .unset] [(.int v4)]))
    refine OFin.back (fun _ hr => XS.ifYes X34.here hx rfl (pc0 := 19) (pc' := 26) rfl (hb hby at_19) rfl ((if0 _ _).trans (feq hz).2) (by decide) (by decide) hr) ?_
    show OFin p e below s _ _ Q (T34.setTop (mkF m 26 #[.val (.int sz0), .val (.int fd), .val (.int nd), .val (.int fl), .val (.int v4), .val (.ref bq24), .unset, .unset, .unset] []))
    refine OFin.back (fun _ hr => XS.iconst X34.here hx rfl (hb hby at_26) hr) ?_
    show OFin p e below s _ _ Q (T34.setTop (mkF m 27 #[.val (.int sz0), .val (.int fd), .val (.int nd), .val (.int fl), .val (.int v4), .val (.ref bq24), .unset, .unset, .unset] [(.int (0 : Int32))]))
    refine OFin.back (fun _ hr => XS.istore X34.here hx rfl (hb hby at_27) rfl (l' := #[.val (.int sz0), .val (.int fd), .val (.int nd), .val (.int fl), .val (.int v4), .val (.ref bq24), .val (.int (0 : Int32)), .unset, .unset]) rfl hr) ?_
    show OFin p e below s _ _ Q (T34.setTop (mkF m 29 #[.val (.int sz0), .val (.int fd), .val (.int nd), .val (.int fl), .val (.int v4), .val (.ref bq24), .val (.int (0 : Int32)), .unset, .unset] []))
    refine OFin.back (fun _ hr => XS.aload X34.here hx rfl (hb hby at_29) rfl rfl hr) ?_
    show OFin p e below s _ _ Q (T34.setTop (mkF m 31 #[.val (.int sz0), .val (.int fd), .val (.int nd), .val (.int fl), .val (.int v4), .val (.ref bq24), .val (.int (0 : Int32)), .unset, .unset] [(.ref bq24)]))
    obtain ⟨cq45, kq45, q45a, q45b, q45c⟩ := isOf hZ rfl EX34
    obtain ⟨_, _, ⟨T45, L45, k45, n45⟩, -, X45, ⟨Lc45, hQ45, l45, y45, z45⟩, st45⟩ := X34.virtualBack hx (y := (⟨"com/example/mortise/mortise/validate/KeySequence", "missing", "()I"⟩ : MethodName)) (z := (⟨"com/example/mortise/mortise/validate/KeySequence", "missing", "()I"⟩ : MethodName)) hown (mvT hZ (hw _ (List.mem_of_getElem? (i := 20) rfl))) (mvT hZ (hw _ (List.mem_of_getElem? (i := 21) rfl))) (notFace_of_selects (args := #[]) (mvT hZ (hw _ (List.mem_of_getElem? (i := 23) rfl)))) (mvT hZ (hw _ (List.mem_of_getElem? (i := 23) rfl))) (mvT hZ (hw _ (List.mem_of_getElem? (i := 22) rfl))) (by decide) (backOf (W := 0) (rm2 l Z a0 hw [] bq24 v4 x k1 (T34.heap) n0 f37 Fx34 Vx34 hn) hZ (hw _ (List.mem_of_getElem? (i := 24) rfl)) (hw _ (List.mem_of_getElem? (i := 2) rfl)) (by decide) (by decide)) q45a q45c (g := (mkF m 31 #[.val (.int sz0), .val (.int fd), .val (.int nd), .val (.int fl), .val (.int v4), .val (.ref bq24), .val (.int (0 : Int32)), .unset, .unset] [(.ref bq24)])) rfl (by rw [hml]; rfl) (Steps.refl _) (argsL := []) (rest := []) (lenOf pd0_1 rfl) rfl (by show 2 * 0 + _ ≤ _; exact Nat.le_of_eq rfl) (hb hby at_31) (fun _ _ => ⟨rfl, rfl, (by decide : 4 + 0 ≤ _), (by decide : 25 + 0 ≤ _)⟩)
    dsimp only [Pt.U, Pt.locs, Pt.cells, Pt.slots] at X45 l45 y45 z45 st45 hQ45
    subst l45 y45 z45
    obtain ⟨rfl, N45q, e45⟩ := hQ45
    have N45 := Fr.app N34 N45q
    refine OFin.via st45 ?_
    rw [show own_miss v4 = (0 : Int32) from if_neg hz]
    show OFin p e below s _ _ Q (T45.setTop (mkF m 34 #[.val (.int sz0), .val (.int fd), .val (.int nd), .val (.int fl), .val (.int v4), .val (.ref bq24), .val (.int (0 : Int32)), .unset, .unset] [(.int (0 : Int32))]))
    refine OFin.back (fun _ hr => XS.iload X45.here hx rfl (hb hby at_34) rfl hr) ?_
    show OFin p e below s _ _ Q (T45.setTop (mkF m 36 #[.val (.int sz0), .val (.int fd), .val (.int nd), .val (.int fl), .val (.int v4), .val (.ref bq24), .val (.int (0 : Int32)), .unset, .unset] [(.int (0 : Int32)), (.int (0 : Int32))]))
    refine OFin.back (fun _ hr => XS.icmpNo X45.here hx rfl (hb hby at_36) rfl (teq (by decide : (0 : Int32) = (0 : Int32))).2 hr) ?_
    show OFin p e below s _ _ Q (T45.setTop (mkF m 39 #[.val (.int sz0), .val (.int fd), .val (.int nd), .val (.int fl), .val (.int v4), .val (.ref bq24), .val (.int (0 : Int32)), .unset, .unset] []))
    refine OFin.back (fun _ hr => XS.iconst X45.here hx rfl (hb hby at_39) hr) ?_
    show OFin p e below s _ _ Q (T45.setTop (mkF m 40 #[.val (.int sz0), .val (.int fd), .val (.int nd), .val (.int fl), .val (.int v4), .val (.ref bq24), .val (.int (0 : Int32)), .unset, .unset] [(.int (1 : Int32))]))
    refine OFin.back (fun _ hr => XS.goto X45.here hx rfl (pc0 := 40) (pc' := 44) rfl (hb hby at_40) (by decide) (by decide) hr) ?_
    show OFin p e below s _ _ Q (T45.setTop (mkF m 44 #[.val (.int sz0), .val (.int fd), .val (.int nd), .val (.int fl), .val (.int v4), .val (.ref bq24), .val (.int (0 : Int32)), .unset, .unset] [(.int (1 : Int32))]))
    refine OFin.back (fun _ hr => XS.istore X45.here hx rfl (hb hby at_44) rfl (l' := #[.val (.int sz0), .val (.int fd), .val (.int nd), .val (.int fl), .val (.int v4), .val (.ref bq24), .val (.int (0 : Int32)), .val (.int (1 : Int32)), .unset]) rfl hr) ?_
    show OFin p e below s _ _ Q (T45.setTop (mkF m 46 #[.val (.int sz0), .val (.int fd), .val (.int nd), .val (.int fl), .val (.int v4), .val (.ref bq24), .val (.int (0 : Int32)), .val (.int (1 : Int32)), .unset] []))
    refine OFin.back (fun _ hr => XS.iload X45.here hx rfl (hb hby at_46) rfl hr) ?_
    show OFin p e below s _ _ Q (T45.setTop (mkF m 48 #[.val (.int sz0), .val (.int fd), .val (.int nd), .val (.int fl), .val (.int v4), .val (.ref bq24), .val (.int (0 : Int32)), .val (.int (1 : Int32)), .unset] [(.int v4)]))
    refine OFin.back (fun _ hr => XS.ifNo X45.here hx rfl (hb hby at_48) rfl ((if0 _ _).trans (tlt hp).2.2.2) hr) ?_
    show OFin p e below s _ _ Q (T45.setTop (mkF m 51 #[.val (.int sz0), .val (.int fd), .val (.int nd), .val (.int fl), .val (.int v4), .val (.ref bq24), .val (.int (0 : Int32)), .val (.int (1 : Int32)), .unset] []))
    refine OFin.back (fun _ hr => XS.iloadN X45.here hx rfl (hb hby at_51) rfl hr) ?_
    show OFin p e below s _ _ Q (T45.setTop (mkF m 52 #[.val (.int sz0), .val (.int fd), .val (.int nd), .val (.int fl), .val (.int v4), .val (.ref bq24), .val (.int (0 : Int32)), .val (.int (1 : Int32)), .unset] [(.int fd)]))
    refine OFin.back (X45.ldcInt hx hown (mvT hZ (hw _ (List.mem_of_getElem? (i := 25) rfl))) (g := (mkF m 52 #[.val (.int sz0), .val (.int fd), .val (.int nd), .val (.int fl), .val (.int v4), .val (.ref bq24), .val (.int (0 : Int32)), .val (.int (1 : Int32)), .unset] [(.int fd)])) rfl (hb hby at_52)) ?_
    show OFin p e below s _ _ Q (T45.setTop (mkF m 54 #[.val (.int sz0), .val (.int fd), .val (.int nd), .val (.int fl), .val (.int v4), .val (.ref bq24), .val (.int (0 : Int32)), .val (.int (1 : Int32)), .unset] [(.int (2147483647 : Int32)), (.int fd)]))
    refine OFin.back (fun _ hr => XS.iand X45.here hx rfl (hb hby at_54) rfl hr) ?_
    show OFin p e below s _ _ Q (T45.setTop (mkF m 55 #[.val (.int sz0), .val (.int fd), .val (.int nd), .val (.int fl), .val (.int v4), .val (.ref bq24), .val (.int (0 : Int32)), .val (.int (1 : Int32)), .unset] [(.int (fd &&& (2147483647 : Int32)))]))
    refine OFin.back (fun _ hr => XS.iload X45.here hx rfl (hb hby at_55) rfl hr) ?_
    show OFin p e below s _ _ Q (T45.setTop (mkF m 57 #[.val (.int sz0), .val (.int fd), .val (.int nd), .val (.int fl), .val (.int v4), .val (.ref bq24), .val (.int (0 : Int32)), .val (.int (1 : Int32)), .unset] [(.int v4), (.int (fd &&& (2147483647 : Int32)))]))
    refine OFin.back (fun _ hr => iremM (g := (mkF m 57 #[.val (.int sz0), .val (.int fd), .val (.int nd), .val (.int fl), .val (.int v4), .val (.ref bq24), .val (.int (0 : Int32)), .val (.int (1 : Int32)), .unset] [(.int v4), (.int (fd &&& (2147483647 : Int32)))])) X45 hx rfl (hb hby at_57) rfl hz hr) ?_
    show OFin p e below s _ _ Q (T45.setTop (mkF m 58 #[.val (.int sz0), .val (.int fd), .val (.int nd), .val (.int fl), .val (.int v4), .val (.ref bq24), .val (.int (0 : Int32)), .val (.int (1 : Int32)), .unset] [(.int ((fd &&& (2147483647 : Int32)) % v4))]))
    refine OFin.back (fun _ hr => XS.istore X45.here hx rfl (hb hby at_58) rfl (l' := #[.val (.int sz0), .val (.int fd), .val (.int nd), .val (.int fl), .val (.int v4), .val (.ref bq24), .val (.int (0 : Int32)), .val (.int (1 : Int32)), .val (.int ((fd &&& (2147483647 : Int32)) % v4))]) rfl hr) ?_
    show OFin p e below s _ _ Q (T45.setTop (mkF m 60 #[.val (.int sz0), .val (.int fd), .val (.int nd), .val (.int fl), .val (.int v4), .val (.ref bq24), .val (.int (0 : Int32)), .val (.int (1 : Int32)), .val (.int ((fd &&& (2147483647 : Int32)) % v4))] []))
    obtain ⟨ff, hff⟩ : ∃ z, z = ((fd &&& (2147483647 : Int32)) % v4) := ⟨_, rfl⟩
    rw [← hff]
    have hf0 : ¬ ff < 0 := by rw [hff]; exact own_f0 hp
    have hf1 : ff < v4 := by rw [hff]; exact own_f1 hp
    show OFin p e below s _ _ Q (T45.setTop (mkF m 60 #[.val (.int sz0), .val (.int fd), .val (.int nd), .val (.int fl), .val (.int v4), .val (.ref bq24), .val (.int (0 : Int32)), .val (.int (1 : Int32)), .val (.int ff)] []))
    refine OFin.back (fun _ hr => XS.iloadN X45.here hx rfl (hb hby at_60) rfl hr) ?_
    show OFin p e below s _ _ Q (T45.setTop (mkF m 61 #[.val (.int sz0), .val (.int fd), .val (.int nd), .val (.int fl), .val (.int v4), .val (.ref bq24), .val (.int (0 : Int32)), .val (.int (1 : Int32)), .val (.int ff)] [(.int fl)]))
    refine OFin.back (fun _ hr => XS.iconst X45.here hx rfl (hb hby at_61) hr) ?_
    show OFin p e below s _ _ Q (T45.setTop (mkF m 62 #[.val (.int sz0), .val (.int fd), .val (.int nd), .val (.int fl), .val (.int v4), .val (.ref bq24), .val (.int (0 : Int32)), .val (.int (1 : Int32)), .val (.int ff)] [(.int (4 : Int32)), (.int fl)]))
    refine OFin.back (fun _ hr => XS.iand X45.here hx rfl (hb hby at_62) rfl hr) ?_
    show OFin p e below s _ _ Q (T45.setTop (mkF m 63 #[.val (.int sz0), .val (.int fd), .val (.int nd), .val (.int fl), .val (.int v4), .val (.ref bq24), .val (.int (0 : Int32)), .val (.int (1 : Int32)), .val (.int ff)] [(.int (fl &&& (4 : Int32)))]))
    by_cases hc63_46 : (fl &&& (4 : Int32)) = (0 : Int32)
    · -- (fl &&& (4 : Int32)) = (0 : Int32)
      refine OFin.back (fun _ hr => XS.ifYes X45.here hx rfl (pc0 := 63) (pc' := 75) rfl (hb hby at_63) rfl ((if0 _ _).trans (teq hc63_46).1) (by decide) (by decide) hr) ?_
      show OFin p e below s _ _ Q (T45.setTop (mkF m 75 #[.val (.int sz0), .val (.int fd), .val (.int nd), .val (.int fl), .val (.int v4), .val (.ref bq24), .val (.int (0 : Int32)), .val (.int (1 : Int32)), .val (.int ff)] []))
      refine OFin.back (fun _ hr => XS.iloadN X45.here hx rfl (hb hby at_75) rfl hr) ?_
      show OFin p e below s _ _ Q (T45.setTop (mkF m 76 #[.val (.int sz0), .val (.int fd), .val (.int nd), .val (.int fl), .val (.int v4), .val (.ref bq24), .val (.int (0 : Int32)), .val (.int (1 : Int32)), .val (.int ff)] [(.int fl)]))
      refine OFin.back (fun _ hr => XS.iconst X45.here hx rfl (hb hby at_76) hr) ?_
      show OFin p e below s _ _ Q (T45.setTop (mkF m 77 #[.val (.int sz0), .val (.int fd), .val (.int nd), .val (.int fl), .val (.int v4), .val (.ref bq24), .val (.int (0 : Int32)), .val (.int (1 : Int32)), .val (.int ff)] [(.int (1 : Int32)), (.int fl)]))
      refine OFin.back (fun _ hr => XS.iand X45.here hx rfl (hb hby at_77) rfl hr) ?_
      show OFin p e below s _ _ Q (T45.setTop (mkF m 78 #[.val (.int sz0), .val (.int fd), .val (.int nd), .val (.int fl), .val (.int v4), .val (.ref bq24), .val (.int (0 : Int32)), .val (.int (1 : Int32)), .val (.int ff)] [(.int (fl &&& (1 : Int32)))]))
      by_cases hc78_47 : (fl &&& (1 : Int32)) = (0 : Int32)
      · -- (fl &&& (1 : Int32)) = (0 : Int32)
        refine OFin.back (fun _ hr => XS.ifYes X45.here hx rfl (pc0 := 78) (pc' := 104) rfl (hb hby at_78) rfl ((if0 _ _).trans (teq hc78_47).1) (by decide) (by decide) hr) ?_
        show OFin p e below s _ _ Q (T45.setTop (mkF m 104 #[.val (.int sz0), .val (.int fd), .val (.int nd), .val (.int fl), .val (.int v4), .val (.ref bq24), .val (.int (0 : Int32)), .val (.int (1 : Int32)), .val (.int ff)] []))
        refine OFin.back (fun _ hr => XS.iloadN X45.here hx rfl (hb hby at_104) rfl hr) ?_
        show OFin p e below s _ _ Q (T45.setTop (mkF m 105 #[.val (.int sz0), .val (.int fd), .val (.int nd), .val (.int fl), .val (.int v4), .val (.ref bq24), .val (.int (0 : Int32)), .val (.int (1 : Int32)), .val (.int ff)] [(.int fl)]))
        refine OFin.back (fun _ hr => XS.bipush X45.here hx rfl (hb hby at_105) hr) ?_
        show OFin p e below s _ _ Q (T45.setTop (mkF m 107 #[.val (.int sz0), .val (.int fd), .val (.int nd), .val (.int fl), .val (.int v4), .val (.ref bq24), .val (.int (0 : Int32)), .val (.int (1 : Int32)), .val (.int ff)] [(.int (8 : Int32)), (.int fl)]))
        refine OFin.back (fun _ hr => XS.iand X45.here hx rfl (hb hby at_107) rfl hr) ?_
        show OFin p e below s _ _ Q (T45.setTop (mkF m 108 #[.val (.int sz0), .val (.int fd), .val (.int nd), .val (.int fl), .val (.int v4), .val (.ref bq24), .val (.int (0 : Int32)), .val (.int (1 : Int32)), .val (.int ff)] [(.int (fl &&& (8 : Int32)))]))
        by_cases hc108_48 : (fl &&& (8 : Int32)) = (0 : Int32)
        · -- (fl &&& (8 : Int32)) = (0 : Int32)
          refine OFin.back (fun _ hr => XS.ifYes X45.here hx rfl (pc0 := 108) (pc' := 116) rfl (hb hby at_108) rfl ((if0 _ _).trans (teq hc108_48).1) (by decide) (by decide) hr) ?_
          show OFin p e below s _ _ Q (T45.setTop (mkF m 116 #[.val (.int sz0), .val (.int fd), .val (.int nd), .val (.int fl), .val (.int v4), .val (.ref bq24), .val (.int (0 : Int32)), .val (.int (1 : Int32)), .val (.int ff)] []))
          refine OFin.back (fun _ hr => XS.iload X45.here hx rfl (hb hby at_116) rfl hr) ?_
          show OFin p e below s _ _ Q (T45.setTop (mkF m 118 #[.val (.int sz0), .val (.int fd), .val (.int nd), .val (.int fl), .val (.int v4), .val (.ref bq24), .val (.int (0 : Int32)), .val (.int (1 : Int32)), .val (.int ff)] [(.int (1 : Int32))]))
          refine OFin.back (fun _ hr => XS.ifNo X45.here hx rfl (hb hby at_118) rfl ((if0 _ _).trans (feq (by decide : ¬ ((1 : Int32) = (0 : Int32)))).1) hr) ?_
          show OFin p e below s _ _ Q (T45.setTop (mkF m 121 #[.val (.int sz0), .val (.int fd), .val (.int nd), .val (.int fl), .val (.int v4), .val (.ref bq24), .val (.int (0 : Int32)), .val (.int (1 : Int32)), .val (.int ff)] []))
          refine OFin.back (fun _ hr => XS.aload X45.here hx rfl (hb hby at_121) rfl rfl hr) ?_
          show OFin p e below s _ _ Q (T45.setTop (mkF m 123 #[.val (.int sz0), .val (.int fd), .val (.int nd), .val (.int fl), .val (.int v4), .val (.ref bq24), .val (.int (0 : Int32)), .val (.int (1 : Int32)), .val (.int ff)] [(.ref bq24)]))
          obtain ⟨cq49, kq49, q49a, q49b, q49c⟩ := isOf hZ e45 EX34
          obtain ⟨_, _, ⟨T49, L49, k49, n49⟩, -, X49, ⟨Lc49, hQ49, l49, y49, z49⟩, st49⟩ := X45.virtualBack hx (y := (⟨"com/example/mortise/mortise/validate/KeySequence", "missing", "()I"⟩ : MethodName)) (z := (⟨"com/example/mortise/mortise/validate/KeySequence", "missing", "()I"⟩ : MethodName)) hown (mvT hZ (hw _ (List.mem_of_getElem? (i := 20) rfl))) (mvT hZ (hw _ (List.mem_of_getElem? (i := 21) rfl))) (notFace_of_selects (args := #[]) (mvT hZ (hw _ (List.mem_of_getElem? (i := 23) rfl)))) (mvT hZ (hw _ (List.mem_of_getElem? (i := 23) rfl))) (mvT hZ (hw _ (List.mem_of_getElem? (i := 22) rfl))) (by decide) (backOf (W := 0) (rm2 l Z a0 hw [] bq24 v4 x k1 (T34.heap) n0 f37 Fx34 Vx34 hn) hZ (hw _ (List.mem_of_getElem? (i := 24) rfl)) (hw _ (List.mem_of_getElem? (i := 2) rfl)) (by decide) (by decide)) q49a q49c (g := (mkF m 123 #[.val (.int sz0), .val (.int fd), .val (.int nd), .val (.int fl), .val (.int v4), .val (.ref bq24), .val (.int (0 : Int32)), .val (.int (1 : Int32)), .val (.int ff)] [(.ref bq24)])) rfl (by rw [hml]; rfl) (Steps.refl _) (argsL := []) (rest := []) (lenOf pd0_1 rfl) rfl (by show 2 * 0 + _ ≤ _; exact Nat.le_of_eq rfl) (hb hby at_123) (fun _ _ => ⟨rfl, e45, (by decide : 4 + 0 ≤ _), (by decide : 25 + 0 ≤ _)⟩)
          dsimp only [Pt.U, Pt.locs, Pt.cells, Pt.slots] at X49 l49 y49 z49 st49 hQ49
          subst l49 y49 z49
          obtain ⟨rfl, N49q, e49⟩ := hQ49
          have N49 := Fr.app N45 N49q
          refine OFin.via st49 ?_
          rw [show own_miss v4 = (0 : Int32) from if_neg hz]
          show OFin p e below s _ _ Q (T49.setTop (mkF m 126 #[.val (.int sz0), .val (.int fd), .val (.int nd), .val (.int fl), .val (.int v4), .val (.ref bq24), .val (.int (0 : Int32)), .val (.int (1 : Int32)), .val (.int ff)] [(.int (0 : Int32))]))
          refine OFin.back (fun _ hr => XS.iload X49.here hx rfl (hb hby at_126) rfl hr) ?_
          show OFin p e below s _ _ Q (T49.setTop (mkF m 128 #[.val (.int sz0), .val (.int fd), .val (.int nd), .val (.int fl), .val (.int v4), .val (.ref bq24), .val (.int (0 : Int32)), .val (.int (1 : Int32)), .val (.int ff)] [(.int (0 : Int32)), (.int (0 : Int32))]))
          refine OFin.back (fun _ hr => XS.icmpNo X49.here hx rfl (hb hby at_128) rfl (teq (by decide : (0 : Int32) = (0 : Int32))).2 hr) ?_
          show OFin p e below s _ _ Q (T49.setTop (mkF m 131 #[.val (.int sz0), .val (.int fd), .val (.int nd), .val (.int fl), .val (.int v4), .val (.ref bq24), .val (.int (0 : Int32)), .val (.int (1 : Int32)), .val (.int ff)] []))
          refine OFin.back (fun _ hr => XS.iconst X49.here hx rfl (hb hby at_131) hr) ?_
          show OFin p e below s _ _ Q (T49.setTop (mkF m 132 #[.val (.int sz0), .val (.int fd), .val (.int nd), .val (.int fl), .val (.int v4), .val (.ref bq24), .val (.int (0 : Int32)), .val (.int (1 : Int32)), .val (.int ff)] [(.int (1 : Int32))]))
          refine OFin.back (fun _ hr => XS.goto X49.here hx rfl (pc0 := 132) (pc' := 136) rfl (hb hby at_132) (by decide) (by decide) hr) ?_
          show OFin p e below s _ _ Q (T49.setTop (mkF m 136 #[.val (.int sz0), .val (.int fd), .val (.int nd), .val (.int fl), .val (.int v4), .val (.ref bq24), .val (.int (0 : Int32)), .val (.int (1 : Int32)), .val (.int ff)] [(.int (1 : Int32))]))
          exact OFin.outN (t := .boolean) X49 hx Bd.returns (by simp) Bd.notSynchronized (hb hby at_136) (by decide) (by decide) e49 (by rw [hQ]; exact ⟨rfl, N49⟩)
        · -- not (fl &&& (8 : Int32)) = (0 : Int32)
          refine OFin.back (fun _ hr => XS.ifNo X45.here hx rfl (hb hby at_108) rfl ((if0 _ _).trans (feq hc108_48).1) hr) ?_
          show OFin p e below s _ _ Q (T45.setTop (mkF m 111 #[.val (.int sz0), .val (.int fd), .val (.int nd), .val (.int fl), .val (.int v4), .val (.ref bq24), .val (.int (0 : Int32)), .val (.int (1 : Int32)), .val (.int ff)] []))
          refine OFin.back (fun _ hr => XS.aload X45.here hx rfl (hb hby at_111) rfl rfl hr) ?_
          show OFin p e below s _ _ Q (T45.setTop (mkF m 113 #[.val (.int sz0), .val (.int fd), .val (.int nd), .val (.int fl), .val (.int v4), .val (.ref bq24), .val (.int (0 : Int32)), .val (.int (1 : Int32)), .val (.int ff)] [(.ref bq24)]))
          obtain ⟨cq50, kq50, q50a, q50b, q50c⟩ := isOf hZ e45 EX34
          obtain ⟨_, _, ⟨T50, L50, k50, n50⟩, -, X50, ⟨Lc50, hQ50, l50, y50, z50⟩, st50⟩ := X45.virtualBack hx (y := (⟨"com/example/mortise/mortise/validate/KeySequence", "forget", "()V"⟩ : MethodName)) (z := (⟨"com/example/mortise/mortise/validate/KeySequence", "forget", "()V"⟩ : MethodName)) hown (mvT hZ (hw _ (List.mem_of_getElem? (i := 26) rfl))) (mvT hZ (hw _ (List.mem_of_getElem? (i := 27) rfl))) (notFace_of_selects (args := #[]) (mvT hZ (hw _ (List.mem_of_getElem? (i := 29) rfl)))) (mvT hZ (hw _ (List.mem_of_getElem? (i := 29) rfl))) (mvT hZ (hw _ (List.mem_of_getElem? (i := 28) rfl))) (by decide) (backOf (W := 0) (rm3 l Z a0 hw [] bq24 x (0 : Int32) (T34.heap) n0 f37 Fx34 Fu34 EX34 f25) hZ (hw _ (List.mem_of_getElem? (i := 30) rfl)) (hw _ (List.mem_of_getElem? (i := 2) rfl)) (by decide) (by decide)) q50a q50c (g := (mkF m 113 #[.val (.int sz0), .val (.int fd), .val (.int nd), .val (.int fl), .val (.int v4), .val (.ref bq24), .val (.int (0 : Int32)), .val (.int (1 : Int32)), .val (.int ff)] [(.ref bq24)])) rfl (by rw [hml]; rfl) (Steps.refl _) (argsL := []) (rest := []) (lenOf pd0_2 rfl) rfl (by show 2 * 0 + _ ≤ _; exact Nat.le_of_eq rfl) (hb hby at_113) (fun _ _ => ⟨rfl, e45, (by decide : 4 + 0 ≤ _), (by decide : 25 + 0 ≤ _)⟩)
          dsimp only [Pt.U, Pt.locs, Pt.cells, Pt.slots] at X50 l50 y50 z50 st50 hQ50
          subst l50 y50 z50
          obtain ⟨rfl, N50q, K50, EX50, Fx50, Fu50⟩ := hQ50
          have N50 := Fr.app N45 N50q
          refine OFin.via st50 ?_
          have f51 := f35.keep K50 (allS f25 all0)
          have f52 := EX34.keep K50
          have f53 := Vx34.keep K50 (ninS (Ne.symm f39) nin0)
          have f54 := Vy34.keep K50 (ninS (Ne.symm f40) nin0)
          have f55 := Vz34.keep K50 (ninS (Ne.symm f41) nin0)
          have f56 := Nat.le_trans f37 K50.1
          have f57 := f38.trans K50 (allS (Or.inr f26) all0)
          show OFin p e below s _ _ Q (T50.setTop (mkF m 116 #[.val (.int sz0), .val (.int fd), .val (.int nd), .val (.int fl), .val (.int v4), .val (.ref bq24), .val (.int (0 : Int32)), .val (.int (1 : Int32)), .val (.int ff)] []))
          refine OFin.back (fun _ hr => XS.iload X50.here hx rfl (hb hby at_116) rfl hr) ?_
          show OFin p e below s _ _ Q (T50.setTop (mkF m 118 #[.val (.int sz0), .val (.int fd), .val (.int nd), .val (.int fl), .val (.int v4), .val (.ref bq24), .val (.int (0 : Int32)), .val (.int (1 : Int32)), .val (.int ff)] [(.int (1 : Int32))]))
          refine OFin.back (fun _ hr => XS.ifNo X50.here hx rfl (hb hby at_118) rfl ((if0 _ _).trans (feq (by decide : ¬ ((1 : Int32) = (0 : Int32)))).1) hr) ?_
          show OFin p e below s _ _ Q (T50.setTop (mkF m 121 #[.val (.int sz0), .val (.int fd), .val (.int nd), .val (.int fl), .val (.int v4), .val (.ref bq24), .val (.int (0 : Int32)), .val (.int (1 : Int32)), .val (.int ff)] []))
          refine OFin.back (fun _ hr => XS.aload X50.here hx rfl (hb hby at_121) rfl rfl hr) ?_
          show OFin p e below s _ _ Q (T50.setTop (mkF m 123 #[.val (.int sz0), .val (.int fd), .val (.int nd), .val (.int fl), .val (.int v4), .val (.ref bq24), .val (.int (0 : Int32)), .val (.int (1 : Int32)), .val (.int ff)] [(.ref bq24)]))
          obtain ⟨cq58, kq58, q58a, q58b, q58c⟩ := isOf hZ rfl EX50
          obtain ⟨_, _, ⟨T58, L58, k58, n58⟩, -, X58, ⟨Lc58, hQ58, l58, y58, z58⟩, st58⟩ := X50.virtualBack hx (y := (⟨"com/example/mortise/mortise/validate/KeySequence", "missing", "()I"⟩ : MethodName)) (z := (⟨"com/example/mortise/mortise/validate/KeySequence", "missing", "()I"⟩ : MethodName)) hown (mvT hZ (hw _ (List.mem_of_getElem? (i := 20) rfl))) (mvT hZ (hw _ (List.mem_of_getElem? (i := 21) rfl))) (notFace_of_selects (args := #[]) (mvT hZ (hw _ (List.mem_of_getElem? (i := 23) rfl)))) (mvT hZ (hw _ (List.mem_of_getElem? (i := 23) rfl))) (mvT hZ (hw _ (List.mem_of_getElem? (i := 22) rfl))) (by decide) (backOf (W := 0) (rm2 l Z a0 hw [] bq24 v4 x k1 (T50.heap) n0 f56 Fx50 f53 hn) hZ (hw _ (List.mem_of_getElem? (i := 24) rfl)) (hw _ (List.mem_of_getElem? (i := 2) rfl)) (by decide) (by decide)) q58a q58c (g := (mkF m 123 #[.val (.int sz0), .val (.int fd), .val (.int nd), .val (.int fl), .val (.int v4), .val (.ref bq24), .val (.int (0 : Int32)), .val (.int (1 : Int32)), .val (.int ff)] [(.ref bq24)])) rfl (by rw [hml]; rfl) (Steps.refl _) (argsL := []) (rest := []) (lenOf pd0_1 rfl) rfl (by show 2 * 0 + _ ≤ _; exact Nat.le_of_eq rfl) (hb hby at_123) (fun _ _ => ⟨rfl, rfl, (by decide : 4 + 0 ≤ _), (by decide : 25 + 0 ≤ _)⟩)
          dsimp only [Pt.U, Pt.locs, Pt.cells, Pt.slots] at X58 l58 y58 z58 st58 hQ58
          subst l58 y58 z58
          obtain ⟨rfl, N58q, e58⟩ := hQ58
          have N58 := Fr.app N50 N58q
          refine OFin.via st58 ?_
          rw [show own_miss v4 = (0 : Int32) from if_neg hz]
          show OFin p e below s _ _ Q (T58.setTop (mkF m 126 #[.val (.int sz0), .val (.int fd), .val (.int nd), .val (.int fl), .val (.int v4), .val (.ref bq24), .val (.int (0 : Int32)), .val (.int (1 : Int32)), .val (.int ff)] [(.int (0 : Int32))]))
          refine OFin.back (fun _ hr => XS.iload X58.here hx rfl (hb hby at_126) rfl hr) ?_
          show OFin p e below s _ _ Q (T58.setTop (mkF m 128 #[.val (.int sz0), .val (.int fd), .val (.int nd), .val (.int fl), .val (.int v4), .val (.ref bq24), .val (.int (0 : Int32)), .val (.int (1 : Int32)), .val (.int ff)] [(.int (0 : Int32)), (.int (0 : Int32))]))
          refine OFin.back (fun _ hr => XS.icmpNo X58.here hx rfl (hb hby at_128) rfl (teq (by decide : (0 : Int32) = (0 : Int32))).2 hr) ?_
          show OFin p e below s _ _ Q (T58.setTop (mkF m 131 #[.val (.int sz0), .val (.int fd), .val (.int nd), .val (.int fl), .val (.int v4), .val (.ref bq24), .val (.int (0 : Int32)), .val (.int (1 : Int32)), .val (.int ff)] []))
          refine OFin.back (fun _ hr => XS.iconst X58.here hx rfl (hb hby at_131) hr) ?_
          show OFin p e below s _ _ Q (T58.setTop (mkF m 132 #[.val (.int sz0), .val (.int fd), .val (.int nd), .val (.int fl), .val (.int v4), .val (.ref bq24), .val (.int (0 : Int32)), .val (.int (1 : Int32)), .val (.int ff)] [(.int (1 : Int32))]))
          refine OFin.back (fun _ hr => XS.goto X58.here hx rfl (pc0 := 132) (pc' := 136) rfl (hb hby at_132) (by decide) (by decide) hr) ?_
          show OFin p e below s _ _ Q (T58.setTop (mkF m 136 #[.val (.int sz0), .val (.int fd), .val (.int nd), .val (.int fl), .val (.int v4), .val (.ref bq24), .val (.int (0 : Int32)), .val (.int (1 : Int32)), .val (.int ff)] [(.int (1 : Int32))]))
          exact OFin.outN (t := .boolean) X58 hx Bd.returns (by simp) Bd.notSynchronized (hb hby at_136) (by decide) (by decide) e58 (by rw [hQ]; exact ⟨rfl, N58⟩)
      · -- not (fl &&& (1 : Int32)) = (0 : Int32)
        refine OFin.back (fun _ hr => XS.ifNo X45.here hx rfl (hb hby at_78) rfl ((if0 _ _).trans (feq hc78_47).1) hr) ?_
        show OFin p e below s _ _ Q (T45.setTop (mkF m 81 #[.val (.int sz0), .val (.int fd), .val (.int nd), .val (.int fl), .val (.int v4), .val (.ref bq24), .val (.int (0 : Int32)), .val (.int (1 : Int32)), .val (.int ff)] []))
        refine OFin.back (fun _ hr => XS.aload X45.here hx rfl (hb hby at_81) rfl rfl hr) ?_
        show OFin p e below s _ _ Q (T45.setTop (mkF m 83 #[.val (.int sz0), .val (.int fd), .val (.int nd), .val (.int fl), .val (.int v4), .val (.ref bq24), .val (.int (0 : Int32)), .val (.int (1 : Int32)), .val (.int ff)] [(.ref bq24)]))
        refine OFin.back (fun _ hr => XS.iload X45.here hx rfl (hb hby at_83) rfl hr) ?_
        show OFin p e below s _ _ Q (T45.setTop (mkF m 85 #[.val (.int sz0), .val (.int fd), .val (.int nd), .val (.int fl), .val (.int v4), .val (.ref bq24), .val (.int (0 : Int32)), .val (.int (1 : Int32)), .val (.int ff)] [(.int ff), (.ref bq24)]))
        refine OFin.back (fun _ hr => XS.aconstNull X45.here hx rfl (hb hby at_85) hr) ?_
        show OFin p e below s _ _ Q (T45.setTop (mkF m 86 #[.val (.int sz0), .val (.int fd), .val (.int nd), .val (.int fl), .val (.int v4), .val (.ref bq24), .val (.int (0 : Int32)), .val (.int (1 : Int32)), .val (.int ff)] [.null, (.int ff), (.ref bq24)]))
        refine OFin.back (fun _ hr => XS.iloadN X45.here hx rfl (hb hby at_86) rfl hr) ?_
        show OFin p e below s _ _ Q (T45.setTop (mkF m 87 #[.val (.int sz0), .val (.int fd), .val (.int nd), .val (.int fl), .val (.int v4), .val (.ref bq24), .val (.int (0 : Int32)), .val (.int (1 : Int32)), .val (.int ff)] [(.int fl), .null, (.int ff), (.ref bq24)]))
        refine OFin.back (fun _ hr => XS.iconst X45.here hx rfl (hb hby at_87) hr) ?_
        show OFin p e below s _ _ Q (T45.setTop (mkF m 88 #[.val (.int sz0), .val (.int fd), .val (.int nd), .val (.int fl), .val (.int v4), .val (.ref bq24), .val (.int (0 : Int32)), .val (.int (1 : Int32)), .val (.int ff)] [(.int (2 : Int32)), (.int fl), .null, (.int ff), (.ref bq24)]))
        refine OFin.back (fun _ hr => XS.iand X45.here hx rfl (hb hby at_88) rfl hr) ?_
        show OFin p e below s _ _ Q (T45.setTop (mkF m 89 #[.val (.int sz0), .val (.int fd), .val (.int nd), .val (.int fl), .val (.int v4), .val (.ref bq24), .val (.int (0 : Int32)), .val (.int (1 : Int32)), .val (.int ff)] [(.int (fl &&& (2 : Int32))), .null, (.int ff), (.ref bq24)]))
        by_cases hc89_59 : (fl &&& (2 : Int32)) = (0 : Int32)
        · -- (fl &&& (2 : Int32)) = (0 : Int32)
          refine OFin.back (fun _ hr => XS.ifYes X45.here hx rfl (pc0 := 89) (pc' := 98) rfl (hb hby at_89) rfl ((if0 _ _).trans (teq hc89_59).1) (by decide) (by decide) hr) ?_
          show OFin p e below s _ _ Q (T45.setTop (mkF m 98 #[.val (.int sz0), .val (.int fd), .val (.int nd), .val (.int fl), .val (.int v4), .val (.ref bq24), .val (.int (0 : Int32)), .val (.int (1 : Int32)), .val (.int ff)] [.null, (.int ff), (.ref bq24)]))
          obtain ⟨T60, X60, e60, st60⟩ := getS2 X45 hx hZ hown (host := "") (Or.inl (hw _ (List.mem_of_getElem? (i := 46) rfl))) Via.refl e45 (own_sta S_V1_0 f35) (g := (mkF m 98 #[.val (.int sz0), .val (.int fd), .val (.int nd), .val (.int fl), .val (.int v4), .val (.ref bq24), .val (.int (0 : Int32)), .val (.int (1 : Int32)), .val (.int ff)] [.null, (.int ff), (.ref bq24)])) rfl (hb hby at_98)
          refine OFin.back st60 ?_
          show OFin p e below s _ _ Q (T60.setTop (mkF m 101 #[.val (.int sz0), .val (.int fd), .val (.int nd), .val (.int fl), .val (.int v4), .val (.ref bq24), .val (.int (0 : Int32)), .val (.int (1 : Int32)), .val (.int ff)] [(.ref a_V1_0), .null, (.int ff), (.ref bq24)]))
          obtain ⟨cq61, kq61, q61a, q61b, q61c⟩ := isOf hZ e60 EX34
          obtain ⟨_, _, ⟨T61, L61, k61, n61⟩, -, X61, ⟨Lc61, hQ61, l61, y61, z61⟩, st61⟩ := X60.virtualBack hx (y := (⟨"com/example/mortise/mortise/validate/KeySequence", "take", "(ILcom/example/mortise/mortise/schema/Checked;Lcom/example/mortise/mortise/XsdVersion;)V"⟩ : MethodName)) (z := (⟨"com/example/mortise/mortise/validate/KeySequence", "take", "(ILcom/example/mortise/mortise/schema/Checked;Lcom/example/mortise/mortise/XsdVersion;)V"⟩ : MethodName)) hown (mvT hZ (hw _ (List.mem_of_getElem? (i := 41) rfl))) (mvT hZ (hw _ (List.mem_of_getElem? (i := 42) rfl))) (notFace_of_selects (args := #[]) (mvT hZ (hw _ (List.mem_of_getElem? (i := 44) rfl)))) (mvT hZ (hw _ (List.mem_of_getElem? (i := 44) rfl))) (mvT hZ (hw _ (List.mem_of_getElem? (i := 43) rfl))) (by decide) (backOf (W := 0) (rm5 l Z a0 hw [] bq24 ff a_V1_0 v4 x y k2 (0 : Int32) (T34.heap) n0 f37 Fx34 Fu34 EX34 f25 Fy34 Vy34 hf0 hf1 gy f40) hZ (hw _ (List.mem_of_getElem? (i := 45) rfl)) (hw _ (List.mem_of_getElem? (i := 2) rfl)) (by decide) (by decide)) q61a q61c (g := (mkF m 101 #[.val (.int sz0), .val (.int fd), .val (.int nd), .val (.int fl), .val (.int v4), .val (.ref bq24), .val (.int (0 : Int32)), .val (.int (1 : Int32)), .val (.int ff)] [(.ref a_V1_0), .null, (.int ff), (.ref bq24)])) rfl (by rw [hml]; rfl) (Steps.refl _) (argsL := [(.int ff), .null, (.ref a_V1_0)]) (rest := []) (lenOf pd0_3 rfl) rfl (by show 2 * 0 + _ ≤ _; exact Nat.le_of_eq rfl) (hb hby at_101) (fun _ _ => ⟨rfl, e60, (by decide : 4 + 0 ≤ _), (by decide : 25 + 0 ≤ _)⟩)
          dsimp only [Pt.U, Pt.locs, Pt.cells, Pt.slots] at X61 l61 y61 z61 st61 hQ61
          subst l61 y61 z61
          obtain ⟨rfl, N61q, K61, EX61, Fx61, Fu61⟩ := hQ61
          have N61 := Fr.app N45 N61q
          refine OFin.via st61 ?_
          have f62 := f35.keep K61 (allS f25 (allS gy all0))
          have f63 := EX34.keep K61
          have f64 := Vx34.keep K61 (ninS (Ne.symm f39) (ninS nxy nin0))
          have f65 := Vz34.keep K61 (ninS (Ne.symm f41) (ninS (Ne.symm nyz) nin0))
          have f66 := Nat.le_trans f37 K61.1
          have f67 := f38.trans K61 (allS (Or.inr f26) (allS (Or.inr f43) all0))
          show OFin p e below s _ _ Q (T61.setTop (mkF m 104 #[.val (.int sz0), .val (.int fd), .val (.int nd), .val (.int fl), .val (.int v4), .val (.ref bq24), .val (.int (0 : Int32)), .val (.int (1 : Int32)), .val (.int ff)] []))
          refine OFin.back (fun _ hr => XS.iloadN X61.here hx rfl (hb hby at_104) rfl hr) ?_
          show OFin p e below s _ _ Q (T61.setTop (mkF m 105 #[.val (.int sz0), .val (.int fd), .val (.int nd), .val (.int fl), .val (.int v4), .val (.ref bq24), .val (.int (0 : Int32)), .val (.int (1 : Int32)), .val (.int ff)] [(.int fl)]))
          refine OFin.back (fun _ hr => XS.bipush X61.here hx rfl (hb hby at_105) hr) ?_
          show OFin p e below s _ _ Q (T61.setTop (mkF m 107 #[.val (.int sz0), .val (.int fd), .val (.int nd), .val (.int fl), .val (.int v4), .val (.ref bq24), .val (.int (0 : Int32)), .val (.int (1 : Int32)), .val (.int ff)] [(.int (8 : Int32)), (.int fl)]))
          refine OFin.back (fun _ hr => XS.iand X61.here hx rfl (hb hby at_107) rfl hr) ?_
          show OFin p e below s _ _ Q (T61.setTop (mkF m 108 #[.val (.int sz0), .val (.int fd), .val (.int nd), .val (.int fl), .val (.int v4), .val (.ref bq24), .val (.int (0 : Int32)), .val (.int (1 : Int32)), .val (.int ff)] [(.int (fl &&& (8 : Int32)))]))
          by_cases hc108_68 : (fl &&& (8 : Int32)) = (0 : Int32)
          · -- (fl &&& (8 : Int32)) = (0 : Int32)
            refine OFin.back (fun _ hr => XS.ifYes X61.here hx rfl (pc0 := 108) (pc' := 116) rfl (hb hby at_108) rfl ((if0 _ _).trans (teq hc108_68).1) (by decide) (by decide) hr) ?_
            show OFin p e below s _ _ Q (T61.setTop (mkF m 116 #[.val (.int sz0), .val (.int fd), .val (.int nd), .val (.int fl), .val (.int v4), .val (.ref bq24), .val (.int (0 : Int32)), .val (.int (1 : Int32)), .val (.int ff)] []))
            refine OFin.back (fun _ hr => XS.iload X61.here hx rfl (hb hby at_116) rfl hr) ?_
            show OFin p e below s _ _ Q (T61.setTop (mkF m 118 #[.val (.int sz0), .val (.int fd), .val (.int nd), .val (.int fl), .val (.int v4), .val (.ref bq24), .val (.int (0 : Int32)), .val (.int (1 : Int32)), .val (.int ff)] [(.int (1 : Int32))]))
            refine OFin.back (fun _ hr => XS.ifNo X61.here hx rfl (hb hby at_118) rfl ((if0 _ _).trans (feq (by decide : ¬ ((1 : Int32) = (0 : Int32)))).1) hr) ?_
            show OFin p e below s _ _ Q (T61.setTop (mkF m 121 #[.val (.int sz0), .val (.int fd), .val (.int nd), .val (.int fl), .val (.int v4), .val (.ref bq24), .val (.int (0 : Int32)), .val (.int (1 : Int32)), .val (.int ff)] []))
            refine OFin.back (fun _ hr => XS.aload X61.here hx rfl (hb hby at_121) rfl rfl hr) ?_
            show OFin p e below s _ _ Q (T61.setTop (mkF m 123 #[.val (.int sz0), .val (.int fd), .val (.int nd), .val (.int fl), .val (.int v4), .val (.ref bq24), .val (.int (0 : Int32)), .val (.int (1 : Int32)), .val (.int ff)] [(.ref bq24)]))
            obtain ⟨cq69, kq69, q69a, q69b, q69c⟩ := isOf hZ rfl EX61
            obtain ⟨_, _, ⟨T69, L69, k69, n69⟩, -, X69, ⟨Lc69, hQ69, l69, y69, z69⟩, st69⟩ := X61.virtualBack hx (y := (⟨"com/example/mortise/mortise/validate/KeySequence", "missing", "()I"⟩ : MethodName)) (z := (⟨"com/example/mortise/mortise/validate/KeySequence", "missing", "()I"⟩ : MethodName)) hown (mvT hZ (hw _ (List.mem_of_getElem? (i := 20) rfl))) (mvT hZ (hw _ (List.mem_of_getElem? (i := 21) rfl))) (notFace_of_selects (args := #[]) (mvT hZ (hw _ (List.mem_of_getElem? (i := 23) rfl)))) (mvT hZ (hw _ (List.mem_of_getElem? (i := 23) rfl))) (mvT hZ (hw _ (List.mem_of_getElem? (i := 22) rfl))) (by decide) (backOf (W := 0) (rm2 l Z a0 hw [] bq24 v4 x k1 (T61.heap) n0 f66 Fx61 f64 hn) hZ (hw _ (List.mem_of_getElem? (i := 24) rfl)) (hw _ (List.mem_of_getElem? (i := 2) rfl)) (by decide) (by decide)) q69a q69c (g := (mkF m 123 #[.val (.int sz0), .val (.int fd), .val (.int nd), .val (.int fl), .val (.int v4), .val (.ref bq24), .val (.int (0 : Int32)), .val (.int (1 : Int32)), .val (.int ff)] [(.ref bq24)])) rfl (by rw [hml]; rfl) (Steps.refl _) (argsL := []) (rest := []) (lenOf pd0_1 rfl) rfl (by show 2 * 0 + _ ≤ _; exact Nat.le_of_eq rfl) (hb hby at_123) (fun _ _ => ⟨rfl, rfl, (by decide : 4 + 0 ≤ _), (by decide : 25 + 0 ≤ _)⟩)
            dsimp only [Pt.U, Pt.locs, Pt.cells, Pt.slots] at X69 l69 y69 z69 st69 hQ69
            subst l69 y69 z69
            obtain ⟨rfl, N69q, e69⟩ := hQ69
            have N69 := Fr.app N61 N69q
            refine OFin.via st69 ?_
            rw [show own_miss v4 = (0 : Int32) from if_neg hz]
            show OFin p e below s _ _ Q (T69.setTop (mkF m 126 #[.val (.int sz0), .val (.int fd), .val (.int nd), .val (.int fl), .val (.int v4), .val (.ref bq24), .val (.int (0 : Int32)), .val (.int (1 : Int32)), .val (.int ff)] [(.int (0 : Int32))]))
            refine OFin.back (fun _ hr => XS.iload X69.here hx rfl (hb hby at_126) rfl hr) ?_
            show OFin p e below s _ _ Q (T69.setTop (mkF m 128 #[.val (.int sz0), .val (.int fd), .val (.int nd), .val (.int fl), .val (.int v4), .val (.ref bq24), .val (.int (0 : Int32)), .val (.int (1 : Int32)), .val (.int ff)] [(.int (0 : Int32)), (.int (0 : Int32))]))
            refine OFin.back (fun _ hr => XS.icmpNo X69.here hx rfl (hb hby at_128) rfl (teq (by decide : (0 : Int32) = (0 : Int32))).2 hr) ?_
            show OFin p e below s _ _ Q (T69.setTop (mkF m 131 #[.val (.int sz0), .val (.int fd), .val (.int nd), .val (.int fl), .val (.int v4), .val (.ref bq24), .val (.int (0 : Int32)), .val (.int (1 : Int32)), .val (.int ff)] []))
            refine OFin.back (fun _ hr => XS.iconst X69.here hx rfl (hb hby at_131) hr) ?_
            show OFin p e below s _ _ Q (T69.setTop (mkF m 132 #[.val (.int sz0), .val (.int fd), .val (.int nd), .val (.int fl), .val (.int v4), .val (.ref bq24), .val (.int (0 : Int32)), .val (.int (1 : Int32)), .val (.int ff)] [(.int (1 : Int32))]))
            refine OFin.back (fun _ hr => XS.goto X69.here hx rfl (pc0 := 132) (pc' := 136) rfl (hb hby at_132) (by decide) (by decide) hr) ?_
            show OFin p e below s _ _ Q (T69.setTop (mkF m 136 #[.val (.int sz0), .val (.int fd), .val (.int nd), .val (.int fl), .val (.int v4), .val (.ref bq24), .val (.int (0 : Int32)), .val (.int (1 : Int32)), .val (.int ff)] [(.int (1 : Int32))]))
            exact OFin.outN (t := .boolean) X69 hx Bd.returns (by simp) Bd.notSynchronized (hb hby at_136) (by decide) (by decide) e69 (by rw [hQ]; exact ⟨rfl, N69⟩)
          · -- not (fl &&& (8 : Int32)) = (0 : Int32)
            refine OFin.back (fun _ hr => XS.ifNo X61.here hx rfl (hb hby at_108) rfl ((if0 _ _).trans (feq hc108_68).1) hr) ?_
            show OFin p e below s _ _ Q (T61.setTop (mkF m 111 #[.val (.int sz0), .val (.int fd), .val (.int nd), .val (.int fl), .val (.int v4), .val (.ref bq24), .val (.int (0 : Int32)), .val (.int (1 : Int32)), .val (.int ff)] []))
            refine OFin.back (fun _ hr => XS.aload X61.here hx rfl (hb hby at_111) rfl rfl hr) ?_
            show OFin p e below s _ _ Q (T61.setTop (mkF m 113 #[.val (.int sz0), .val (.int fd), .val (.int nd), .val (.int fl), .val (.int v4), .val (.ref bq24), .val (.int (0 : Int32)), .val (.int (1 : Int32)), .val (.int ff)] [(.ref bq24)]))
            obtain ⟨cq70, kq70, q70a, q70b, q70c⟩ := isOf hZ rfl EX61
            obtain ⟨_, _, ⟨T70, L70, k70, n70⟩, -, X70, ⟨Lc70, hQ70, l70, y70, z70⟩, st70⟩ := X61.virtualBack hx (y := (⟨"com/example/mortise/mortise/validate/KeySequence", "forget", "()V"⟩ : MethodName)) (z := (⟨"com/example/mortise/mortise/validate/KeySequence", "forget", "()V"⟩ : MethodName)) hown (mvT hZ (hw _ (List.mem_of_getElem? (i := 26) rfl))) (mvT hZ (hw _ (List.mem_of_getElem? (i := 27) rfl))) (notFace_of_selects (args := #[]) (mvT hZ (hw _ (List.mem_of_getElem? (i := 29) rfl)))) (mvT hZ (hw _ (List.mem_of_getElem? (i := 29) rfl))) (mvT hZ (hw _ (List.mem_of_getElem? (i := 28) rfl))) (by decide) (backOf (W := 0) (rm3 l Z a0 hw [] bq24 x (1 : Int32) (T61.heap) n0 f66 Fx61 Fu61 EX61 f25) hZ (hw _ (List.mem_of_getElem? (i := 30) rfl)) (hw _ (List.mem_of_getElem? (i := 2) rfl)) (by decide) (by decide)) q70a q70c (g := (mkF m 113 #[.val (.int sz0), .val (.int fd), .val (.int nd), .val (.int fl), .val (.int v4), .val (.ref bq24), .val (.int (0 : Int32)), .val (.int (1 : Int32)), .val (.int ff)] [(.ref bq24)])) rfl (by rw [hml]; rfl) (Steps.refl _) (argsL := []) (rest := []) (lenOf pd0_2 rfl) rfl (by show 2 * 0 + _ ≤ _; exact Nat.le_of_eq rfl) (hb hby at_113) (fun _ _ => ⟨rfl, rfl, (by decide : 4 + 0 ≤ _), (by decide : 25 + 0 ≤ _)⟩)
            dsimp only [Pt.U, Pt.locs, Pt.cells, Pt.slots] at X70 l70 y70 z70 st70 hQ70
            subst l70 y70 z70
            obtain ⟨rfl, N70q, K70, EX70, Fx70, Fu70⟩ := hQ70
            have N70 := Fr.app N61 N70q
            refine OFin.via st70 ?_
            have f71 := f62.keep K70 (allS f25 all0)
            have f72 := EX61.keep K70
            have f73 := f64.keep K70 (ninS (Ne.symm f39) nin0)
            have f74 := f65.keep K70 (ninS (Ne.symm f41) nin0)
            have f75 := Nat.le_trans f66 K70.1
            have f76 := f67.trans K70 (allS (Or.inr f26) all0)
            show OFin p e below s _ _ Q (T70.setTop (mkF m 116 #[.val (.int sz0), .val (.int fd), .val (.int nd), .val (.int fl), .val (.int v4), .val (.ref bq24), .val (.int (0 : Int32)), .val (.int (1 : Int32)), .val (.int ff)] []))
            refine OFin.back (fun _ hr => XS.iload X70.here hx rfl (hb hby at_116) rfl hr) ?_
            show OFin p e below s _ _ Q (T70.setTop (mkF m 118 #[.val (.int sz0), .val (.int fd), .val (.int nd), .val (.int fl), .val (.int v4), .val (.ref bq24), .val (.int (0 : Int32)), .val (.int (1 : Int32)), .val (.int ff)] [(.int (1 : Int32))]))
            refine OFin.back (fun _ hr => XS.ifNo X70.here hx rfl (hb hby at_118) rfl ((if0 _ _).trans (feq (by decide : ¬ ((1 : Int32) = (0 : Int32)))).1) hr) ?_
            show OFin p e below s _ _ Q (T70.setTop (mkF m 121 #[.val (.int sz0), .val (.int fd), .val (.int nd), .val (.int fl), .val (.int v4), .val (.ref bq24), .val (.int (0 : Int32)), .val (.int (1 : Int32)), .val (.int ff)] []))
            refine OFin.back (fun _ hr => XS.aload X70.here hx rfl (hb hby at_121) rfl rfl hr) ?_
            show OFin p e below s _ _ Q (T70.setTop (mkF m 123 #[.val (.int sz0), .val (.int fd), .val (.int nd), .val (.int fl), .val (.int v4), .val (.ref bq24), .val (.int (0 : Int32)), .val (.int (1 : Int32)), .val (.int ff)] [(.ref bq24)]))
            obtain ⟨cq77, kq77, q77a, q77b, q77c⟩ := isOf hZ rfl EX70
            obtain ⟨_, _, ⟨T77, L77, k77, n77⟩, -, X77, ⟨Lc77, hQ77, l77, y77, z77⟩, st77⟩ := X70.virtualBack hx (y := (⟨"com/example/mortise/mortise/validate/KeySequence", "missing", "()I"⟩ : MethodName)) (z := (⟨"com/example/mortise/mortise/validate/KeySequence", "missing", "()I"⟩ : MethodName)) hown (mvT hZ (hw _ (List.mem_of_getElem? (i := 20) rfl))) (mvT hZ (hw _ (List.mem_of_getElem? (i := 21) rfl))) (notFace_of_selects (args := #[]) (mvT hZ (hw _ (List.mem_of_getElem? (i := 23) rfl)))) (mvT hZ (hw _ (List.mem_of_getElem? (i := 23) rfl))) (mvT hZ (hw _ (List.mem_of_getElem? (i := 22) rfl))) (by decide) (backOf (W := 0) (rm2 l Z a0 hw [] bq24 v4 x k1 (T70.heap) n0 f75 Fx70 f73 hn) hZ (hw _ (List.mem_of_getElem? (i := 24) rfl)) (hw _ (List.mem_of_getElem? (i := 2) rfl)) (by decide) (by decide)) q77a q77c (g := (mkF m 123 #[.val (.int sz0), .val (.int fd), .val (.int nd), .val (.int fl), .val (.int v4), .val (.ref bq24), .val (.int (0 : Int32)), .val (.int (1 : Int32)), .val (.int ff)] [(.ref bq24)])) rfl (by rw [hml]; rfl) (Steps.refl _) (argsL := []) (rest := []) (lenOf pd0_1 rfl) rfl (by show 2 * 0 + _ ≤ _; exact Nat.le_of_eq rfl) (hb hby at_123) (fun _ _ => ⟨rfl, rfl, (by decide : 4 + 0 ≤ _), (by decide : 25 + 0 ≤ _)⟩)
            dsimp only [Pt.U, Pt.locs, Pt.cells, Pt.slots] at X77 l77 y77 z77 st77 hQ77
            subst l77 y77 z77
            obtain ⟨rfl, N77q, e77⟩ := hQ77
            have N77 := Fr.app N70 N77q
            refine OFin.via st77 ?_
            rw [show own_miss v4 = (0 : Int32) from if_neg hz]
            show OFin p e below s _ _ Q (T77.setTop (mkF m 126 #[.val (.int sz0), .val (.int fd), .val (.int nd), .val (.int fl), .val (.int v4), .val (.ref bq24), .val (.int (0 : Int32)), .val (.int (1 : Int32)), .val (.int ff)] [(.int (0 : Int32))]))
            refine OFin.back (fun _ hr => XS.iload X77.here hx rfl (hb hby at_126) rfl hr) ?_
            show OFin p e below s _ _ Q (T77.setTop (mkF m 128 #[.val (.int sz0), .val (.int fd), .val (.int nd), .val (.int fl), .val (.int v4), .val (.ref bq24), .val (.int (0 : Int32)), .val (.int (1 : Int32)), .val (.int ff)] [(.int (0 : Int32)), (.int (0 : Int32))]))
            refine OFin.back (fun _ hr => XS.icmpNo X77.here hx rfl (hb hby at_128) rfl (teq (by decide : (0 : Int32) = (0 : Int32))).2 hr) ?_
            show OFin p e below s _ _ Q (T77.setTop (mkF m 131 #[.val (.int sz0), .val (.int fd), .val (.int nd), .val (.int fl), .val (.int v4), .val (.ref bq24), .val (.int (0 : Int32)), .val (.int (1 : Int32)), .val (.int ff)] []))
            refine OFin.back (fun _ hr => XS.iconst X77.here hx rfl (hb hby at_131) hr) ?_
            show OFin p e below s _ _ Q (T77.setTop (mkF m 132 #[.val (.int sz0), .val (.int fd), .val (.int nd), .val (.int fl), .val (.int v4), .val (.ref bq24), .val (.int (0 : Int32)), .val (.int (1 : Int32)), .val (.int ff)] [(.int (1 : Int32))]))
            refine OFin.back (fun _ hr => XS.goto X77.here hx rfl (pc0 := 132) (pc' := 136) rfl (hb hby at_132) (by decide) (by decide) hr) ?_
            show OFin p e below s _ _ Q (T77.setTop (mkF m 136 #[.val (.int sz0), .val (.int fd), .val (.int nd), .val (.int fl), .val (.int v4), .val (.ref bq24), .val (.int (0 : Int32)), .val (.int (1 : Int32)), .val (.int ff)] [(.int (1 : Int32))]))
            exact OFin.outN (t := .boolean) X77 hx Bd.returns (by simp) Bd.notSynchronized (hb hby at_136) (by decide) (by decide) e77 (by rw [hQ]; exact ⟨rfl, N77⟩)
        · -- not (fl &&& (2 : Int32)) = (0 : Int32)
          refine OFin.back (fun _ hr => XS.ifNo X45.here hx rfl (hb hby at_89) rfl ((if0 _ _).trans (feq hc89_59).1) hr) ?_
          show OFin p e below s _ _ Q (T45.setTop (mkF m 92 #[.val (.int sz0), .val (.int fd), .val (.int nd), .val (.int fl), .val (.int v4), .val (.ref bq24), .val (.int (0 : Int32)), .val (.int (1 : Int32)), .val (.int ff)] [.null, (.int ff), (.ref bq24)]))
          obtain ⟨T78, X78, e78, st78⟩ := getS2 X45 hx hZ hown (host := "") (Or.inl (hw _ (List.mem_of_getElem? (i := 38) rfl))) Via.refl e45 (own_sta S_V1_1 f35) (g := (mkF m 92 #[.val (.int sz0), .val (.int fd), .val (.int nd), .val (.int fl), .val (.int v4), .val (.ref bq24), .val (.int (0 : Int32)), .val (.int (1 : Int32)), .val (.int ff)] [.null, (.int ff), (.ref bq24)])) rfl (hb hby at_92)
          refine OFin.back st78 ?_
          show OFin p e below s _ _ Q (T78.setTop (mkF m 95 #[.val (.int sz0), .val (.int fd), .val (.int nd), .val (.int fl), .val (.int v4), .val (.ref bq24), .val (.int (0 : Int32)), .val (.int (1 : Int32)), .val (.int ff)] [(.ref a_V1_1), .null, (.int ff), (.ref bq24)]))
          refine OFin.back (fun _ hr => XS.goto X78.here hx rfl (pc0 := 95) (pc' := 101) rfl (hb hby at_95) (by decide) (by decide) hr) ?_
          show OFin p e below s _ _ Q (T78.setTop (mkF m 101 #[.val (.int sz0), .val (.int fd), .val (.int nd), .val (.int fl), .val (.int v4), .val (.ref bq24), .val (.int (0 : Int32)), .val (.int (1 : Int32)), .val (.int ff)] [(.ref a_V1_1), .null, (.int ff), (.ref bq24)]))
          obtain ⟨cq79, kq79, q79a, q79b, q79c⟩ := isOf hZ e78 EX34
          obtain ⟨_, _, ⟨T79, L79, k79, n79⟩, -, X79, ⟨Lc79, hQ79, l79, y79, z79⟩, st79⟩ := X78.virtualBack hx (y := (⟨"com/example/mortise/mortise/validate/KeySequence", "take", "(ILcom/example/mortise/mortise/schema/Checked;Lcom/example/mortise/mortise/XsdVersion;)V"⟩ : MethodName)) (z := (⟨"com/example/mortise/mortise/validate/KeySequence", "take", "(ILcom/example/mortise/mortise/schema/Checked;Lcom/example/mortise/mortise/XsdVersion;)V"⟩ : MethodName)) hown (mvT hZ (hw _ (List.mem_of_getElem? (i := 41) rfl))) (mvT hZ (hw _ (List.mem_of_getElem? (i := 42) rfl))) (notFace_of_selects (args := #[]) (mvT hZ (hw _ (List.mem_of_getElem? (i := 44) rfl)))) (mvT hZ (hw _ (List.mem_of_getElem? (i := 44) rfl))) (mvT hZ (hw _ (List.mem_of_getElem? (i := 43) rfl))) (by decide) (backOf (W := 0) (rm5 l Z a0 hw [] bq24 ff a_V1_1 v4 x y k2 (0 : Int32) (T34.heap) n0 f37 Fx34 Fu34 EX34 f25 Fy34 Vy34 hf0 hf1 gy f40) hZ (hw _ (List.mem_of_getElem? (i := 45) rfl)) (hw _ (List.mem_of_getElem? (i := 2) rfl)) (by decide) (by decide)) q79a q79c (g := (mkF m 101 #[.val (.int sz0), .val (.int fd), .val (.int nd), .val (.int fl), .val (.int v4), .val (.ref bq24), .val (.int (0 : Int32)), .val (.int (1 : Int32)), .val (.int ff)] [(.ref a_V1_1), .null, (.int ff), (.ref bq24)])) rfl (by rw [hml]; rfl) (Steps.refl _) (argsL := [(.int ff), .null, (.ref a_V1_1)]) (rest := []) (lenOf pd0_3 rfl) rfl (by show 2 * 0 + _ ≤ _; exact Nat.le_of_eq rfl) (hb hby at_101) (fun _ _ => ⟨rfl, e78, (by decide : 4 + 0 ≤ _), (by decide : 25 + 0 ≤ _)⟩)
          dsimp only [Pt.U, Pt.locs, Pt.cells, Pt.slots] at X79 l79 y79 z79 st79 hQ79
          subst l79 y79 z79
          obtain ⟨rfl, N79q, K79, EX79, Fx79, Fu79⟩ := hQ79
          have N79 := Fr.app N45 N79q
          refine OFin.via st79 ?_
          have f80 := f35.keep K79 (allS f25 (allS gy all0))
          have f81 := EX34.keep K79
          have f82 := Vx34.keep K79 (ninS (Ne.symm f39) (ninS nxy nin0))
          have f83 := Vz34.keep K79 (ninS (Ne.symm f41) (ninS (Ne.symm nyz) nin0))
          have f84 := Nat.le_trans f37 K79.1
          have f85 := f38.trans K79 (allS (Or.inr f26) (allS (Or.inr f43) all0))
          show OFin p e below s _ _ Q (T79.setTop (mkF m 104 #[.val (.int sz0), .val (.int fd), .val (.int nd), .val (.int fl), .val (.int v4), .val (.ref bq24), .val (.int (0 : Int32)), .val (.int (1 : Int32)), .val (.int ff)] []))
          refine OFin.back (fun _ hr => XS.iloadN X79.here hx rfl (hb hby at_104) rfl hr) ?_
          show OFin p e below s _ _ Q (T79.setTop (mkF m 105 #[.val (.int sz0), .val (.int fd), .val (.int nd), .val (.int fl), .val (.int v4), .val (.ref bq24), .val (.int (0 : Int32)), .val (.int (1 : Int32)), .val (.int ff)] [(.int fl)]))
          refine OFin.back (fun _ hr => XS.bipush X79.here hx rfl (hb hby at_105) hr) ?_
          show OFin p e below s _ _ Q (T79.setTop (mkF m 107 #[.val (.int sz0), .val (.int fd), .val (.int nd), .val (.int fl), .val (.int v4), .val (.ref bq24), .val (.int (0 : Int32)), .val (.int (1 : Int32)), .val (.int ff)] [(.int (8 : Int32)), (.int fl)]))
          refine OFin.back (fun _ hr => XS.iand X79.here hx rfl (hb hby at_107) rfl hr) ?_
          show OFin p e below s _ _ Q (T79.setTop (mkF m 108 #[.val (.int sz0), .val (.int fd), .val (.int nd), .val (.int fl), .val (.int v4), .val (.ref bq24), .val (.int (0 : Int32)), .val (.int (1 : Int32)), .val (.int ff)] [(.int (fl &&& (8 : Int32)))]))
          by_cases hc108_86 : (fl &&& (8 : Int32)) = (0 : Int32)
          · -- (fl &&& (8 : Int32)) = (0 : Int32)
            refine OFin.back (fun _ hr => XS.ifYes X79.here hx rfl (pc0 := 108) (pc' := 116) rfl (hb hby at_108) rfl ((if0 _ _).trans (teq hc108_86).1) (by decide) (by decide) hr) ?_
            show OFin p e below s _ _ Q (T79.setTop (mkF m 116 #[.val (.int sz0), .val (.int fd), .val (.int nd), .val (.int fl), .val (.int v4), .val (.ref bq24), .val (.int (0 : Int32)), .val (.int (1 : Int32)), .val (.int ff)] []))
            refine OFin.back (fun _ hr => XS.iload X79.here hx rfl (hb hby at_116) rfl hr) ?_
            show OFin p e below s _ _ Q (T79.setTop (mkF m 118 #[.val (.int sz0), .val (.int fd), .val (.int nd), .val (.int fl), .val (.int v4), .val (.ref bq24), .val (.int (0 : Int32)), .val (.int (1 : Int32)), .val (.int ff)] [(.int (1 : Int32))]))
            refine OFin.back (fun _ hr => XS.ifNo X79.here hx rfl (hb hby at_118) rfl ((if0 _ _).trans (feq (by decide : ¬ ((1 : Int32) = (0 : Int32)))).1) hr) ?_
            show OFin p e below s _ _ Q (T79.setTop (mkF m 121 #[.val (.int sz0), .val (.int fd), .val (.int nd), .val (.int fl), .val (.int v4), .val (.ref bq24), .val (.int (0 : Int32)), .val (.int (1 : Int32)), .val (.int ff)] []))
            refine OFin.back (fun _ hr => XS.aload X79.here hx rfl (hb hby at_121) rfl rfl hr) ?_
            show OFin p e below s _ _ Q (T79.setTop (mkF m 123 #[.val (.int sz0), .val (.int fd), .val (.int nd), .val (.int fl), .val (.int v4), .val (.ref bq24), .val (.int (0 : Int32)), .val (.int (1 : Int32)), .val (.int ff)] [(.ref bq24)]))
            obtain ⟨cq87, kq87, q87a, q87b, q87c⟩ := isOf hZ rfl EX79
            obtain ⟨_, _, ⟨T87, L87, k87, n87⟩, -, X87, ⟨Lc87, hQ87, l87, y87, z87⟩, st87⟩ := X79.virtualBack hx (y := (⟨"com/example/mortise/mortise/validate/KeySequence", "missing", "()I"⟩ : MethodName)) (z := (⟨"com/example/mortise/mortise/validate/KeySequence", "missing", "()I"⟩ : MethodName)) hown (mvT hZ (hw _ (List.mem_of_getElem? (i := 20) rfl))) (mvT hZ (hw _ (List.mem_of_getElem? (i := 21) rfl))) (notFace_of_selects (args := #[]) (mvT hZ (hw _ (List.mem_of_getElem? (i := 23) rfl)))) (mvT hZ (hw _ (List.mem_of_getElem? (i := 23) rfl))) (mvT hZ (hw _ (List.mem_of_getElem? (i := 22) rfl))) (by decide) (backOf (W := 0) (rm2 l Z a0 hw [] bq24 v4 x k1 (T79.heap) n0 f84 Fx79 f82 hn) hZ (hw _ (List.mem_of_getElem? (i := 24) rfl)) (hw _ (List.mem_of_getElem? (i := 2) rfl)) (by decide) (by decide)) q87a q87c (g := (mkF m 123 #[.val (.int sz0), .val (.int fd), .val (.int nd), .val (.int fl), .val (.int v4), .val (.ref bq24), .val (.int (0 : Int32)), .val (.int (1 : Int32)), .val (.int ff)] [(.ref bq24)])) rfl (by rw [hml]; rfl) (Steps.refl _) (argsL := []) (rest := []) (lenOf pd0_1 rfl) rfl (by show 2 * 0 + _ ≤ _; exact Nat.le_of_eq rfl) (hb hby at_123) (fun _ _ => ⟨rfl, rfl, (by decide : 4 + 0 ≤ _), (by decide : 25 + 0 ≤ _)⟩)
            dsimp only [Pt.U, Pt.locs, Pt.cells, Pt.slots] at X87 l87 y87 z87 st87 hQ87
            subst l87 y87 z87
            obtain ⟨rfl, N87q, e87⟩ := hQ87
            have N87 := Fr.app N79 N87q
            refine OFin.via st87 ?_
            rw [show own_miss v4 = (0 : Int32) from if_neg hz]
            show OFin p e below s _ _ Q (T87.setTop (mkF m 126 #[.val (.int sz0), .val (.int fd), .val (.int nd), .val (.int fl), .val (.int v4), .val (.ref bq24), .val (.int (0 : Int32)), .val (.int (1 : Int32)), .val (.int ff)] [(.int (0 : Int32))]))
            refine OFin.back (fun _ hr => XS.iload X87.here hx rfl (hb hby at_126) rfl hr) ?_
            show OFin p e below s _ _ Q (T87.setTop (mkF m 128 #[.val (.int sz0), .val (.int fd), .val (.int nd), .val (.int fl), .val (.int v4), .val (.ref bq24), .val (.int (0 : Int32)), .val (.int (1 : Int32)), .val (.int ff)] [(.int (0 : Int32)), (.int (0 : Int32))]))
            refine OFin.back (fun _ hr => XS.icmpNo X87.here hx rfl (hb hby at_128) rfl (teq (by decide : (0 : Int32) = (0 : Int32))).2 hr) ?_
            show OFin p e below s _ _ Q (T87.setTop (mkF m 131 #[.val (.int sz0), .val (.int fd), .val (.int nd), .val (.int fl), .val (.int v4), .val (.ref bq24), .val (.int (0 : Int32)), .val (.int (1 : Int32)), .val (.int ff)] []))
            refine OFin.back (fun _ hr => XS.iconst X87.here hx rfl (hb hby at_131) hr) ?_
            show OFin p e below s _ _ Q (T87.setTop (mkF m 132 #[.val (.int sz0), .val (.int fd), .val (.int nd), .val (.int fl), .val (.int v4), .val (.ref bq24), .val (.int (0 : Int32)), .val (.int (1 : Int32)), .val (.int ff)] [(.int (1 : Int32))]))
            refine OFin.back (fun _ hr => XS.goto X87.here hx rfl (pc0 := 132) (pc' := 136) rfl (hb hby at_132) (by decide) (by decide) hr) ?_
            show OFin p e below s _ _ Q (T87.setTop (mkF m 136 #[.val (.int sz0), .val (.int fd), .val (.int nd), .val (.int fl), .val (.int v4), .val (.ref bq24), .val (.int (0 : Int32)), .val (.int (1 : Int32)), .val (.int ff)] [(.int (1 : Int32))]))
            exact OFin.outN (t := .boolean) X87 hx Bd.returns (by simp) Bd.notSynchronized (hb hby at_136) (by decide) (by decide) e87 (by rw [hQ]; exact ⟨rfl, N87⟩)
          · -- not (fl &&& (8 : Int32)) = (0 : Int32)
            refine OFin.back (fun _ hr => XS.ifNo X79.here hx rfl (hb hby at_108) rfl ((if0 _ _).trans (feq hc108_86).1) hr) ?_
            show OFin p e below s _ _ Q (T79.setTop (mkF m 111 #[.val (.int sz0), .val (.int fd), .val (.int nd), .val (.int fl), .val (.int v4), .val (.ref bq24), .val (.int (0 : Int32)), .val (.int (1 : Int32)), .val (.int ff)] []))
            refine OFin.back (fun _ hr => XS.aload X79.here hx rfl (hb hby at_111) rfl rfl hr) ?_
            show OFin p e below s _ _ Q (T79.setTop (mkF m 113 #[.val (.int sz0), .val (.int fd), .val (.int nd), .val (.int fl), .val (.int v4), .val (.ref bq24), .val (.int (0 : Int32)), .val (.int (1 : Int32)), .val (.int ff)] [(.ref bq24)]))
            obtain ⟨cq88, kq88, q88a, q88b, q88c⟩ := isOf hZ rfl EX79
            obtain ⟨_, _, ⟨T88, L88, k88, n88⟩, -, X88, ⟨Lc88, hQ88, l88, y88, z88⟩, st88⟩ := X79.virtualBack hx (y := (⟨"com/example/mortise/mortise/validate/KeySequence", "forget", "()V"⟩ : MethodName)) (z := (⟨"com/example/mortise/mortise/validate/KeySequence", "forget", "()V"⟩ : MethodName)) hown (mvT hZ (hw _ (List.mem_of_getElem? (i := 26) rfl))) (mvT hZ (hw _ (List.mem_of_getElem? (i := 27) rfl))) (notFace_of_selects (args := #[]) (mvT hZ (hw _ (List.mem_of_getElem? (i := 29) rfl)))) (mvT hZ (hw _ (List.mem_of_getElem? (i := 29) rfl))) (mvT hZ (hw _ (List.mem_of_getElem? (i := 28) rfl))) (by decide) (backOf (W := 0) (rm3 l Z a0 hw [] bq24 x (1 : Int32) (T79.heap) n0 f84 Fx79 Fu79 EX79 f25) hZ (hw _ (List.mem_of_getElem? (i := 30) rfl)) (hw _ (List.mem_of_getElem? (i := 2) rfl)) (by decide) (by decide)) q88a q88c (g := (mkF m 113 #[.val (.int sz0), .val (.int fd), .val (.int nd), .val (.int fl), .val (.int v4), .val (.ref bq24), .val (.int (0 : Int32)), .val (.int (1 : Int32)), .val (.int ff)] [(.ref bq24)])) rfl (by rw [hml]; rfl) (Steps.refl _) (argsL := []) (rest := []) (lenOf pd0_2 rfl) rfl (by show 2 * 0 + _ ≤ _; exact Nat.le_of_eq rfl) (hb hby at_113) (fun _ _ => ⟨rfl, rfl, (by decide : 4 + 0 ≤ _), (by decide : 25 + 0 ≤ _)⟩)
            dsimp only [Pt.U, Pt.locs, Pt.cells, Pt.slots] at X88 l88 y88 z88 st88 hQ88
            subst l88 y88 z88
            obtain ⟨rfl, N88q, K88, EX88, Fx88, Fu88⟩ := hQ88
            have N88 := Fr.app N79 N88q
            refine OFin.via st88 ?_
            have f89 := f80.keep K88 (allS f25 all0)
            have f90 := EX79.keep K88
            have f91 := f82.keep K88 (ninS (Ne.symm f39) nin0)
            have f92 := f83.keep K88 (ninS (Ne.symm f41) nin0)
            have f93 := Nat.le_trans f84 K88.1
            have f94 := f85.trans K88 (allS (Or.inr f26) all0)
            show OFin p e below s _ _ Q (T88.setTop (mkF m 116 #[.val (.int sz0), .val (.int fd), .val (.int nd), .val (.int fl), .val (.int v4), .val (.ref bq24), .val (.int (0 : Int32)), .val (.int (1 : Int32)), .val (.int ff)] []))
            refine OFin.back (fun _ hr => XS.iload X88.here hx rfl (hb hby at_116) rfl hr) ?_
            show OFin p e below s _ _ Q (T88.setTop (mkF m 118 #[.val (.int sz0), .val (.int fd), .val (.int nd), .val (.int fl), .val (.int v4), .val (.ref bq24), .val (.int (0 : Int32)), .val (.int (1 : Int32)), .val (.int ff)] [(.int (1 : Int32))]))
            refine OFin.back (fun _ hr => XS.ifNo X88.here hx rfl (hb hby at_118) rfl ((if0 _ _).trans (feq (by decide : ¬ ((1 : Int32) = (0 : Int32)))).1) hr) ?_
            show OFin p e below s _ _ Q (T88.setTop (mkF m 121 #[.val (.int sz0), .val (.int fd), .val (.int nd), .val (.int fl), .val (.int v4), .val (.ref bq24), .val (.int (0 : Int32)), .val (.int (1 : Int32)), .val (.int ff)] []))
            refine OFin.back (fun _ hr => XS.aload X88.here hx rfl (hb hby at_121) rfl rfl hr) ?_
            show OFin p e below s _ _ Q (T88.setTop (mkF m 123 #[.val (.int sz0), .val (.int fd), .val (.int nd), .val (.int fl), .val (.int v4), .val (.ref bq24), .val (.int (0 : Int32)), .val (.int (1 : Int32)), .val (.int ff)] [(.ref bq24)]))
            obtain ⟨cq95, kq95, q95a, q95b, q95c⟩ := isOf hZ rfl EX88
            obtain ⟨_, _, ⟨T95, L95, k95, n95⟩, -, X95, ⟨Lc95, hQ95, l95, y95, z95⟩, st95⟩ := X88.virtualBack hx (y := (⟨"com/example/mortise/mortise/validate/KeySequence", "missing", "()I"⟩ : MethodName)) (z := (⟨"com/example/mortise/mortise/validate/KeySequence", "missing", "()I"⟩ : MethodName)) hown (mvT hZ (hw _ (List.mem_of_getElem? (i := 20) rfl))) (mvT hZ (hw _ (List.mem_of_getElem? (i := 21) rfl))) (notFace_of_selects (args := #[]) (mvT hZ (hw _ (List.mem_of_getElem? (i := 23) rfl)))) (mvT hZ (hw _ (List.mem_of_getElem? (i := 23) rfl))) (mvT hZ (hw _ (List.mem_of_getElem? (i := 22) rfl))) (by decide) (backOf (W := 0) (rm2 l Z a0 hw [] bq24 v4 x k1 (T88.heap) n0 f93 Fx88 f91 hn) hZ (hw _ (List.mem_of_getElem? (i := 24) rfl)) (hw _ (List.mem_of_getElem? (i := 2) rfl)) (by decide) (by decide)) q95a q95c (g := (mkF m 123 #[.val (.int sz0), .val (.int fd), .val (.int nd), .val (.int fl), .val (.int v4), .val (.ref bq24), .val (.int (0 : Int32)), .val (.int (1 : Int32)), .val (.int ff)] [(.ref bq24)])) rfl (by rw [hml]; rfl) (Steps.refl _) (argsL := []) (rest := []) (lenOf pd0_1 rfl) rfl (by show 2 * 0 + _ ≤ _; exact Nat.le_of_eq rfl) (hb hby at_123) (fun _ _ => ⟨rfl, rfl, (by decide : 4 + 0 ≤ _), (by decide : 25 + 0 ≤ _)⟩)
            dsimp only [Pt.U, Pt.locs, Pt.cells, Pt.slots] at X95 l95 y95 z95 st95 hQ95
            subst l95 y95 z95
            obtain ⟨rfl, N95q, e95⟩ := hQ95
            have N95 := Fr.app N88 N95q
            refine OFin.via st95 ?_
            rw [show own_miss v4 = (0 : Int32) from if_neg hz]
            show OFin p e below s _ _ Q (T95.setTop (mkF m 126 #[.val (.int sz0), .val (.int fd), .val (.int nd), .val (.int fl), .val (.int v4), .val (.ref bq24), .val (.int (0 : Int32)), .val (.int (1 : Int32)), .val (.int ff)] [(.int (0 : Int32))]))
            refine OFin.back (fun _ hr => XS.iload X95.here hx rfl (hb hby at_126) rfl hr) ?_
            show OFin p e below s _ _ Q (T95.setTop (mkF m 128 #[.val (.int sz0), .val (.int fd), .val (.int nd), .val (.int fl), .val (.int v4), .val (.ref bq24), .val (.int (0 : Int32)), .val (.int (1 : Int32)), .val (.int ff)] [(.int (0 : Int32)), (.int (0 : Int32))]))
            refine OFin.back (fun _ hr => XS.icmpNo X95.here hx rfl (hb hby at_128) rfl (teq (by decide : (0 : Int32) = (0 : Int32))).2 hr) ?_
            show OFin p e below s _ _ Q (T95.setTop (mkF m 131 #[.val (.int sz0), .val (.int fd), .val (.int nd), .val (.int fl), .val (.int v4), .val (.ref bq24), .val (.int (0 : Int32)), .val (.int (1 : Int32)), .val (.int ff)] []))
            refine OFin.back (fun _ hr => XS.iconst X95.here hx rfl (hb hby at_131) hr) ?_
            show OFin p e below s _ _ Q (T95.setTop (mkF m 132 #[.val (.int sz0), .val (.int fd), .val (.int nd), .val (.int fl), .val (.int v4), .val (.ref bq24), .val (.int (0 : Int32)), .val (.int (1 : Int32)), .val (.int ff)] [(.int (1 : Int32))]))
            refine OFin.back (fun _ hr => XS.goto X95.here hx rfl (pc0 := 132) (pc' := 136) rfl (hb hby at_132) (by decide) (by decide) hr) ?_
            show OFin p e below s _ _ Q (T95.setTop (mkF m 136 #[.val (.int sz0), .val (.int fd), .val (.int nd), .val (.int fl), .val (.int v4), .val (.ref bq24), .val (.int (0 : Int32)), .val (.int (1 : Int32)), .val (.int ff)] [(.int (1 : Int32))]))
            exact OFin.outN (t := .boolean) X95 hx Bd.returns (by simp) Bd.notSynchronized (hb hby at_136) (by decide) (by decide) e95 (by rw [hQ]; exact ⟨rfl, N95⟩)
    · -- not (fl &&& (4 : Int32)) = (0 : Int32)
      refine OFin.back (fun _ hr => XS.ifNo X45.here hx rfl (hb hby at_63) rfl ((if0 _ _).trans (feq hc63_46).1) hr) ?_
      show OFin p e below s _ _ Q (T45.setTop (mkF m 66 #[.val (.int sz0), .val (.int fd), .val (.int nd), .val (.int fl), .val (.int v4), .val (.ref bq24), .val (.int (0 : Int32)), .val (.int (1 : Int32)), .val (.int ff)] []))
      refine OFin.back (fun _ hr => XS.aload X45.here hx rfl (hb hby at_66) rfl rfl hr) ?_
      show OFin p e below s _ _ Q (T45.setTop (mkF m 68 #[.val (.int sz0), .val (.int fd), .val (.int nd), .val (.int fl), .val (.int v4), .val (.ref bq24), .val (.int (0 : Int32)), .val (.int (1 : Int32)), .val (.int ff)] [(.ref bq24)]))
      refine OFin.back (fun _ hr => XS.iload X45.here hx rfl (hb hby at_68) rfl hr) ?_
      show OFin p e below s _ _ Q (T45.setTop (mkF m 70 #[.val (.int sz0), .val (.int fd), .val (.int nd), .val (.int fl), .val (.int v4), .val (.ref bq24), .val (.int (0 : Int32)), .val (.int (1 : Int32)), .val (.int ff)] [(.int ff), (.ref bq24)]))
      refine OFin.back (fun _ hr => XS.iloadN X45.here hx rfl (hb hby at_70) rfl hr) ?_
      show OFin p e below s _ _ Q (T45.setTop (mkF m 71 #[.val (.int sz0), .val (.int fd), .val (.int nd), .val (.int fl), .val (.int v4), .val (.ref bq24), .val (.int (0 : Int32)), .val (.int (1 : Int32)), .val (.int ff)] [(.int nd), (.int ff), (.ref bq24)]))
      obtain ⟨cq96, kq96, q96a, q96b, q96c⟩ := isOf hZ e45 EX34
      obtain ⟨_, _, ⟨T96, L96, k96, n96⟩, -, X96, ⟨Lc96, hQ96, l96, y96, z96⟩, st96⟩ := X45.virtualBack hx (y := (⟨"com/example/mortise/mortise/validate/KeySequence", "select", "(II)Z"⟩ : MethodName)) (z := (⟨"com/example/mortise/mortise/validate/KeySequence", "select", "(II)Z"⟩ : MethodName)) hown (mvT hZ (hw _ (List.mem_of_getElem? (i := 33) rfl))) (mvT hZ (hw _ (List.mem_of_getElem? (i := 34) rfl))) (notFace_of_selects (args := #[]) (mvT hZ (hw _ (List.mem_of_getElem? (i := 36) rfl)))) (mvT hZ (hw _ (List.mem_of_getElem? (i := 36) rfl))) (mvT hZ (hw _ (List.mem_of_getElem? (i := 35) rfl))) (by decide) (backOf (W := 0) (rm4 l Z a0 hw [] bq24 ff nd v4 z k3 (T34.heap) n0 f37 Fz34 Vz34 hf0 hf1 gz f41) hZ (hw _ (List.mem_of_getElem? (i := 37) rfl)) (hw _ (List.mem_of_getElem? (i := 2) rfl)) (by decide) (by decide)) q96a q96c (g := (mkF m 71 #[.val (.int sz0), .val (.int fd), .val (.int nd), .val (.int fl), .val (.int v4), .val (.ref bq24), .val (.int (0 : Int32)), .val (.int (1 : Int32)), .val (.int ff)] [(.int nd), (.int ff), (.ref bq24)])) rfl (by rw [hml]; rfl) (Steps.refl _) (argsL := [(.int ff), (.int nd)]) (rest := []) (lenOf pd0_4 rfl) rfl (by show 2 * 0 + _ ≤ _; exact Nat.le_of_eq rfl) (hb hby at_71) (fun _ _ => ⟨rfl, e45, (by decide : 4 + 0 ≤ _), (by decide : 25 + 0 ≤ _)⟩)
      dsimp only [Pt.U, Pt.locs, Pt.cells, Pt.slots] at X96 l96 y96 z96 st96 hQ96
      subst l96 y96 z96
      obtain ⟨r96, rfl, N96q, K96⟩ := hQ96
      have N96 := Fr.app N45 N96q
      refine OFin.via st96 ?_
      have f97 := f35.keep K96 (allS gz all0)
      have f98 := EX34.keep K96
      have f99 := Fx34.keep K96 (ninS f41 nin0)
      have f100 := Vx34.keep K96 (ninS nxz nin0)
      have f101 := Fy34.keep K96 (ninS f41 nin0)
      have f102 := Vy34.keep K96 (ninS nyz nin0)
      have f103 := Fz34.keep K96 (ninS f41 nin0)
      have f104 := Fu34.keep K96 (ninS f41 nin0)
      have f105 := Nat.le_trans f37 K96.1
      have f106 := f38.trans K96 (allS (Or.inr f44) all0)
      show OFin p e below s _ _ Q (T96.setTop (mkF m 74 #[.val (.int sz0), .val (.int fd), .val (.int nd), .val (.int fl), .val (.int v4), .val (.ref bq24), .val (.int (0 : Int32)), .val (.int (1 : Int32)), .val (.int ff)] [(.int r96)]))
      refine OFin.back (fun _ hr => XS.pop X96.here hx rfl (hb hby at_74) rfl rfl hr) ?_
      show OFin p e below s _ _ Q (T96.setTop (mkF m 75 #[.val (.int sz0), .val (.int fd), .val (.int nd), .val (.int fl), .val (.int v4), .val (.ref bq24), .val (.int (0 : Int32)), .val (.int (1 : Int32)), .val (.int ff)] []))
      refine OFin.back (fun _ hr => XS.iloadN X96.here hx rfl (hb hby at_75) rfl hr) ?_
      show OFin p e below s _ _ Q (T96.setTop (mkF m 76 #[.val (.int sz0), .val (.int fd), .val (.int nd), .val (.int fl), .val (.int v4), .val (.ref bq24), .val (.int (0 : Int32)), .val (.int (1 : Int32)), .val (.int ff)] [(.int fl)]))
      refine OFin.back (fun _ hr => XS.iconst X96.here hx rfl (hb hby at_76) hr) ?_
      show OFin p e below s _ _ Q (T96.setTop (mkF m 77 #[.val (.int sz0), .val (.int fd), .val (.int nd), .val (.int fl), .val (.int v4), .val (.ref bq24), .val (.int (0 : Int32)), .val (.int (1 : Int32)), .val (.int ff)] [(.int (1 : Int32)), (.int fl)]))
      refine OFin.back (fun _ hr => XS.iand X96.here hx rfl (hb hby at_77) rfl hr) ?_
      show OFin p e below s _ _ Q (T96.setTop (mkF m 78 #[.val (.int sz0), .val (.int fd), .val (.int nd), .val (.int fl), .val (.int v4), .val (.ref bq24), .val (.int (0 : Int32)), .val (.int (1 : Int32)), .val (.int ff)] [(.int (fl &&& (1 : Int32)))]))
      by_cases hc78_107 : (fl &&& (1 : Int32)) = (0 : Int32)
      · -- (fl &&& (1 : Int32)) = (0 : Int32)
        refine OFin.back (fun _ hr => XS.ifYes X96.here hx rfl (pc0 := 78) (pc' := 104) rfl (hb hby at_78) rfl ((if0 _ _).trans (teq hc78_107).1) (by decide) (by decide) hr) ?_
        show OFin p e below s _ _ Q (T96.setTop (mkF m 104 #[.val (.int sz0), .val (.int fd), .val (.int nd), .val (.int fl), .val (.int v4), .val (.ref bq24), .val (.int (0 : Int32)), .val (.int (1 : Int32)), .val (.int ff)] []))
        refine OFin.back (fun _ hr => XS.iloadN X96.here hx rfl (hb hby at_104) rfl hr) ?_
        show OFin p e below s _ _ Q (T96.setTop (mkF m 105 #[.val (.int sz0), .val (.int fd), .val (.int nd), .val (.int fl), .val (.int v4), .val (.ref bq24), .val (.int (0 : Int32)), .val (.int (1 : Int32)), .val (.int ff)] [(.int fl)]))
        refine OFin.back (fun _ hr => XS.bipush X96.here hx rfl (hb hby at_105) hr) ?_
        show OFin p e below s _ _ Q (T96.setTop (mkF m 107 #[.val (.int sz0), .val (.int fd), .val (.int nd), .val (.int fl), .val (.int v4), .val (.ref bq24), .val (.int (0 : Int32)), .val (.int (1 : Int32)), .val (.int ff)] [(.int (8 : Int32)), (.int fl)]))
        refine OFin.back (fun _ hr => XS.iand X96.here hx rfl (hb hby at_107) rfl hr) ?_
        show OFin p e below s _ _ Q (T96.setTop (mkF m 108 #[.val (.int sz0), .val (.int fd), .val (.int nd), .val (.int fl), .val (.int v4), .val (.ref bq24), .val (.int (0 : Int32)), .val (.int (1 : Int32)), .val (.int ff)] [(.int (fl &&& (8 : Int32)))]))
        by_cases hc108_108 : (fl &&& (8 : Int32)) = (0 : Int32)
        · -- (fl &&& (8 : Int32)) = (0 : Int32)
          refine OFin.back (fun _ hr => XS.ifYes X96.here hx rfl (pc0 := 108) (pc' := 116) rfl (hb hby at_108) rfl ((if0 _ _).trans (teq hc108_108).1) (by decide) (by decide) hr) ?_
          show OFin p e below s _ _ Q (T96.setTop (mkF m 116 #[.val (.int sz0), .val (.int fd), .val (.int nd), .val (.int fl), .val (.int v4), .val (.ref bq24), .val (.int (0 : Int32)), .val (.int (1 : Int32)), .val (.int ff)] []))
          refine OFin.back (fun _ hr => XS.iload X96.here hx rfl (hb hby at_116) rfl hr) ?_
          show OFin p e below s _ _ Q (T96.setTop (mkF m 118 #[.val (.int sz0), .val (.int fd), .val (.int nd), .val (.int fl), .val (.int v4), .val (.ref bq24), .val (.int (0 : Int32)), .val (.int (1 : Int32)), .val (.int ff)] [(.int (1 : Int32))]))
          refine OFin.back (fun _ hr => XS.ifNo X96.here hx rfl (hb hby at_118) rfl ((if0 _ _).trans (feq (by decide : ¬ ((1 : Int32) = (0 : Int32)))).1) hr) ?_
          show OFin p e below s _ _ Q (T96.setTop (mkF m 121 #[.val (.int sz0), .val (.int fd), .val (.int nd), .val (.int fl), .val (.int v4), .val (.ref bq24), .val (.int (0 : Int32)), .val (.int (1 : Int32)), .val (.int ff)] []))
          refine OFin.back (fun _ hr => XS.aload X96.here hx rfl (hb hby at_121) rfl rfl hr) ?_
          show OFin p e below s _ _ Q (T96.setTop (mkF m 123 #[.val (.int sz0), .val (.int fd), .val (.int nd), .val (.int fl), .val (.int v4), .val (.ref bq24), .val (.int (0 : Int32)), .val (.int (1 : Int32)), .val (.int ff)] [(.ref bq24)]))
          obtain ⟨cq109, kq109, q109a, q109b, q109c⟩ := isOf hZ rfl f98
          obtain ⟨_, _, ⟨T109, L109, k109, n109⟩, -, X109, ⟨Lc109, hQ109, l109, y109, z109⟩, st109⟩ := X96.virtualBack hx (y := (⟨"com/example/mortise/mortise/validate/KeySequence", "missing", "()I"⟩ : MethodName)) (z := (⟨"com/example/mortise/mortise/validate/KeySequence", "missing", "()I"⟩ : MethodName)) hown (mvT hZ (hw _ (List.mem_of_getElem? (i := 20) rfl))) (mvT hZ (hw _ (List.mem_of_getElem? (i := 21) rfl))) (notFace_of_selects (args := #[]) (mvT hZ (hw _ (List.mem_of_getElem? (i := 23) rfl)))) (mvT hZ (hw _ (List.mem_of_getElem? (i := 23) rfl))) (mvT hZ (hw _ (List.mem_of_getElem? (i := 22) rfl))) (by decide) (backOf (W := 0) (rm2 l Z a0 hw [] bq24 v4 x k1 (T96.heap) n0 f105 f99 f100 hn) hZ (hw _ (List.mem_of_getElem? (i := 24) rfl)) (hw _ (List.mem_of_getElem? (i := 2) rfl)) (by decide) (by decide)) q109a q109c (g := (mkF m 123 #[.val (.int sz0), .val (.int fd), .val (.int nd), .val (.int fl), .val (.int v4), .val (.ref bq24), .val (.int (0 : Int32)), .val (.int (1 : Int32)), .val (.int ff)] [(.ref bq24)])) rfl (by rw [hml]; rfl) (Steps.refl _) (argsL := []) (rest := []) (lenOf pd0_1 rfl) rfl (by show 2 * 0 + _ ≤ _; exact Nat.le_of_eq rfl) (hb hby at_123) (fun _ _ => ⟨rfl, rfl, (by decide : 4 + 0 ≤ _), (by decide : 25 + 0 ≤ _)⟩)
          dsimp only [Pt.U, Pt.locs, Pt.cells, Pt.slots] at X109 l109 y109 z109 st109 hQ109
          subst l109 y109 z109
          obtain ⟨rfl, N109q, e109⟩ := hQ109
          have N109 := Fr.app N96 N109q
          refine OFin.via st109 ?_
          rw [show own_miss v4 = (0 : Int32) from if_neg hz]
          show OFin p e below s _ _ Q (T109.setTop (mkF m 126 #[.val (.int sz0), .val (.int fd), .val (.int nd), .val (.int fl), .val (.int v4), .val (.ref bq24), .val (.int (0 : Int32)), .val (.int (1 : Int32)), .val (.int ff)] [(.int (0 : Int32))]))
          refine OFin.back (fun _ hr => XS.iload X109.here hx rfl (hb hby at_126) rfl hr) ?_
          show OFin p e below s _ _ Q (T109.setTop (mkF m 128 #[.val (.int sz0), .val (.int fd), .val (.int nd), .val (.int fl), .val (.int v4), .val (.ref bq24), .val (.int (0 : Int32)), .val (.int (1 : Int32)), .val (.int ff)] [(.int (0 : Int32)), (.int (0 : Int32))]))
          refine OFin.back (fun _ hr => XS.icmpNo X109.here hx rfl (hb hby at_128) rfl (teq (by decide : (0 : Int32) = (0 : Int32))).2 hr) ?_
          show OFin p e below s _ _ Q (T109.setTop (mkF m 131 #[.val (.int sz0), .val (.int fd), .val (.int nd), .val (.int fl), .val (.int v4), .val (.ref bq24), .val (.int (0 : Int32)), .val (.int (1 : Int32)), .val (.int ff)] []))
          refine OFin.back (fun _ hr => XS.iconst X109.here hx rfl (hb hby at_131) hr) ?_
          show OFin p e below s _ _ Q (T109.setTop (mkF m 132 #[.val (.int sz0), .val (.int fd), .val (.int nd), .val (.int fl), .val (.int v4), .val (.ref bq24), .val (.int (0 : Int32)), .val (.int (1 : Int32)), .val (.int ff)] [(.int (1 : Int32))]))
          refine OFin.back (fun _ hr => XS.goto X109.here hx rfl (pc0 := 132) (pc' := 136) rfl (hb hby at_132) (by decide) (by decide) hr) ?_
          show OFin p e below s _ _ Q (T109.setTop (mkF m 136 #[.val (.int sz0), .val (.int fd), .val (.int nd), .val (.int fl), .val (.int v4), .val (.ref bq24), .val (.int (0 : Int32)), .val (.int (1 : Int32)), .val (.int ff)] [(.int (1 : Int32))]))
          exact OFin.outN (t := .boolean) X109 hx Bd.returns (by simp) Bd.notSynchronized (hb hby at_136) (by decide) (by decide) e109 (by rw [hQ]; exact ⟨rfl, N109⟩)
        · -- not (fl &&& (8 : Int32)) = (0 : Int32)
          refine OFin.back (fun _ hr => XS.ifNo X96.here hx rfl (hb hby at_108) rfl ((if0 _ _).trans (feq hc108_108).1) hr) ?_
          show OFin p e below s _ _ Q (T96.setTop (mkF m 111 #[.val (.int sz0), .val (.int fd), .val (.int nd), .val (.int fl), .val (.int v4), .val (.ref bq24), .val (.int (0 : Int32)), .val (.int (1 : Int32)), .val (.int ff)] []))
          refine OFin.back (fun _ hr => XS.aload X96.here hx rfl (hb hby at_111) rfl rfl hr) ?_
          show OFin p e below s _ _ Q (T96.setTop (mkF m 113 #[.val (.int sz0), .val (.int fd), .val (.int nd), .val (.int fl), .val (.int v4), .val (.ref bq24), .val (.int (0 : Int32)), .val (.int (1 : Int32)), .val (.int ff)] [(.ref bq24)]))
          obtain ⟨cq110, kq110, q110a, q110b, q110c⟩ := isOf hZ rfl f98
          obtain ⟨_, _, ⟨T110, L110, k110, n110⟩, -, X110, ⟨Lc110, hQ110, l110, y110, z110⟩, st110⟩ := X96.virtualBack hx (y := (⟨"com/example/mortise/mortise/validate/KeySequence", "forget", "()V"⟩ : MethodName)) (z := (⟨"com/example/mortise/mortise/validate/KeySequence", "forget", "()V"⟩ : MethodName)) hown (mvT hZ (hw _ (List.mem_of_getElem? (i := 26) rfl))) (mvT hZ (hw _ (List.mem_of_getElem? (i := 27) rfl))) (notFace_of_selects (args := #[]) (mvT hZ (hw _ (List.mem_of_getElem? (i := 29) rfl)))) (mvT hZ (hw _ (List.mem_of_getElem? (i := 29) rfl))) (mvT hZ (hw _ (List.mem_of_getElem? (i := 28) rfl))) (by decide) (backOf (W := 0) (rm3 l Z a0 hw [] bq24 x (0 : Int32) (T96.heap) n0 f105 f99 f104 f98 f25) hZ (hw _ (List.mem_of_getElem? (i := 30) rfl)) (hw _ (List.mem_of_getElem? (i := 2) rfl)) (by decide) (by decide)) q110a q110c (g := (mkF m 113 #[.val (.int sz0), .val (.int fd), .val (.int nd), .val (.int fl), .val (.int v4), .val (.ref bq24), .val (.int (0 : Int32)), .val (.int (1 : Int32)), .val (.int ff)] [(.ref bq24)])) rfl (by rw [hml]; rfl) (Steps.refl _) (argsL := []) (rest := []) (lenOf pd0_2 rfl) rfl (by show 2 * 0 + _ ≤ _; exact Nat.le_of_eq rfl) (hb hby at_113) (fun _ _ => ⟨rfl, rfl, (by decide : 4 + 0 ≤ _), (by decide : 25 + 0 ≤ _)⟩)
          dsimp only [Pt.U, Pt.locs, Pt.cells, Pt.slots] at X110 l110 y110 z110 st110 hQ110
          subst l110 y110 z110
          obtain ⟨rfl, N110q, K110, EX110, Fx110, Fu110⟩ := hQ110
          have N110 := Fr.app N96 N110q
          refine OFin.via st110 ?_
          have f111 := f97.keep K110 (allS f25 all0)
          have f112 := f98.keep K110
          have f113 := f100.keep K110 (ninS (Ne.symm f39) nin0)
          have f114 := f102.keep K110 (ninS (Ne.symm f40) nin0)
          have f115 := Nat.le_trans f105 K110.1
          have f116 := f106.trans K110 (allS (Or.inr f26) all0)
          show OFin p e below s _ _ Q (T110.setTop (mkF m 116 #[.val (.int sz0), .val (.int fd), .val (.int nd), .val (.int fl), .val (.int v4), .val (.ref bq24), .val (.int (0 : Int32)), .val (.int (1 : Int32)), .val (.int ff)] []))
          refine OFin.back (fun _ hr => XS.iload X110.here hx rfl (hb hby at_116) rfl hr) ?_
          show OFin p e below s _ _ Q (T110.setTop (mkF m 118 #[.val (.int sz0), .val (.int fd), .val (.int nd), .val (.int fl), .val (.int v4), .val (.ref bq24), .val (.int (0 : Int32)), .val (.int (1 : Int32)), .val (.int ff)] [(.int (1 : Int32))]))
          refine OFin.back (fun _ hr => XS.ifNo X110.here hx rfl (hb hby at_118) rfl ((if0 _ _).trans (feq (by decide : ¬ ((1 : Int32) = (0 : Int32)))).1) hr) ?_
          show OFin p e below s _ _ Q (T110.setTop (mkF m 121 #[.val (.int sz0), .val (.int fd), .val (.int nd), .val (.int fl), .val (.int v4), .val (.ref bq24), .val (.int (0 : Int32)), .val (.int (1 : Int32)), .val (.int ff)] []))
          refine OFin.back (fun _ hr => XS.aload X110.here hx rfl (hb hby at_121) rfl rfl hr) ?_
          show OFin p e below s _ _ Q (T110.setTop (mkF m 123 #[.val (.int sz0), .val (.int fd), .val (.int nd), .val (.int fl), .val (.int v4), .val (.ref bq24), .val (.int (0 : Int32)), .val (.int (1 : Int32)), .val (.int ff)] [(.ref bq24)]))
          obtain ⟨cq117, kq117, q117a, q117b, q117c⟩ := isOf hZ rfl EX110
          obtain ⟨_, _, ⟨T117, L117, k117, n117⟩, -, X117, ⟨Lc117, hQ117, l117, y117, z117⟩, st117⟩ := X110.virtualBack hx (y := (⟨"com/example/mortise/mortise/validate/KeySequence", "missing", "()I"⟩ : MethodName)) (z := (⟨"com/example/mortise/mortise/validate/KeySequence", "missing", "()I"⟩ : MethodName)) hown (mvT hZ (hw _ (List.mem_of_getElem? (i := 20) rfl))) (mvT hZ (hw _ (List.mem_of_getElem? (i := 21) rfl))) (notFace_of_selects (args := #[]) (mvT hZ (hw _ (List.mem_of_getElem? (i := 23) rfl)))) (mvT hZ (hw _ (List.mem_of_getElem? (i := 23) rfl))) (mvT hZ (hw _ (List.mem_of_getElem? (i := 22) rfl))) (by decide) (backOf (W := 0) (rm2 l Z a0 hw [] bq24 v4 x k1 (T110.heap) n0 f115 Fx110 f113 hn) hZ (hw _ (List.mem_of_getElem? (i := 24) rfl)) (hw _ (List.mem_of_getElem? (i := 2) rfl)) (by decide) (by decide)) q117a q117c (g := (mkF m 123 #[.val (.int sz0), .val (.int fd), .val (.int nd), .val (.int fl), .val (.int v4), .val (.ref bq24), .val (.int (0 : Int32)), .val (.int (1 : Int32)), .val (.int ff)] [(.ref bq24)])) rfl (by rw [hml]; rfl) (Steps.refl _) (argsL := []) (rest := []) (lenOf pd0_1 rfl) rfl (by show 2 * 0 + _ ≤ _; exact Nat.le_of_eq rfl) (hb hby at_123) (fun _ _ => ⟨rfl, rfl, (by decide : 4 + 0 ≤ _), (by decide : 25 + 0 ≤ _)⟩)
          dsimp only [Pt.U, Pt.locs, Pt.cells, Pt.slots] at X117 l117 y117 z117 st117 hQ117
          subst l117 y117 z117
          obtain ⟨rfl, N117q, e117⟩ := hQ117
          have N117 := Fr.app N110 N117q
          refine OFin.via st117 ?_
          rw [show own_miss v4 = (0 : Int32) from if_neg hz]
          show OFin p e below s _ _ Q (T117.setTop (mkF m 126 #[.val (.int sz0), .val (.int fd), .val (.int nd), .val (.int fl), .val (.int v4), .val (.ref bq24), .val (.int (0 : Int32)), .val (.int (1 : Int32)), .val (.int ff)] [(.int (0 : Int32))]))
          refine OFin.back (fun _ hr => XS.iload X117.here hx rfl (hb hby at_126) rfl hr) ?_
          show OFin p e below s _ _ Q (T117.setTop (mkF m 128 #[.val (.int sz0), .val (.int fd), .val (.int nd), .val (.int fl), .val (.int v4), .val (.ref bq24), .val (.int (0 : Int32)), .val (.int (1 : Int32)), .val (.int ff)] [(.int (0 : Int32)), (.int (0 : Int32))]))
          refine OFin.back (fun _ hr => XS.icmpNo X117.here hx rfl (hb hby at_128) rfl (teq (by decide : (0 : Int32) = (0 : Int32))).2 hr) ?_
          show OFin p e below s _ _ Q (T117.setTop (mkF m 131 #[.val (.int sz0), .val (.int fd), .val (.int nd), .val (.int fl), .val (.int v4), .val (.ref bq24), .val (.int (0 : Int32)), .val (.int (1 : Int32)), .val (.int ff)] []))
          refine OFin.back (fun _ hr => XS.iconst X117.here hx rfl (hb hby at_131) hr) ?_
          show OFin p e below s _ _ Q (T117.setTop (mkF m 132 #[.val (.int sz0), .val (.int fd), .val (.int nd), .val (.int fl), .val (.int v4), .val (.ref bq24), .val (.int (0 : Int32)), .val (.int (1 : Int32)), .val (.int ff)] [(.int (1 : Int32))]))
          refine OFin.back (fun _ hr => XS.goto X117.here hx rfl (pc0 := 132) (pc' := 136) rfl (hb hby at_132) (by decide) (by decide) hr) ?_
          show OFin p e below s _ _ Q (T117.setTop (mkF m 136 #[.val (.int sz0), .val (.int fd), .val (.int nd), .val (.int fl), .val (.int v4), .val (.ref bq24), .val (.int (0 : Int32)), .val (.int (1 : Int32)), .val (.int ff)] [(.int (1 : Int32))]))
          exact OFin.outN (t := .boolean) X117 hx Bd.returns (by simp) Bd.notSynchronized (hb hby at_136) (by decide) (by decide) e117 (by rw [hQ]; exact ⟨rfl, N117⟩)
      · -- not (fl &&& (1 : Int32)) = (0 : Int32)
        refine OFin.back (fun _ hr => XS.ifNo X96.here hx rfl (hb hby at_78) rfl ((if0 _ _).trans (feq hc78_107).1) hr) ?_
        show OFin p e below s _ _ Q (T96.setTop (mkF m 81 #[.val (.int sz0), .val (.int fd), .val (.int nd), .val (.int fl), .val (.int v4), .val (.ref bq24), .val (.int (0 : Int32)), .val (.int (1 : Int32)), .val (.int ff)] []))
        refine OFin.back (fun _ hr => XS.aload X96.here hx rfl (hb hby at_81) rfl rfl hr) ?_
        show OFin p e below s _ _ Q (T96.setTop (mkF m 83 #[.val (.int sz0), .val (.int fd), .val (.int nd), .val (.int fl), .val (.int v4), .val (.ref bq24), .val (.int (0 : Int32)), .val (.int (1 : Int32)), .val (.int ff)] [(.ref bq24)]))
        refine OFin.back (fun _ hr => XS.iload X96.here hx rfl (hb hby at_83) rfl hr) ?_
        show OFin p e below s _ _ Q (T96.setTop (mkF m 85 #[.val (.int sz0), .val (.int fd), .val (.int nd), .val (.int fl), .val (.int v4), .val (.ref bq24), .val (.int (0 : Int32)), .val (.int (1 : Int32)), .val (.int ff)] [(.int ff), (.ref bq24)]))
        refine OFin.back (fun _ hr => XS.aconstNull X96.here hx rfl (hb hby at_85) hr) ?_
        show OFin p e below s _ _ Q (T96.setTop (mkF m 86 #[.val (.int sz0), .val (.int fd), .val (.int nd), .val (.int fl), .val (.int v4), .val (.ref bq24), .val (.int (0 : Int32)), .val (.int (1 : Int32)), .val (.int ff)] [.null, (.int ff), (.ref bq24)]))
        refine OFin.back (fun _ hr => XS.iloadN X96.here hx rfl (hb hby at_86) rfl hr) ?_
        show OFin p e below s _ _ Q (T96.setTop (mkF m 87 #[.val (.int sz0), .val (.int fd), .val (.int nd), .val (.int fl), .val (.int v4), .val (.ref bq24), .val (.int (0 : Int32)), .val (.int (1 : Int32)), .val (.int ff)] [(.int fl), .null, (.int ff), (.ref bq24)]))
        refine OFin.back (fun _ hr => XS.iconst X96.here hx rfl (hb hby at_87) hr) ?_
        show OFin p e below s _ _ Q (T96.setTop (mkF m 88 #[.val (.int sz0), .val (.int fd), .val (.int nd), .val (.int fl), .val (.int v4), .val (.ref bq24), .val (.int (0 : Int32)), .val (.int (1 : Int32)), .val (.int ff)] [(.int (2 : Int32)), (.int fl), .null, (.int ff), (.ref bq24)]))
        refine OFin.back (fun _ hr => XS.iand X96.here hx rfl (hb hby at_88) rfl hr) ?_
        show OFin p e below s _ _ Q (T96.setTop (mkF m 89 #[.val (.int sz0), .val (.int fd), .val (.int nd), .val (.int fl), .val (.int v4), .val (.ref bq24), .val (.int (0 : Int32)), .val (.int (1 : Int32)), .val (.int ff)] [(.int (fl &&& (2 : Int32))), .null, (.int ff), (.ref bq24)]))
        by_cases hc89_118 : (fl &&& (2 : Int32)) = (0 : Int32)
        · -- (fl &&& (2 : Int32)) = (0 : Int32)
          refine OFin.back (fun _ hr => XS.ifYes X96.here hx rfl (pc0 := 89) (pc' := 98) rfl (hb hby at_89) rfl ((if0 _ _).trans (teq hc89_118).1) (by decide) (by decide) hr) ?_
          show OFin p e below s _ _ Q (T96.setTop (mkF m 98 #[.val (.int sz0), .val (.int fd), .val (.int nd), .val (.int fl), .val (.int v4), .val (.ref bq24), .val (.int (0 : Int32)), .val (.int (1 : Int32)), .val (.int ff)] [.null, (.int ff), (.ref bq24)]))
          obtain ⟨T119, X119, e119, st119⟩ := getS2 X96 hx hZ hown (host := "") (Or.inl (hw _ (List.mem_of_getElem? (i := 46) rfl))) Via.refl rfl (own_sta S_V1_0 f97) (g := (mkF m 98 #[.val (.int sz0), .val (.int fd), .val (.int nd), .val (.int fl), .val (.int v4), .val (.ref bq24), .val (.int (0 : Int32)), .val (.int (1 : Int32)), .val (.int ff)] [.null, (.int ff), (.ref bq24)])) rfl (hb hby at_98)
          refine OFin.back st119 ?_
          show OFin p e below s _ _ Q (T119.setTop (mkF m 101 #[.val (.int sz0), .val (.int fd), .val (.int nd), .val (.int fl), .val (.int v4), .val (.ref bq24), .val (.int (0 : Int32)), .val (.int (1 : Int32)), .val (.int ff)] [(.ref a_V1_0), .null, (.int ff), (.ref bq24)]))
          obtain ⟨cq120, kq120, q120a, q120b, q120c⟩ := isOf hZ e119 f98
          obtain ⟨_, _, ⟨T120, L120, k120, n120⟩, -, X120, ⟨Lc120, hQ120, l120, y120, z120⟩, st120⟩ := X119.virtualBack hx (y := (⟨"com/example/mortise/mortise/validate/KeySequence", "take", "(ILcom/example/mortise/mortise/schema/Checked;Lcom/example/mortise/mortise/XsdVersion;)V"⟩ : MethodName)) (z := (⟨"com/example/mortise/mortise/validate/KeySequence", "take", "(ILcom/example/mortise/mortise/schema/Checked;Lcom/example/mortise/mortise/XsdVersion;)V"⟩ : MethodName)) hown (mvT hZ (hw _ (List.mem_of_getElem? (i := 41) rfl))) (mvT hZ (hw _ (List.mem_of_getElem? (i := 42) rfl))) (notFace_of_selects (args := #[]) (mvT hZ (hw _ (List.mem_of_getElem? (i := 44) rfl)))) (mvT hZ (hw _ (List.mem_of_getElem? (i := 44) rfl))) (mvT hZ (hw _ (List.mem_of_getElem? (i := 43) rfl))) (by decide) (backOf (W := 0) (rm5 l Z a0 hw [] bq24 ff a_V1_0 v4 x y k2 (0 : Int32) (T96.heap) n0 f105 f99 f104 f98 f25 f101 f102 hf0 hf1 gy f40) hZ (hw _ (List.mem_of_getElem? (i := 45) rfl)) (hw _ (List.mem_of_getElem? (i := 2) rfl)) (by decide) (by decide)) q120a q120c (g := (mkF m 101 #[.val (.int sz0), .val (.int fd), .val (.int nd), .val (.int fl), .val (.int v4), .val (.ref bq24), .val (.int (0 : Int32)), .val (.int (1 : Int32)), .val (.int ff)] [(.ref a_V1_0), .null, (.int ff), (.ref bq24)])) rfl (by rw [hml]; rfl) (Steps.refl _) (argsL := [(.int ff), .null, (.ref a_V1_0)]) (rest := []) (lenOf pd0_3 rfl) rfl (by show 2 * 0 + _ ≤ _; exact Nat.le_of_eq rfl) (hb hby at_101) (fun _ _ => ⟨rfl, e119, (by decide : 4 + 0 ≤ _), (by decide : 25 + 0 ≤ _)⟩)
          dsimp only [Pt.U, Pt.locs, Pt.cells, Pt.slots] at X120 l120 y120 z120 st120 hQ120
          subst l120 y120 z120
          obtain ⟨rfl, N120q, K120, EX120, Fx120, Fu120⟩ := hQ120
          have N120 := Fr.app N96 N120q
          refine OFin.via st120 ?_
          have f121 := f97.keep K120 (allS f25 (allS gy all0))
          have f122 := f98.keep K120
          have f123 := f100.keep K120 (ninS (Ne.symm f39) (ninS nxy nin0))
          have f124 := Nat.le_trans f105 K120.1
          have f125 := f106.trans K120 (allS (Or.inr f26) (allS (Or.inr f43) all0))
          show OFin p e below s _ _ Q (T120.setTop (mkF m 104 #[.val (.int sz0), .val (.int fd), .val (.int nd), .val (.int fl), .val (.int v4), .val (.ref bq24), .val (.int (0 : Int32)), .val (.int (1 : Int32)), .val (.int ff)] []))
          refine OFin.back (fun _ hr => XS.iloadN X120.here hx rfl (hb hby at_104) rfl hr) ?_
          show OFin p e below s _ _ Q (T120.setTop (mkF m 105 #[.val (.int sz0), .val (.int fd), .val (.int nd), .val (.int fl), .val (.int v4), .val (.ref bq24), .val (.int (0 : Int32)), .val (.int (1 : Int32)), .val (.int ff)] [(.int fl)]))
          refine OFin.back (fun _ hr => XS.bipush X120.here hx rfl (hb hby at_105) hr) ?_
          show OFin p e below s _ _ Q (T120.setTop (mkF m 107 #[.val (.int sz0), .val (.int fd), .val (.int nd), .val (.int fl), .val (.int v4), .val (.ref bq24), .val (.int (0 : Int32)), .val (.int (1 : Int32)), .val (.int ff)] [(.int (8 : Int32)), (.int fl)]))
          refine OFin.back (fun _ hr => XS.iand X120.here hx rfl (hb hby at_107) rfl hr) ?_
          show OFin p e below s _ _ Q (T120.setTop (mkF m 108 #[.val (.int sz0), .val (.int fd), .val (.int nd), .val (.int fl), .val (.int v4), .val (.ref bq24), .val (.int (0 : Int32)), .val (.int (1 : Int32)), .val (.int ff)] [(.int (fl &&& (8 : Int32)))]))
          by_cases hc108_126 : (fl &&& (8 : Int32)) = (0 : Int32)
          · -- (fl &&& (8 : Int32)) = (0 : Int32)
            refine OFin.back (fun _ hr => XS.ifYes X120.here hx rfl (pc0 := 108) (pc' := 116) rfl (hb hby at_108) rfl ((if0 _ _).trans (teq hc108_126).1) (by decide) (by decide) hr) ?_
            show OFin p e below s _ _ Q (T120.setTop (mkF m 116 #[.val (.int sz0), .val (.int fd), .val (.int nd), .val (.int fl), .val (.int v4), .val (.ref bq24), .val (.int (0 : Int32)), .val (.int (1 : Int32)), .val (.int ff)] []))
            refine OFin.back (fun _ hr => XS.iload X120.here hx rfl (hb hby at_116) rfl hr) ?_
            show OFin p e below s _ _ Q (T120.setTop (mkF m 118 #[.val (.int sz0), .val (.int fd), .val (.int nd), .val (.int fl), .val (.int v4), .val (.ref bq24), .val (.int (0 : Int32)), .val (.int (1 : Int32)), .val (.int ff)] [(.int (1 : Int32))]))
            refine OFin.back (fun _ hr => XS.ifNo X120.here hx rfl (hb hby at_118) rfl ((if0 _ _).trans (feq (by decide : ¬ ((1 : Int32) = (0 : Int32)))).1) hr) ?_
            show OFin p e below s _ _ Q (T120.setTop (mkF m 121 #[.val (.int sz0), .val (.int fd), .val (.int nd), .val (.int fl), .val (.int v4), .val (.ref bq24), .val (.int (0 : Int32)), .val (.int (1 : Int32)), .val (.int ff)] []))
            refine OFin.back (fun _ hr => XS.aload X120.here hx rfl (hb hby at_121) rfl rfl hr) ?_
            show OFin p e below s _ _ Q (T120.setTop (mkF m 123 #[.val (.int sz0), .val (.int fd), .val (.int nd), .val (.int fl), .val (.int v4), .val (.ref bq24), .val (.int (0 : Int32)), .val (.int (1 : Int32)), .val (.int ff)] [(.ref bq24)]))
            obtain ⟨cq127, kq127, q127a, q127b, q127c⟩ := isOf hZ rfl EX120
            obtain ⟨_, _, ⟨T127, L127, k127, n127⟩, -, X127, ⟨Lc127, hQ127, l127, y127, z127⟩, st127⟩ := X120.virtualBack hx (y := (⟨"com/example/mortise/mortise/validate/KeySequence", "missing", "()I"⟩ : MethodName)) (z := (⟨"com/example/mortise/mortise/validate/KeySequence", "missing", "()I"⟩ : MethodName)) hown (mvT hZ (hw _ (List.mem_of_getElem? (i := 20) rfl))) (mvT hZ (hw _ (List.mem_of_getElem? (i := 21) rfl))) (notFace_of_selects (args := #[]) (mvT hZ (hw _ (List.mem_of_getElem? (i := 23) rfl)))) (mvT hZ (hw _ (List.mem_of_getElem? (i := 23) rfl))) (mvT hZ (hw _ (List.mem_of_getElem? (i := 22) rfl))) (by decide) (backOf (W := 0) (rm2 l Z a0 hw [] bq24 v4 x k1 (T120.heap) n0 f124 Fx120 f123 hn) hZ (hw _ (List.mem_of_getElem? (i := 24) rfl)) (hw _ (List.mem_of_getElem? (i := 2) rfl)) (by decide) (by decide)) q127a q127c (g := (mkF m 123 #[.val (.int sz0), .val (.int fd), .val (.int nd), .val (.int fl), .val (.int v4), .val (.ref bq24), .val (.int (0 : Int32)), .val (.int (1 : Int32)), .val (.int ff)] [(.ref bq24)])) rfl (by rw [hml]; rfl) (Steps.refl _) (argsL := []) (rest := []) (lenOf pd0_1 rfl) rfl (by show 2 * 0 + _ ≤ _; exact Nat.le_of_eq rfl) (hb hby at_123) (fun _ _ => ⟨rfl, rfl, (by decide : 4 + 0 ≤ _), (by decide : 25 + 0 ≤ _)⟩)
            dsimp only [Pt.U, Pt.locs, Pt.cells, Pt.slots] at X127 l127 y127 z127 st127 hQ127
            subst l127 y127 z127
            obtain ⟨rfl, N127q, e127⟩ := hQ127
            have N127 := Fr.app N120 N127q
            refine OFin.via st127 ?_
            rw [show own_miss v4 = (0 : Int32) from if_neg hz]
            show OFin p e below s _ _ Q (T127.setTop (mkF m 126 #[.val (.int sz0), .val (.int fd), .val (.int nd), .val (.int fl), .val (.int v4), .val (.ref bq24), .val (.int (0 : Int32)), .val (.int (1 : Int32)), .val (.int ff)] [(.int (0 : Int32))]))
            refine OFin.back (fun _ hr => XS.iload X127.here hx rfl (hb hby at_126) rfl hr) ?_
            show OFin p e below s _ _ Q (T127.setTop (mkF m 128 #[.val (.int sz0), .val (.int fd), .val (.int nd), .val (.int fl), .val (.int v4), .val (.ref bq24), .val (.int (0 : Int32)), .val (.int (1 : Int32)), .val (.int ff)] [(.int (0 : Int32)), (.int (0 : Int32))]))
            refine OFin.back (fun _ hr => XS.icmpNo X127.here hx rfl (hb hby at_128) rfl (teq (by decide : (0 : Int32) = (0 : Int32))).2 hr) ?_
            show OFin p e below s _ _ Q (T127.setTop (mkF m 131 #[.val (.int sz0), .val (.int fd), .val (.int nd), .val (.int fl), .val (.int v4), .val (.ref bq24), .val (.int (0 : Int32)), .val (.int (1 : Int32)), .val (.int ff)] []))
            refine OFin.back (fun _ hr => XS.iconst X127.here hx rfl (hb hby at_131) hr) ?_
            show OFin p e below s _ _ Q (T127.setTop (mkF m 132 #[.val (.int sz0), .val (.int fd), .val (.int nd), .val (.int fl), .val (.int v4), .val (.ref bq24), .val (.int (0 : Int32)), .val (.int (1 : Int32)), .val (.int ff)] [(.int (1 : Int32))]))
            refine OFin.back (fun _ hr => XS.goto X127.here hx rfl (pc0 := 132) (pc' := 136) rfl (hb hby at_132) (by decide) (by decide) hr) ?_
            show OFin p e below s _ _ Q (T127.setTop (mkF m 136 #[.val (.int sz0), .val (.int fd), .val (.int nd), .val (.int fl), .val (.int v4), .val (.ref bq24), .val (.int (0 : Int32)), .val (.int (1 : Int32)), .val (.int ff)] [(.int (1 : Int32))]))
            exact OFin.outN (t := .boolean) X127 hx Bd.returns (by simp) Bd.notSynchronized (hb hby at_136) (by decide) (by decide) e127 (by rw [hQ]; exact ⟨rfl, N127⟩)
          · -- not (fl &&& (8 : Int32)) = (0 : Int32)
            refine OFin.back (fun _ hr => XS.ifNo X120.here hx rfl (hb hby at_108) rfl ((if0 _ _).trans (feq hc108_126).1) hr) ?_
            show OFin p e below s _ _ Q (T120.setTop (mkF m 111 #[.val (.int sz0), .val (.int fd), .val (.int nd), .val (.int fl), .val (.int v4), .val (.ref bq24), .val (.int (0 : Int32)), .val (.int (1 : Int32)), .val (.int ff)] []))
            refine OFin.back (fun _ hr => XS.aload X120.here hx rfl (hb hby at_111) rfl rfl hr) ?_
            show OFin p e below s _ _ Q (T120.setTop (mkF m 113 #[.val (.int sz0), .val (.int fd), .val (.int nd), .val (.int fl), .val (.int v4), .val (.ref bq24), .val (.int (0 : Int32)), .val (.int (1 : Int32)), .val (.int ff)] [(.ref bq24)]))
            obtain ⟨cq128, kq128, q128a, q128b, q128c⟩ := isOf hZ rfl EX120
            obtain ⟨_, _, ⟨T128, L128, k128, n128⟩, -, X128, ⟨Lc128, hQ128, l128, y128, z128⟩, st128⟩ := X120.virtualBack hx (y := (⟨"com/example/mortise/mortise/validate/KeySequence", "forget", "()V"⟩ : MethodName)) (z := (⟨"com/example/mortise/mortise/validate/KeySequence", "forget", "()V"⟩ : MethodName)) hown (mvT hZ (hw _ (List.mem_of_getElem? (i := 26) rfl))) (mvT hZ (hw _ (List.mem_of_getElem? (i := 27) rfl))) (notFace_of_selects (args := #[]) (mvT hZ (hw _ (List.mem_of_getElem? (i := 29) rfl)))) (mvT hZ (hw _ (List.mem_of_getElem? (i := 29) rfl))) (mvT hZ (hw _ (List.mem_of_getElem? (i := 28) rfl))) (by decide) (backOf (W := 0) (rm3 l Z a0 hw [] bq24 x (1 : Int32) (T120.heap) n0 f124 Fx120 Fu120 EX120 f25) hZ (hw _ (List.mem_of_getElem? (i := 30) rfl)) (hw _ (List.mem_of_getElem? (i := 2) rfl)) (by decide) (by decide)) q128a q128c (g := (mkF m 113 #[.val (.int sz0), .val (.int fd), .val (.int nd), .val (.int fl), .val (.int v4), .val (.ref bq24), .val (.int (0 : Int32)), .val (.int (1 : Int32)), .val (.int ff)] [(.ref bq24)])) rfl (by rw [hml]; rfl) (Steps.refl _) (argsL := []) (rest := []) (lenOf pd0_2 rfl) rfl (by show 2 * 0 + _ ≤ _; exact Nat.le_of_eq rfl) (hb hby at_113) (fun _ _ => ⟨rfl, rfl, (by decide : 4 + 0 ≤ _), (by decide : 25 + 0 ≤ _)⟩)
            dsimp only [Pt.U, Pt.locs, Pt.cells, Pt.slots] at X128 l128 y128 z128 st128 hQ128
            subst l128 y128 z128
            obtain ⟨rfl, N128q, K128, EX128, Fx128, Fu128⟩ := hQ128
            have N128 := Fr.app N120 N128q
            refine OFin.via st128 ?_
            have f129 := f121.keep K128 (allS f25 all0)
            have f130 := EX120.keep K128
            have f131 := f123.keep K128 (ninS (Ne.symm f39) nin0)
            have f132 := Nat.le_trans f124 K128.1
            have f133 := f125.trans K128 (allS (Or.inr f26) all0)
            show OFin p e below s _ _ Q (T128.setTop (mkF m 116 #[.val (.int sz0), .val (.int fd), .val (.int nd), .val (.int fl), .val (.int v4), .val (.ref bq24), .val (.int (0 : Int32)), .val (.int (1 : Int32)), .val (.int ff)] []))
            refine OFin.back (fun _ hr => XS.iload X128.here hx rfl (hb hby at_116) rfl hr) ?_
            show OFin p e below s _ _ Q (T128.setTop (mkF m 118 #[.val (.int sz0), .val (.int fd), .val (.int nd), .val (.int fl), .val (.int v4), .val (.ref bq24), .val (.int (0 : Int32)), .val (.int (1 : Int32)), .val (.int ff)] [(.int (1 : Int32))]))
            refine OFin.back (fun _ hr => XS.ifNo X128.here hx rfl (hb hby at_118) rfl ((if0 _ _).trans (feq (by decide : ¬ ((1 : Int32) = (0 : Int32)))).1) hr) ?_
            show OFin p e below s _ _ Q (T128.setTop (mkF m 121 #[.val (.int sz0), .val (.int fd), .val (.int nd), .val (.int fl), .val (.int v4), .val (.ref bq24), .val (.int (0 : Int32)), .val (.int (1 : Int32)), .val (.int ff)] []))
            refine OFin.back (fun _ hr => XS.aload X128.here hx rfl (hb hby at_121) rfl rfl hr) ?_
            show OFin p e below s _ _ Q (T128.setTop (mkF m 123 #[.val (.int sz0), .val (.int fd), .val (.int nd), .val (.int fl), .val (.int v4), .val (.ref bq24), .val (.int (0 : Int32)), .val (.int (1 : Int32)), .val (.int ff)] [(.ref bq24)]))
            obtain ⟨cq134, kq134, q134a, q134b, q134c⟩ := isOf hZ rfl EX128
            obtain ⟨_, _, ⟨T134, L134, k134, n134⟩, -, X134, ⟨Lc134, hQ134, l134, y134, z134⟩, st134⟩ := X128.virtualBack hx (y := (⟨"com/example/mortise/mortise/validate/KeySequence", "missing", "()I"⟩ : MethodName)) (z := (⟨"com/example/mortise/mortise/validate/KeySequence", "missing", "()I"⟩ : MethodName)) hown (mvT hZ (hw _ (List.mem_of_getElem? (i := 20) rfl))) (mvT hZ (hw _ (List.mem_of_getElem? (i := 21) rfl))) (notFace_of_selects (args := #[]) (mvT hZ (hw _ (List.mem_of_getElem? (i := 23) rfl)))) (mvT hZ (hw _ (List.mem_of_getElem? (i := 23) rfl))) (mvT hZ (hw _ (List.mem_of_getElem? (i := 22) rfl))) (by decide) (backOf (W := 0) (rm2 l Z a0 hw [] bq24 v4 x k1 (T128.heap) n0 f132 Fx128 f131 hn) hZ (hw _ (List.mem_of_getElem? (i := 24) rfl)) (hw _ (List.mem_of_getElem? (i := 2) rfl)) (by decide) (by decide)) q134a q134c (g := (mkF m 123 #[.val (.int sz0), .val (.int fd), .val (.int nd), .val (.int fl), .val (.int v4), .val (.ref bq24), .val (.int (0 : Int32)), .val (.int (1 : Int32)), .val (.int ff)] [(.ref bq24)])) rfl (by rw [hml]; rfl) (Steps.refl _) (argsL := []) (rest := []) (lenOf pd0_1 rfl) rfl (by show 2 * 0 + _ ≤ _; exact Nat.le_of_eq rfl) (hb hby at_123) (fun _ _ => ⟨rfl, rfl, (by decide : 4 + 0 ≤ _), (by decide : 25 + 0 ≤ _)⟩)
            dsimp only [Pt.U, Pt.locs, Pt.cells, Pt.slots] at X134 l134 y134 z134 st134 hQ134
            subst l134 y134 z134
            obtain ⟨rfl, N134q, e134⟩ := hQ134
            have N134 := Fr.app N128 N134q
            refine OFin.via st134 ?_
            rw [show own_miss v4 = (0 : Int32) from if_neg hz]
            show OFin p e below s _ _ Q (T134.setTop (mkF m 126 #[.val (.int sz0), .val (.int fd), .val (.int nd), .val (.int fl), .val (.int v4), .val (.ref bq24), .val (.int (0 : Int32)), .val (.int (1 : Int32)), .val (.int ff)] [(.int (0 : Int32))]))
            refine OFin.back (fun _ hr => XS.iload X134.here hx rfl (hb hby at_126) rfl hr) ?_
            show OFin p e below s _ _ Q (T134.setTop (mkF m 128 #[.val (.int sz0), .val (.int fd), .val (.int nd), .val (.int fl), .val (.int v4), .val (.ref bq24), .val (.int (0 : Int32)), .val (.int (1 : Int32)), .val (.int ff)] [(.int (0 : Int32)), (.int (0 : Int32))]))
            refine OFin.back (fun _ hr => XS.icmpNo X134.here hx rfl (hb hby at_128) rfl (teq (by decide : (0 : Int32) = (0 : Int32))).2 hr) ?_
            show OFin p e below s _ _ Q (T134.setTop (mkF m 131 #[.val (.int sz0), .val (.int fd), .val (.int nd), .val (.int fl), .val (.int v4), .val (.ref bq24), .val (.int (0 : Int32)), .val (.int (1 : Int32)), .val (.int ff)] []))
            refine OFin.back (fun _ hr => XS.iconst X134.here hx rfl (hb hby at_131) hr) ?_
            show OFin p e below s _ _ Q (T134.setTop (mkF m 132 #[.val (.int sz0), .val (.int fd), .val (.int nd), .val (.int fl), .val (.int v4), .val (.ref bq24), .val (.int (0 : Int32)), .val (.int (1 : Int32)), .val (.int ff)] [(.int (1 : Int32))]))
            refine OFin.back (fun _ hr => XS.goto X134.here hx rfl (pc0 := 132) (pc' := 136) rfl (hb hby at_132) (by decide) (by decide) hr) ?_
            show OFin p e below s _ _ Q (T134.setTop (mkF m 136 #[.val (.int sz0), .val (.int fd), .val (.int nd), .val (.int fl), .val (.int v4), .val (.ref bq24), .val (.int (0 : Int32)), .val (.int (1 : Int32)), .val (.int ff)] [(.int (1 : Int32))]))
            exact OFin.outN (t := .boolean) X134 hx Bd.returns (by simp) Bd.notSynchronized (hb hby at_136) (by decide) (by decide) e134 (by rw [hQ]; exact ⟨rfl, N134⟩)
        · -- not (fl &&& (2 : Int32)) = (0 : Int32)
          refine OFin.back (fun _ hr => XS.ifNo X96.here hx rfl (hb hby at_89) rfl ((if0 _ _).trans (feq hc89_118).1) hr) ?_
          show OFin p e below s _ _ Q (T96.setTop (mkF m 92 #[.val (.int sz0), .val (.int fd), .val (.int nd), .val (.int fl), .val (.int v4), .val (.ref bq24), .val (.int (0 : Int32)), .val (.int (1 : Int32)), .val (.int ff)] [.null, (.int ff), (.ref bq24)]))
          obtain ⟨T135, X135, e135, st135⟩ := getS2 X96 hx hZ hown (host := "") (Or.inl (hw _ (List.mem_of_getElem? (i := 38) rfl))) Via.refl rfl (own_sta S_V1_1 f97) (g := (mkF m 92 #[.val (.int sz0), .val (.int fd), .val (.int nd), .val (.int fl), .val (.int v4), .val (.ref bq24), .val (.int (0 : Int32)), .val (.int (1 : Int32)), .val (.int ff)] [.null, (.int ff), (.ref bq24)])) rfl (hb hby at_92)
          refine OFin.back st135 ?_
          show OFin p e below s _ _ Q (T135.setTop (mkF m 95 #[.val (.int sz0), .val (.int fd), .val (.int nd), .val (.int fl), .val (.int v4), .val (.ref bq24), .val (.int (0 : Int32)), .val (.int (1 : Int32)), .val (.int ff)] [(.ref a_V1_1), .null, (.int ff), (.ref bq24)]))
          refine OFin.back (fun _ hr => XS.goto X135.here hx rfl (pc0 := 95) (pc' := 101) rfl (hb hby at_95) (by decide) (by decide) hr) ?_
          show OFin p e below s _ _ Q (T135.setTop (mkF m 101 #[.val (.int sz0), .val (.int fd), .val (.int nd), .val (.int fl), .val (.int v4), .val (.ref bq24), .val (.int (0 : Int32)), .val (.int (1 : Int32)), .val (.int ff)] [(.ref a_V1_1), .null, (.int ff), (.ref bq24)]))
          obtain ⟨cq136, kq136, q136a, q136b, q136c⟩ := isOf hZ e135 f98
          obtain ⟨_, _, ⟨T136, L136, k136, n136⟩, -, X136, ⟨Lc136, hQ136, l136, y136, z136⟩, st136⟩ := X135.virtualBack hx (y := (⟨"com/example/mortise/mortise/validate/KeySequence", "take", "(ILcom/example/mortise/mortise/schema/Checked;Lcom/example/mortise/mortise/XsdVersion;)V"⟩ : MethodName)) (z := (⟨"com/example/mortise/mortise/validate/KeySequence", "take", "(ILcom/example/mortise/mortise/schema/Checked;Lcom/example/mortise/mortise/XsdVersion;)V"⟩ : MethodName)) hown (mvT hZ (hw _ (List.mem_of_getElem? (i := 41) rfl))) (mvT hZ (hw _ (List.mem_of_getElem? (i := 42) rfl))) (notFace_of_selects (args := #[]) (mvT hZ (hw _ (List.mem_of_getElem? (i := 44) rfl)))) (mvT hZ (hw _ (List.mem_of_getElem? (i := 44) rfl))) (mvT hZ (hw _ (List.mem_of_getElem? (i := 43) rfl))) (by decide) (backOf (W := 0) (rm5 l Z a0 hw [] bq24 ff a_V1_1 v4 x y k2 (0 : Int32) (T96.heap) n0 f105 f99 f104 f98 f25 f101 f102 hf0 hf1 gy f40) hZ (hw _ (List.mem_of_getElem? (i := 45) rfl)) (hw _ (List.mem_of_getElem? (i := 2) rfl)) (by decide) (by decide)) q136a q136c (g := (mkF m 101 #[.val (.int sz0), .val (.int fd), .val (.int nd), .val (.int fl), .val (.int v4), .val (.ref bq24), .val (.int (0 : Int32)), .val (.int (1 : Int32)), .val (.int ff)] [(.ref a_V1_1), .null, (.int ff), (.ref bq24)])) rfl (by rw [hml]; rfl) (Steps.refl _) (argsL := [(.int ff), .null, (.ref a_V1_1)]) (rest := []) (lenOf pd0_3 rfl) rfl (by show 2 * 0 + _ ≤ _; exact Nat.le_of_eq rfl) (hb hby at_101) (fun _ _ => ⟨rfl, e135, (by decide : 4 + 0 ≤ _), (by decide : 25 + 0 ≤ _)⟩)
          dsimp only [Pt.U, Pt.locs, Pt.cells, Pt.slots] at X136 l136 y136 z136 st136 hQ136
          subst l136 y136 z136
          obtain ⟨rfl, N136q, K136, EX136, Fx136, Fu136⟩ := hQ136
          have N136 := Fr.app N96 N136q
          refine OFin.via st136 ?_
          have f137 := f97.keep K136 (allS f25 (allS gy all0))
          have f138 := f98.keep K136
          have f139 := f100.keep K136 (ninS (Ne.symm f39) (ninS nxy nin0))
          have f140 := Nat.le_trans f105 K136.1
          have f141 := f106.trans K136 (allS (Or.inr f26) (allS (Or.inr f43) all0))
          show OFin p e below s _ _ Q (T136.setTop (mkF m 104 #[.val (.int sz0), .val (.int fd), .val (.int nd), .val (.int fl), .val (.int v4), .val (.ref bq24), .val (.int (0 : Int32)), .val (.int (1 : Int32)), .val (.int ff)] []))
          refine OFin.back (fun _ hr => XS.iloadN X136.here hx rfl (hb hby at_104) rfl hr) ?_
          show OFin p e below s _ _ Q (T136.setTop (mkF m 105 #[.val (.int sz0), .val (.int fd), .val (.int nd), .val (.int fl), .val (.int v4), .val (.ref bq24), .val (.int (0 : Int32)), .val (.int (1 : Int32)), .val (.int ff)] [(.int fl)]))
          refine OFin.back (fun _ hr => XS.bipush X136.here hx rfl (hb hby at_105) hr) ?_
          show OFin p e below s _ _ Q (T136.setTop (mkF m 107 #[.val (.int sz0), .val (.int fd), .val (.int nd), .val (.int fl), .val (.int v4), .val (.ref bq24), .val (.int (0 : Int32)), .val (.int (1 : Int32)), .val (.int ff)] [(.int (8 : Int32)), (.int fl)]))
          refine OFin.back (fun _ hr => XS.iand X136.here hx rfl (hb hby at_107) rfl hr) ?_
          show OFin p e below s _ _ Q (T136.setTop (mkF m 108 #[.val (.int sz0), .val (.int fd), .val (.int nd), .val (.int fl), .val (.int v4), .val (.ref bq24), .val (.int (0 : Int32)), .val (.int (1 : Int32)), .val (.int ff)] [(.int (fl &&& (8 : Int32)))]))
          by_cases hc108_142 : (fl &&& (8 : Int32)) = (0 : Int32)
          · -- (fl &&& (8 : Int32)) = (0 : Int32)
            refine OFin.back (fun _ hr => XS.ifYes X136.here hx rfl (pc0 := 108) (pc' := 116) rfl (hb hby at_108) rfl ((if0 _ _).trans (teq hc108_142).1) (by decide) (by decide) hr) ?_
            show OFin p e below s _ _ Q (T136.setTop (mkF m 116 #[.val (.int sz0), .val (.int fd), .val (.int nd), .val (.int fl), .val (.int v4), .val (.ref bq24), .val (.int (0 : Int32)), .val (.int (1 : Int32)), .val (.int ff)] []))
            refine OFin.back (fun _ hr => XS.iload X136.here hx rfl (hb hby at_116) rfl hr) ?_
            show OFin p e below s _ _ Q (T136.setTop (mkF m 118 #[.val (.int sz0), .val (.int fd), .val (.int nd), .val (.int fl), .val (.int v4), .val (.ref bq24), .val (.int (0 : Int32)), .val (.int (1 : Int32)), .val (.int ff)] [(.int (1 : Int32))]))
            refine OFin.back (fun _ hr => XS.ifNo X136.here hx rfl (hb hby at_118) rfl ((if0 _ _).trans (feq (by decide : ¬ ((1 : Int32) = (0 : Int32)))).1) hr) ?_
            show OFin p e below s _ _ Q (T136.setTop (mkF m 121 #[.val (.int sz0), .val (.int fd), .val (.int nd), .val (.int fl), .val (.int v4), .val (.ref bq24), .val (.int (0 : Int32)), .val (.int (1 : Int32)), .val (.int ff)] []))
            refine OFin.back (fun _ hr => XS.aload X136.here hx rfl (hb hby at_121) rfl rfl hr) ?_
            show OFin p e below s _ _ Q (T136.setTop (mkF m 123 #[.val (.int sz0), .val (.int fd), .val (.int nd), .val (.int fl), .val (.int v4), .val (.ref bq24), .val (.int (0 : Int32)), .val (.int (1 : Int32)), .val (.int ff)] [(.ref bq24)]))
            obtain ⟨cq143, kq143, q143a, q143b, q143c⟩ := isOf hZ rfl EX136
            obtain ⟨_, _, ⟨T143, L143, k143, n143⟩, -, X143, ⟨Lc143, hQ143, l143, y143, z143⟩, st143⟩ := X136.virtualBack hx (y := (⟨"com/example/mortise/mortise/validate/KeySequence", "missing", "()I"⟩ : MethodName)) (z := (⟨"com/example/mortise/mortise/validate/KeySequence", "missing", "()I"⟩ : MethodName)) hown (mvT hZ (hw _ (List.mem_of_getElem? (i := 20) rfl))) (mvT hZ (hw _ (List.mem_of_getElem? (i := 21) rfl))) (notFace_of_selects (args := #[]) (mvT hZ (hw _ (List.mem_of_getElem? (i := 23) rfl)))) (mvT hZ (hw _ (List.mem_of_getElem? (i := 23) rfl))) (mvT hZ (hw _ (List.mem_of_getElem? (i := 22) rfl))) (by decide) (backOf (W := 0) (rm2 l Z a0 hw [] bq24 v4 x k1 (T136.heap) n0 f140 Fx136 f139 hn) hZ (hw _ (List.mem_of_getElem? (i := 24) rfl)) (hw _ (List.mem_of_getElem? (i := 2) rfl)) (by decide) (by decide)) q143a q143c (g := (mkF m 123 #[.val (.int sz0), .val (.int fd), .val (.int nd), .val (.int fl), .val (.int v4), .val (.ref bq24), .val (.int (0 : Int32)), .val (.int (1 : Int32)), .val (.int ff)] [(.ref bq24)])) rfl (by rw [hml]; rfl) (Steps.refl _) (argsL := []) (rest := []) (lenOf pd0_1 rfl) rfl (by show 2 * 0 + _ ≤ _; exact Nat.le_of_eq rfl) (hb hby at_123) (fun _ _ => ⟨rfl, rfl, (by decide : 4 + 0 ≤ _), (by decide : 25 + 0 ≤ _)⟩)
            dsimp only [Pt.U, Pt.locs, Pt.cells, Pt.slots] at X143 l143 y143 z143 st143 hQ143
            subst l143 y143 z143
            obtain ⟨rfl, N143q, e143⟩ := hQ143
            have N143 := Fr.app N136 N143q
            refine OFin.via st143 ?_
            rw [show own_miss v4 = (0 : Int32) from if_neg hz]
            show OFin p e below s _ _ Q (T143.setTop (mkF m 126 #[.val (.int sz0), .val (.int fd), .val (.int nd), .val (.int fl), .val (.int v4), .val (.ref bq24), .val (.int (0 : Int32)), .val (.int (1 : Int32)), .val (.int ff)] [(.int (0 : Int32))]))
            refine OFin.back (fun _ hr => XS.iload X143.here hx rfl (hb hby at_126) rfl hr) ?_
            show OFin p e below s _ _ Q (T143.setTop (mkF m 128 #[.val (.int sz0), .val (.int fd), .val (.int nd), .val (.int fl), .val (.int v4), .val (.ref bq24), .val (.int (0 : Int32)), .val (.int (1 : Int32)), .val (.int ff)] [(.int (0 : Int32)), (.int (0 : Int32))]))
            refine OFin.back (fun _ hr => XS.icmpNo X143.here hx rfl (hb hby at_128) rfl (teq (by decide : (0 : Int32) = (0 : Int32))).2 hr) ?_
            show OFin p e below s _ _ Q (T143.setTop (mkF m 131 #[.val (.int sz0), .val (.int fd), .val (.int nd), .val (.int fl), .val (.int v4), .val (.ref bq24), .val (.int (0 : Int32)), .val (.int (1 : Int32)), .val (.int ff)] []))
            refine OFin.back (fun _ hr => XS.iconst X143.here hx rfl (hb hby at_131) hr) ?_
            show OFin p e below s _ _ Q (T143.setTop (mkF m 132 #[.val (.int sz0), .val (.int fd), .val (.int nd), .val (.int fl), .val (.int v4), .val (.ref bq24), .val (.int (0 : Int32)), .val (.int (1 : Int32)), .val (.int ff)] [(.int (1 : Int32))]))
            refine OFin.back (fun _ hr => XS.goto X143.here hx rfl (pc0 := 132) (pc' := 136) rfl (hb hby at_132) (by decide) (by decide) hr) ?_
            show OFin p e below s _ _ Q (T143.setTop (mkF m 136 #[.val (.int sz0), .val (.int fd), .val (.int nd), .val (.int fl), .val (.int v4), .val (.ref bq24), .val (.int (0 : Int32)), .val (.int (1 : Int32)), .val (.int ff)] [(.int (1 : Int32))]))
            exact OFin.outN (t := .boolean) X143 hx Bd.returns (by simp) Bd.notSynchronized (hb hby at_136) (by decide) (by decide) e143 (by rw [hQ]; exact ⟨rfl, N143⟩)
          · -- not (fl &&& (8 : Int32)) = (0 : Int32)
            refine OFin.back (fun _ hr => XS.ifNo X136.here hx rfl (hb hby at_108) rfl ((if0 _ _).trans (feq hc108_142).1) hr) ?_
            show OFin p e below s _ _ Q (T136.setTop (mkF m 111 #[.val (.int sz0), .val (.int fd), .val (.int nd), .val (.int fl), .val (.int v4), .val (.ref bq24), .val (.int (0 : Int32)), .val (.int (1 : Int32)), .val (.int ff)] []))
            refine OFin.back (fun _ hr => XS.aload X136.here hx rfl (hb hby at_111) rfl rfl hr) ?_
            show OFin p e below s _ _ Q (T136.setTop (mkF m 113 #[.val (.int sz0), .val (.int fd), .val (.int nd), .val (.int fl), .val (.int v4), .val (.ref bq24), .val (.int (0 : Int32)), .val (.int (1 : Int32)), .val (.int ff)] [(.ref bq24)]))
            obtain ⟨cq144, kq144, q144a, q144b, q144c⟩ := isOf hZ rfl EX136
            obtain ⟨_, _, ⟨T144, L144, k144, n144⟩, -, X144, ⟨Lc144, hQ144, l144, y144, z144⟩, st144⟩ := X136.virtualBack hx (y := (⟨"com/example/mortise/mortise/validate/KeySequence", "forget", "()V"⟩ : MethodName)) (z := (⟨"com/example/mortise/mortise/validate/KeySequence", "forget", "()V"⟩ : MethodName)) hown (mvT hZ (hw _ (List.mem_of_getElem? (i := 26) rfl))) (mvT hZ (hw _ (List.mem_of_getElem? (i := 27) rfl))) (notFace_of_selects (args := #[]) (mvT hZ (hw _ (List.mem_of_getElem? (i := 29) rfl)))) (mvT hZ (hw _ (List.mem_of_getElem? (i := 29) rfl))) (mvT hZ (hw _ (List.mem_of_getElem? (i := 28) rfl))) (by decide) (backOf (W := 0) (rm3 l Z a0 hw [] bq24 x (1 : Int32) (T136.heap) n0 f140 Fx136 Fu136 EX136 f25) hZ (hw _ (List.mem_of_getElem? (i := 30) rfl)) (hw _ (List.mem_of_getElem? (i := 2) rfl)) (by decide) (by decide)) q144a q144c (g := (mkF m 113 #[.val (.int sz0), .val (.int fd), .val (.int nd), .val (.int fl), .val (.int v4), .val (.ref bq24), .val (.int (0 : Int32)), .val (.int (1 : Int32)), .val (.int ff)] [(.ref bq24)])) rfl (by rw [hml]; rfl) (Steps.refl _) (argsL := []) (rest := []) (lenOf pd0_2 rfl) rfl (by show 2 * 0 + _ ≤ _; exact Nat.le_of_eq rfl) (hb hby at_113) (fun _ _ => ⟨rfl, rfl, (by decide : 4 + 0 ≤ _), (by decide : 25 + 0 ≤ _)⟩)
            dsimp only [Pt.U, Pt.locs, Pt.cells, Pt.slots] at X144 l144 y144 z144 st144 hQ144
            subst l144 y144 z144
            obtain ⟨rfl, N144q, K144, EX144, Fx144, Fu144⟩ := hQ144
            have N144 := Fr.app N136 N144q
            refine OFin.via st144 ?_
            have f145 := f137.keep K144 (allS f25 all0)
            have f146 := EX136.keep K144
            have f147 := f139.keep K144 (ninS (Ne.symm f39) nin0)
            have f148 := Nat.le_trans f140 K144.1
            have f149 := f141.trans K144 (allS (Or.inr f26) all0)
            show OFin p e below s _ _ Q (T144.setTop (mkF m 116 #[.val (.int sz0), .val (.int fd), .val (.int nd), .val (.int fl), .val (.int v4), .val (.ref bq24), .val (.int (0 : Int32)), .val (.int (1 : Int32)), .val (.int ff)] []))
            refine OFin.back (fun _ hr => XS.iload X144.here hx rfl (hb hby at_116) rfl hr) ?_
            show OFin p e below s _ _ Q (T144.setTop (mkF m 118 #[.val (.int sz0), .val (.int fd), .val (.int nd), .val (.int fl), .val (.int v4), .val (.ref bq24), .val (.int (0 : Int32)), .val (.int (1 : Int32)), .val (.int ff)] [(.int (1 : Int32))]))
            refine OFin.back (fun _ hr => XS.ifNo X144.here hx rfl (hb hby at_118) rfl ((if0 _ _).trans (feq (by decide : ¬ ((1 : Int32) = (0 : Int32)))).1) hr) ?_
            show OFin p e below s _ _ Q (T144.setTop (mkF m 121 #[.val (.int sz0), .val (.int fd), .val (.int nd), .val (.int fl), .val (.int v4), .val (.ref bq24), .val (.int (0 : Int32)), .val (.int (1 : Int32)), .val (.int ff)] []))
            refine OFin.back (fun _ hr => XS.aload X144.here hx rfl (hb hby at_121) rfl rfl hr) ?_
            show OFin p e below s _ _ Q (T144.setTop (mkF m 123 #[.val (.int sz0), .val (.int fd), .val (.int nd), .val (.int fl), .val (.int v4), .val (.ref bq24), .val (.int (0 : Int32)), .val (.int (1 : Int32)), .val (.int ff)] [(.ref bq24)]))
            obtain ⟨cq150, kq150, q150a, q150b, q150c⟩ := isOf hZ rfl EX144
            obtain ⟨_, _, ⟨T150, L150, k150, n150⟩, -, X150, ⟨Lc150, hQ150, l150, y150, z150⟩, st150⟩ := X144.virtualBack hx (y := (⟨"com/example/mortise/mortise/validate/KeySequence", "missing", "()I"⟩ : MethodName)) (z := (⟨"com/example/mortise/mortise/validate/KeySequence", "missing", "()I"⟩ : MethodName)) hown (mvT hZ (hw _ (List.mem_of_getElem? (i := 20) rfl))) (mvT hZ (hw _ (List.mem_of_getElem? (i := 21) rfl))) (notFace_of_selects (args := #[]) (mvT hZ (hw _ (List.mem_of_getElem? (i := 23) rfl)))) (mvT hZ (hw _ (List.mem_of_getElem? (i := 23) rfl))) (mvT hZ (hw _ (List.mem_of_getElem? (i := 22) rfl))) (by decide) (backOf (W := 0) (rm2 l Z a0 hw [] bq24 v4 x k1 (T144.heap) n0 f148 Fx144 f147 hn) hZ (hw _ (List.mem_of_getElem? (i := 24) rfl)) (hw _ (List.mem_of_getElem? (i := 2) rfl)) (by decide) (by decide)) q150a q150c (g := (mkF m 123 #[.val (.int sz0), .val (.int fd), .val (.int nd), .val (.int fl), .val (.int v4), .val (.ref bq24), .val (.int (0 : Int32)), .val (.int (1 : Int32)), .val (.int ff)] [(.ref bq24)])) rfl (by rw [hml]; rfl) (Steps.refl _) (argsL := []) (rest := []) (lenOf pd0_1 rfl) rfl (by show 2 * 0 + _ ≤ _; exact Nat.le_of_eq rfl) (hb hby at_123) (fun _ _ => ⟨rfl, rfl, (by decide : 4 + 0 ≤ _), (by decide : 25 + 0 ≤ _)⟩)
            dsimp only [Pt.U, Pt.locs, Pt.cells, Pt.slots] at X150 l150 y150 z150 st150 hQ150
            subst l150 y150 z150
            obtain ⟨rfl, N150q, e150⟩ := hQ150
            have N150 := Fr.app N144 N150q
            refine OFin.via st150 ?_
            rw [show own_miss v4 = (0 : Int32) from if_neg hz]
            show OFin p e below s _ _ Q (T150.setTop (mkF m 126 #[.val (.int sz0), .val (.int fd), .val (.int nd), .val (.int fl), .val (.int v4), .val (.ref bq24), .val (.int (0 : Int32)), .val (.int (1 : Int32)), .val (.int ff)] [(.int (0 : Int32))]))
            refine OFin.back (fun _ hr => XS.iload X150.here hx rfl (hb hby at_126) rfl hr) ?_
            show OFin p e below s _ _ Q (T150.setTop (mkF m 128 #[.val (.int sz0), .val (.int fd), .val (.int nd), .val (.int fl), .val (.int v4), .val (.ref bq24), .val (.int (0 : Int32)), .val (.int (1 : Int32)), .val (.int ff)] [(.int (0 : Int32)), (.int (0 : Int32))]))
            refine OFin.back (fun _ hr => XS.icmpNo X150.here hx rfl (hb hby at_128) rfl (teq (by decide : (0 : Int32) = (0 : Int32))).2 hr) ?_
            show OFin p e below s _ _ Q (T150.setTop (mkF m 131 #[.val (.int sz0), .val (.int fd), .val (.int nd), .val (.int fl), .val (.int v4), .val (.ref bq24), .val (.int (0 : Int32)), .val (.int (1 : Int32)), .val (.int ff)] []))
            refine OFin.back (fun _ hr => XS.iconst X150.here hx rfl (hb hby at_131) hr) ?_
            show OFin p e below s _ _ Q (T150.setTop (mkF m 132 #[.val (.int sz0), .val (.int fd), .val (.int nd), .val (.int fl), .val (.int v4), .val (.ref bq24), .val (.int (0 : Int32)), .val (.int (1 : Int32)), .val (.int ff)] [(.int (1 : Int32))]))
            refine OFin.back (fun _ hr => XS.goto X150.here hx rfl (pc0 := 132) (pc' := 136) rfl (hb hby at_132) (by decide) (by decide) hr) ?_
            show OFin p e below s _ _ Q (T150.setTop (mkF m 136 #[.val (.int sz0), .val (.int fd), .val (.int nd), .val (.int fl), .val (.int v4), .val (.ref bq24), .val (.int (0 : Int32)), .val (.int (1 : Int32)), .val (.int ff)] [(.int (1 : Int32))]))
            exact OFin.outN (t := .boolean) X150 hx Bd.returns (by simp) Bd.notSynchronized (hb hby at_136) (by decide) (by decide) e150 (by rw [hQ]; exact ⟨rfl, N150⟩)
set_option maxRecDepth 65536 in
set_option maxHeartbeats 40000000 in
theorem comes_1 {Post : Tables → Env → Array Value → State → Outcome → State → Prop} (hpost : ∀ tb e args s v u, (limb_1_1.after args s (.returned v) u = true ∧ limb_1_2.after args s (.returned v) u = true ∧ True) → FrameEnd s (.returned v) u (Jvm.fieldLocs frame_1_writes args s ++ Jvm.arrayLocs frame_1_arrays args s ++ Jvm.staticLocs frame_1_statics s) 16 128 → Post tb e args s (.returned v) u) :
    ArmFor flags0 classFile x code maxLocals ret World_1 tables_1 room_1 Calls_1 rest_1 Pre_1 Post := by
  intro l hfl _ _ p e ha hc hk s m args below hf hA hF happ hP
  obtain ⟨hcalls, hrest, hpre⟩ := hP
  obtain ⟨-, -, -, hnamed, -, -, -, hat⟩ := (Spec.applies_iff hf).mp happ
  obtain ⟨hg, hn⟩ := and_e (Cond.before_iff.mp (show (Jvm.Cond.and given_1 narrow_1).before args s = true from hpre))
  obtain ⟨hga, hgb⟩ := and_e hg
  obtain ⟨hgba, hgbb⟩ := and_e hgb
  obtain ⟨hgbba, hgbbb⟩ := and_e hgbb
  obtain ⟨hgbbba, hgbbbb⟩ := and_e hgbbb
  obtain ⟨w0, w1, w2, w3, rfl⟩ : ∃ w0 w1 w2 w3 : Value, args = #[w0, w1, w2, w3] := by
    have hs : args.size = 4 := by simpa [Cond.value, given_1] using hga
    obtain ⟨L⟩ := args
    match L, hs with
    | [w0, w1, w2, w3], _ => exact ⟨w0, w1, w2, w3, rfl⟩
  have hw := fun d (hd : d ∈ tables_1) => atoms_spec (ws := Jvm.Cond.code x code maxLocals ret :: tables_1) hat d (List.mem_cons_of_mem _ hd)
  have hfit : Fit s := fun {y c} hc i hi => by
    obtain ⟨ha, rfl⟩ := Array.getElem?_eq_some_iff.mp hc
    have q := List.all_eq_true.mp ((Array.all_eq_true_iff_forall_mem.mp hF) _ (Array.getElem_mem ha)) i (List.mem_range.mpr hi)
    simpa [Array.getElem?_eq_getElem hi] using q
  obtain ⟨i0, ei0⟩ := is_v hgba
  obtain rfl : w0 = (.int i0) := Option.some.inj ei0
  obtain ⟨i1, ei1⟩ := is_v hgbba
  obtain rfl : w1 = (.int i1) := Option.some.inj ei1
  obtain ⟨i2, ei2⟩ := is_v hgbbba
  obtain rfl : w2 = (.int i2) := Option.some.inj ei2
  obtain ⟨i3, ei3⟩ := is_v hgbbbb
  obtain rfl : w3 = (.int i3) := Option.some.inj ei3
  obtain ⟨hna, hnb⟩ := and_e hn
  obtain ⟨a_V1_1, ev_V1_1⟩ := exa_v hna
  have E_V1_1 : Exa s s.heap a_V1_1 "com/example/mortise/mortise/XsdVersion" := Exa.start ev_V1_1 hna
  have S_V1_1 : Sta s s.heap "com/example/mortise/mortise/XsdVersion" "V1_1" "Lcom/example/mortise/mortise/XsdVersion;" (.ref a_V1_1) := Sta.start ev_V1_1 (Or.inr ⟨(hw _ (List.mem_of_getElem? (i := 39) rfl)), (hw _ (List.mem_of_getElem? (i := 40) rfl))⟩)
  obtain ⟨a_V1_0, ev_V1_0⟩ := exa_v hnb
  have E_V1_0 : Exa s s.heap a_V1_0 "com/example/mortise/mortise/XsdVersion" := Exa.start ev_V1_0 hnb
  have S_V1_0 : Sta s s.heap "com/example/mortise/mortise/XsdVersion" "V1_0" "Lcom/example/mortise/mortise/XsdVersion;" (.ref a_V1_0) := Sta.start ev_V1_0 (Or.inr ⟨(hw _ (List.mem_of_getElem? (i := 39) rfl)), (hw _ (List.mem_of_getElem? (i := 47) rfl))⟩)
  obtain ⟨n, o, h1, h2, h3, _, L, rfl, ⟨rfl, N⟩, hq⟩ := rm0 l s _ hw tables_1 i0 i1 i2 i3 a_V1_1 a_V1_0 s.heap s.heap.size (Nat.le_refl _) (Old.start s) S_V1_1 S_V1_0 p e ha hc hk s m _ below hf ((Spec.applies_iff_loose hf).mp happ).1 ⟨rfl, State.Warmed39.refl s, rfl⟩ trivial
  refine ⟨n, _, h1, h2, h3, hpost _ _ _ _ _ _ ⟨Cond.after_iff.mpr rfl, Cond.after_iff.mpr (eq_i res_at (Term.int_eval (1)) rfl), trivial⟩ ⟨hq.1, hq.2.1, (hq.2.2.sift fun y hy => Or.inr (N y hy)).mono (by decide) (by decide)⟩⟩
theorem main_1_1 : Claimed_1_1 := comes_1 fun _ _ _ _ _ _ h hF => ⟨h.1, hF⟩
theorem main_1_2 : Claimed_1_2 := comes_1 fun _ _ _ _ _ _ h hF => ⟨h.2.1, hF⟩
end Jvm.Pilot.@@N@@
namespace Jvm.Pilot.@@N@@
open Jvm Jvm.ClassFile Sem Op Lib Jvm.Free Jvm.Stand Jvm.Pilot.@@N@@.Jvm.D
/-! MADE BY PROGRAM (witnessworld.py) out of the Statement's table words and the real class files: 18 classes; the members and pool entries that the words name. The judged class is class 1, her method 1. -/
namespace start1
open Jvm.ClassFile
def u (s : String) : CpInfo := .utf8 (stringToUtf16 s)
/-- a pool by its gaps: so many unusable entries, then the entry; so many at the end -/
def gap : Nat → List CpInfo → List CpInfo
  | 0, r => r
  | n + 1, r => .unusable :: gap n r
def poolList (es : List (Nat × CpInfo)) (last : Nat) : List CpInfo := es.foldr (fun e r => gap e.1 (e.2 :: r)) (gap last [])
def pool (es : List (Nat × CpInfo)) (last : Nat) : Array CpInfo := ⟨poolList es last⟩
def fileOf (pool : Array CpInfo) (this : Nat) (attrs : Array Attribute := #[]) (ms : Array MethodInfo := #[]) (fl : Nat := 33) (sup : Nat := 0) (ifs : Array Nat := #[]) (fds : Array FieldInfo := #[]) : ClassFile where
  minorVersion := 0
  majorVersion := 65
  constantPool := pool
  accessFlags := fl
  thisClass := this
  superClass := sup
  interfaces := ifs
  fields := fds
  methods := ms
  attributes := attrs
def plain (name : String) (sup : Option ClassId) : Class where
  name := name
  kind := .ordinary
  loader := none
  accessFlags := 33
  super := sup
  interfaces := #[]
  cf := none
  fields := #[]
  methods := #[]
  instanceTypes := #[]
  staticTypes := #[]
  resolved := #[]
  callSites := []
  init := .initialized
  statics := none
  mirror := none

def pool0 : Array CpInfo := pool [(5, u "<init>"), (0, u "()V"), (1, .class_ 10), (1, u "java/lang/Object")] 113

def k0c0 : Code := { maxStack := 0, maxLocals := 1, code := object_method_1_code, exceptionTable := #[], attributes := #[] }
def k0m0 : Method := { name := "<init>", desc := "()V", sig := { parameters := [], returnType := none }, accessFlags := 1, code := some k0c0 }
/-- java/lang/Object -/
def k0 : Class := { plain "java/lang/Object" none with
  accessFlags := 33
  interfaces := #[]
  cf := some (fileOf pool0 8 #[] #[{ accessFlags := 1, nameIndex := 5, descriptorIndex := 6, attributes := #[] }] 33 0 #[] #[])
  fields := #[]
  methods := #[k0m0]
  instanceTypes := #[]
  staticTypes := #[]
  resolved := Array.replicate 124 none
  statics := none }

def pool1 : Array CpInfo := pool [(2, .class_ 4), (1, u "java/lang/Object"), (0, u "<init>"), (0, u "()V"), (0, .class_ 8), (0, u "com/example/mortise/mortise/validate/KeySequence"), (0, .methodref 7 10), (0, .nameAndType 5 11), (0, u "(I)V"), (0, .methodref 7 13), (0, .nameAndType 14 15), (0, u "missing"), (0, u "()I"), (0, .integer 2147483647), (0, .methodref 7 18), (0, .nameAndType 19 20), (0, u "select"), (0, u "(II)Z"), (0, .fieldref 22 23), (0, .class_ 24), (0, .nameAndType 25 26), (0, u "com/example/mortise/mortise/XsdVersion"), (0, u "V1_1"), (0, u "Lcom/example/mortise/mortise/XsdVersion;"), (0, .fieldref 22 28), (0, .nameAndType 29 26), (0, u "V1_0"), (0, .methodref 7 31), (0, .nameAndType 32 33), (0, u "take"), (0, u "(ILcom/example/mortise/mortise/schema/Checked;Lcom/example/mortise/mortise/XsdVersion;)V"), (0, .methodref 7 35), (0, .nameAndType 36 6), (0, u "forget"), (0, .class_ 38), (0, u "com/example/mortise/mortise/validate/KeySequenceMissingPinLaw"), (2, u "law"), (0, u "(IIII)Z")] 3

def k1m0 : Method := { name := "<init>", desc := "()V", sig := { parameters := [], returnType := none }, accessFlags := 1, code := none }
def k1c1 : Code := { maxStack := 5, maxLocals := 9, code := code, exceptionTable := #[], attributes := #[] }
def k1m1 : Method := { name := "law", desc := "(IIII)Z", sig := { parameters := [.int, .int, .int, .int], returnType := some .boolean }, accessFlags := 9, code := some k1c1 }
/-- com/example/mortise/mortise/validate/KeySequenceMissingPinLaw -/
def k1 : Class := { plain "com/example/mortise/mortise/validate/KeySequenceMissingPinLaw" (some 0) with
  accessFlags := 49
  interfaces := #[]
  cf := some (fileOf pool1 37 #[] #[{ accessFlags := 1, nameIndex := 5, descriptorIndex := 6, attributes := #[] }, { accessFlags := 9, nameIndex := 41, descriptorIndex := 42, attributes := #[] }] 49 2 #[] #[])
  fields := #[]
  methods := #[k1m0, k1m1]
  instanceTypes := #[]
  staticTypes := #[]
  resolved := Array.replicate 46 none
  statics := none }

def pool2 : Array CpInfo := pool [(1, .methodref 2 3), (0, .class_ 4), (0, .nameAndType 5 6), (0, u "java/lang/Object"), (0, u "<init>"), (0, u "()V"), (0, .fieldref 8 9), (0, .class_ 10), (0, .nameAndType 11 12), (0, u "com/example/mortise/mortise/validate/KeySequence"), (0, u "values"), (0, u "[Ljava/lang/Object;"), (0, .class_ 14), (0, u "java/lang/String"), (0, .fieldref 8 16), (0, .nameAndType 17 18), (0, u "texts"), (0, u "[Ljava/lang/String;"), (0, .fieldref 8 20), (0, .nameAndType 21 22), (0, u "found"), (0, u "[I"), (6, .fieldref 8 30), (0, .nameAndType 31 32), (0, u "unknown"), (0, u "Z"), (15, u "()I"), (38, u "(I)V"), (2, u "select"), (0, u "(II)Z"), (1, u "take"), (0, u "(ILcom/example/mortise/mortise/schema/Checked;Lcom/example/mortise/mortise/XsdVersion;)V"), (1, u "forget"), (2, u "missing")] 20

def k2c0 : Code := { maxStack := 2, maxLocals := 2, code := prog_181_method_1_code, exceptionTable := #[], attributes := #[] }
def k2m0 : Method := { name := "<init>", desc := "(I)V", sig := { parameters := [.int], returnType := none }, accessFlags := 0, code := some k2c0 }
def k2c1 : Code := { maxStack := 4, maxLocals := 3, code := prog_181_method_2_code, exceptionTable := #[], attributes := #[] }
def k2m1 : Method := { name := "select", desc := "(II)Z", sig := { parameters := [.int, .int], returnType := some .boolean }, accessFlags := 0, code := some k2c1 }
def k2c2 : Code := { maxStack := 4, maxLocals := 4, code := prog_181_method_3_code, exceptionTable := #[], attributes := #[] }
def k2m2 : Method := { name := "take", desc := "(ILcom/example/mortise/mortise/schema/Checked;Lcom/example/mortise/mortise/XsdVersion;)V", sig := { parameters := [.int, (.object "com/example/mortise/mortise/schema/Checked"), (.object "com/example/mortise/mortise/XsdVersion")], returnType := none }, accessFlags := 0, code := some k2c2 }
def k2c3 : Code := { maxStack := 2, maxLocals := 1, code := prog_181_method_4_code, exceptionTable := #[], attributes := #[] }
def k2m3 : Method := { name := "forget", desc := "()V", sig := { parameters := [], returnType := none }, accessFlags := 0, code := some k2c3 }
def k2c4 : Code := { maxStack := 2, maxLocals := 3, code := prog_181_method_6_code, exceptionTable := #[], attributes := #[] }
def k2m4 : Method := { name := "missing", desc := "()I", sig := { parameters := [], returnType := some .int }, accessFlags := 0, code := some k2c4 }
/-- com/example/mortise/mortise/validate/KeySequence -/
def k2 : Class := { plain "com/example/mortise/mortise/validate/KeySequence" (some 0) with
  accessFlags := 48
  interfaces := #[]
  cf := some (fileOf pool2 8 #[] #[{ accessFlags := 0, nameIndex := 5, descriptorIndex := 87, attributes := #[] }, { accessFlags := 0, nameIndex := 90, descriptorIndex := 91, attributes := #[] }, { accessFlags := 0, nameIndex := 93, descriptorIndex := 94, attributes := #[] }, { accessFlags := 0, nameIndex := 96, descriptorIndex := 6, attributes := #[] }, { accessFlags := 0, nameIndex := 99, descriptorIndex := 48, attributes := #[] }] 48 2 #[] #[{ accessFlags := 18, nameIndex := 11, descriptorIndex := 12, attributes := #[] }, { accessFlags := 18, nameIndex := 17, descriptorIndex := 18, attributes := #[] }, { accessFlags := 18, nameIndex := 21, descriptorIndex := 22, attributes := #[] }, { accessFlags := 2, nameIndex := 31, descriptorIndex := 32, attributes := #[] }])
  fields := #[{ name := "values", type := (.array (.object "java/lang/Object")), accessFlags := 18, slot := 0, constantValue := 0 }, { name := "texts", type := (.array (.object "java/lang/String")), accessFlags := 18, slot := 1, constantValue := 0 }, { name := "found", type := (.array .int), accessFlags := 18, slot := 2, constantValue := 0 }, { name := "unknown", type := .boolean, accessFlags := 2, slot := 3, constantValue := 0 }]
  methods := #[k2m0, k2m1, k2m2, k2m3, k2m4]
  instanceTypes := #[(.array (.object "java/lang/Object")), (.array (.object "java/lang/String")), (.array .int), .boolean]
  staticTypes := #[]
  resolved := Array.replicate 120 none
  statics := none }

def pool3 : Array CpInfo := pool [(1, .class_ 2), (0, u "java/io/Serializable"), (0, .class_ 4), (0, u "java/lang/Object")] 2

/-- java/io/Serializable -/
def k3 : Class := { plain "java/io/Serializable" (some 0) with
  accessFlags := 1537
  interfaces := #[]
  cf := some (fileOf pool3 1 #[] #[] 1537 3 #[] #[])
  fields := #[]
  methods := #[]
  instanceTypes := #[]
  staticTypes := #[]
  resolved := Array.replicate 7 none
  statics := none }

def pool4 : Array CpInfo := pool [(1, .class_ 2), (0, u "java/lang/Comparable"), (0, .class_ 4), (0, u "java/lang/Object")] 7

/-- java/lang/Comparable -/
def k4 : Class := { plain "java/lang/Comparable" (some 0) with
  accessFlags := 1537
  interfaces := #[]
  cf := some (fileOf pool4 1 #[] #[] 1537 3 #[] #[])
  fields := #[]
  methods := #[]
  instanceTypes := #[]
  staticTypes := #[]
  resolved := Array.replicate 12 none
  statics := none }

def pool5 : Array CpInfo := pool [(2, .class_ 4), (1, u "java/lang/CharSequence"), (42, .class_ 48), (0, u "java/lang/CharSequence$1CodePointIterator"), (10, .class_ 60), (0, u "java/lang/CharSequence$1CharIterator"), (5, .class_ 67), (0, u "java/lang/Object")] 63

/-- java/lang/CharSequence -/
def k5 : Class := { plain "java/lang/CharSequence" (some 0) with
  accessFlags := 1537
  interfaces := #[]
  cf := some (fileOf pool5 2 #[.nestMembers #[47, 59]] #[] 1537 66 #[] #[])
  fields := #[]
  methods := #[]
  instanceTypes := #[]
  staticTypes := #[]
  resolved := Array.replicate 131 none
  statics := none }

def pool6 : Array CpInfo := pool [(1, .class_ 2), (0, u "java/lang/constant/Constable"), (0, .class_ 4), (0, u "java/lang/Object")] 6

/-- java/lang/constant/Constable -/
def k6 : Class := { plain "java/lang/constant/Constable" (some 0) with
  accessFlags := 1537
  interfaces := #[]
  cf := some (fileOf pool6 1 #[] #[] 1537 3 #[] #[])
  fields := #[]
  methods := #[]
  instanceTypes := #[]
  staticTypes := #[]
  resolved := Array.replicate 11 none
  statics := none }

def pool7 : Array CpInfo := pool [(1, .class_ 2), (0, u "java/lang/constant/ConstantDesc"), (0, .class_ 4), (0, u "java/lang/Object")] 32

/-- java/lang/constant/ConstantDesc -/
def k7 : Class := { plain "java/lang/constant/ConstantDesc" (some 0) with
  accessFlags := 1537
  interfaces := #[]
  cf := some (fileOf pool7 1 #[] #[] 1537 3 #[] #[])
  fields := #[]
  methods := #[]
  instanceTypes := #[]
  staticTypes := #[]
  resolved := Array.replicate 37 none
  statics := none }

def pool8 : Array CpInfo := pool [(2, .class_ 4), (1, u "java/lang/Object"), (0, u "<init>"), (0, u "()V"), (3, .class_ 12), (1, u "java/lang/String"), (0, u "value"), (0, u "[B"), (2, u "coder"), (0, u "B"), (2, u "hash"), (0, u "I"), (2, u "hashIsZero"), (0, u "Z"), (13, u "COMPACT_STRINGS"), (534, .class_ 576), (0, u "java/lang/CharSequence"), (22, u "CASE_INSENSITIVE_ORDER"), (0, u "Ljava/util/Comparator;"), (500, u "serialPersistentFields"), (0, u "[Ljava/io/ObjectStreamField;"), (0, .class_ 1104), (0, u "java/lang/String$CaseInsensitiveComparator"), (1, .class_ 1107), (0, u "java/io/Serializable"), (0, .class_ 1109), (0, u "java/lang/Comparable"), (0, .class_ 1111), (0, u "java/lang/constant/Constable"), (0, .class_ 1113), (0, u "java/lang/constant/ConstantDesc"), (2, u "serialVersionUID"), (0, u "J"), (3, u "REPL"), (0, u "C"), (2, u "LATIN1"), (1, u "UTF16")] 323

def k8m0 : Method := { name := "<init>", desc := "()V", sig := { parameters := [], returnType := none }, accessFlags := 1, code := none }
/-- java/lang/String -/
def k8 : Class := { plain "java/lang/String" (some 0) with
  accessFlags := 49
  interfaces := #[3, 4, 5, 6, 7]
  cf := some (fileOf pool8 10 #[.nestMembers #[1103]] #[{ accessFlags := 1, nameIndex := 5, descriptorIndex := 6, attributes := #[] }] 49 2 #[1106, 1108, 575, 1110, 1112] #[{ accessFlags := 18, nameIndex := 13, descriptorIndex := 14, attributes := #[] }, { accessFlags := 18, nameIndex := 17, descriptorIndex := 18, attributes := #[] }, { accessFlags := 2, nameIndex := 21, descriptorIndex := 22, attributes := #[] }, { accessFlags := 2, nameIndex := 25, descriptorIndex := 26, attributes := #[] }, { accessFlags := 26, nameIndex := 1116, descriptorIndex := 1117, attributes := #[] }, { accessFlags := 24, nameIndex := 40, descriptorIndex := 26, attributes := #[] }, { accessFlags := 26, nameIndex := 1101, descriptorIndex := 1102, attributes := #[] }, { accessFlags := 26, nameIndex := 1121, descriptorIndex := 1122, attributes := #[] }, { accessFlags := 25, nameIndex := 599, descriptorIndex := 600, attributes := #[] }, { accessFlags := 24, nameIndex := 1125, descriptorIndex := 18, attributes := #[] }, { accessFlags := 24, nameIndex := 1127, descriptorIndex := 18, attributes := #[] }])
  fields := #[{ name := "value", type := (.array .byte), accessFlags := 18, slot := 0, constantValue := 0 }, { name := "coder", type := .byte, accessFlags := 18, slot := 1, constantValue := 0 }, { name := "hash", type := .int, accessFlags := 2, slot := 2, constantValue := 0 }, { name := "hashIsZero", type := .boolean, accessFlags := 2, slot := 3, constantValue := 0 }, { name := "serialVersionUID", type := .long, accessFlags := 26, slot := 0, constantValue := 0 }, { name := "COMPACT_STRINGS", type := .boolean, accessFlags := 24, slot := 1, constantValue := 0 }, { name := "serialPersistentFields", type := (.array (.object "java/io/ObjectStreamField")), accessFlags := 26, slot := 2, constantValue := 0 }, { name := "REPL", type := .char, accessFlags := 26, slot := 3, constantValue := 0 }, { name := "CASE_INSENSITIVE_ORDER", type := (.object "java/util/Comparator"), accessFlags := 25, slot := 4, constantValue := 0 }, { name := "LATIN1", type := .byte, accessFlags := 24, slot := 5, constantValue := 0 }, { name := "UTF16", type := .byte, accessFlags := 24, slot := 6, constantValue := 0 }]
  methods := #[k8m0]
  instanceTypes := #[(.array .byte), .byte, .int, .boolean]
  staticTypes := #[.long, .boolean, (.array (.object "java/io/ObjectStreamField")), .char, (.object "java/util/Comparator"), .byte, .byte]
  resolved := Array.replicate 1451 none
  statics := none }

def pool9 : Array CpInfo := pool [(2, .class_ 4), (1, u "java/lang/Enum"), (0, u "name"), (0, u "Ljava/lang/String;"), (2, u "ordinal"), (0, u "I"), (1, .class_ 14), (1, u "java/lang/Object"), (4, u "hash"), (86, .class_ 108), (1, u "java/lang/Enum$EnumDesc"), (2, .class_ 112), (0, u "java/lang/constant/Constable"), (0, .class_ 114), (0, u "java/lang/Comparable"), (0, .class_ 116), (0, u "java/io/Serializable")] 87

/-- java/lang/Enum -/
def k9 : Class := { plain "java/lang/Enum" (some 0) with
  accessFlags := 1057
  interfaces := #[6, 4, 3]
  cf := some (fileOf pool9 2 #[.nestMembers #[106]] #[] 1057 12 #[111, 113, 115] #[{ accessFlags := 18, nameIndex := 5, descriptorIndex := 6, attributes := #[] }, { accessFlags := 18, nameIndex := 9, descriptorIndex := 10, attributes := #[] }, { accessFlags := 2, nameIndex := 19, descriptorIndex := 10, attributes := #[] }])
  fields := #[{ name := "name", type := (.object "java/lang/String"), accessFlags := 18, slot := 0, constantValue := 0 }, { name := "ordinal", type := .int, accessFlags := 18, slot := 1, constantValue := 0 }, { name := "hash", type := .int, accessFlags := 2, slot := 2, constantValue := 0 }]
  methods := #[]
  instanceTypes := #[(.object "java/lang/String"), .int, .int]
  staticTypes := #[]
  resolved := Array.replicate 204 none
  statics := none }

def pool10 : Array CpInfo := pool [(1, .class_ 2), (0, u "com/example/mortise/mortise/XsdVersion"), (2, u "V1_0"), (0, u "Lcom/example/mortise/mortise/XsdVersion;"), (2, u "V1_1"), (2, u "$VALUES"), (0, u "[Lcom/example/mortise/mortise/XsdVersion;"), (6, .class_ 22), (1, u "java/lang/Enum"), (8, u "number"), (0, u "Ljava/lang/String;")] 36

/-- com/example/mortise/mortise/XsdVersion -/
def k10 : Class := { plain "com/example/mortise/mortise/XsdVersion" (some 9) with
  accessFlags := 16433
  interfaces := #[]
  cf := some (fileOf pool10 1 #[] #[] 16433 20 #[] #[{ accessFlags := 16409, nameIndex := 5, descriptorIndex := 6, attributes := #[] }, { accessFlags := 16409, nameIndex := 9, descriptorIndex := 6, attributes := #[] }, { accessFlags := 18, nameIndex := 31, descriptorIndex := 32, attributes := #[] }, { accessFlags := 4122, nameIndex := 12, descriptorIndex := 13, attributes := #[] }])
  fields := #[{ name := "V1_0", type := (.object "com/example/mortise/mortise/XsdVersion"), accessFlags := 16409, slot := 0, constantValue := 0 }, { name := "V1_1", type := (.object "com/example/mortise/mortise/XsdVersion"), accessFlags := 16409, slot := 1, constantValue := 0 }, { name := "number", type := (.object "java/lang/String"), accessFlags := 18, slot := 3, constantValue := 0 }, { name := "$VALUES", type := (.array (.object "com/example/mortise/mortise/XsdVersion")), accessFlags := 4122, slot := 2, constantValue := 0 }]
  methods := #[]
  instanceTypes := #[(.object "java/lang/String"), .int, .int, (.object "java/lang/String")]
  staticTypes := #[(.object "com/example/mortise/mortise/XsdVersion"), (.object "com/example/mortise/mortise/XsdVersion"), (.array (.object "com/example/mortise/mortise/XsdVersion"))]
  resolved := Array.replicate 69 none
  statics := some 0 }

def pool11 : Array CpInfo := pool [(1, u "java/lang/Cloneable"), (0, .class_ 1), (0, u "java/lang/Object"), (0, .class_ 3)] 3

/-- java/lang/Cloneable -/
def k11 : Class := { plain "java/lang/Cloneable" (some 0) with
  accessFlags := 1537
  interfaces := #[]
  cf := some (fileOf pool11 2 #[] #[] 1537 4 #[] #[])
  fields := #[]
  methods := #[]
  instanceTypes := #[]
  staticTypes := #[]
  resolved := Array.replicate 8 none
  statics := none }

/-- the primitive byte -/
def k12 : Class := { plain "byte" none with kind := .primitive 'B', accessFlags := 0x411 }
/-- [B -/
def k13 : Class := { plain "[B" (some 0) with kind := .array 12 .byte, interfaces := #[11, 3], accessFlags := 1041 }

/-- the primitive int -/
def k14 : Class := { plain "int" none with kind := .primitive 'I', accessFlags := 0x411 }
/-- [I -/
def k15 : Class := { plain "[I" (some 0) with kind := .array 14 .int, interfaces := #[11, 3], accessFlags := 1041 }

/-- [Ljava/lang/Object; -/
def k16 : Class := { plain "[Ljava/lang/Object;" (some 0) with kind := .array 0 (.object "java/lang/Object"), interfaces := #[11, 3], accessFlags := 1041 }

/-- [Ljava/lang/String; -/
def k17 : Class := { plain "[Ljava/lang/String;" (some 0) with kind := .array 8 (.object "java/lang/String"), interfaces := #[11, 3], accessFlags := 1041 }

def heap : Heap := #[{ cls := 10, slots := #[.ref 1, .ref 2, .null], vm := .statics 10 },
  { cls := 10, slots := #[.null, .int 0, .int 0, .null], vm := .none },
  { cls := 10, slots := #[.null, .int 1, .int 0, .null], vm := .none }]
def classes : Array Class := #[k0, k1, k2, k3, k4, k5, k6, k7, k8, k9, k10, k11, k12, k13, k14, k15, k16, k17]
def interned : List (Array UInt16 × Addr) := []
def slotsUsed : Nat := 11
def theMethod : MethodId := ⟨1, 1⟩
def args0 : Array Value := #[.int 5, .int 3, .int 2, .int 15]
def aboutOver (below : List Frame) : State where
  vm := { classes := classes, interned := interned.toArray }
  heap := heap
  slotsUsed := slotsUsed
  threads := #[{ frames := .invoking theMethod args0 :: below }]
def below0 : List Frame := [.native { method := ⟨0, 0⟩, args := #[] }]
def about1 : State := aboutOver below0
def p0 : Program := .bare "" "" ""
def e0 : Env := launch0.env 0 0 0
theorem w_frames : about1.frames = Frame.invoking theMethod args0 :: below0 := rfl
set_option maxRecDepth 65536 in
theorem w_args : argsFit about1.vm theMethod args0 = true := by decide +kernel
set_option maxRecDepth 65536 in
theorem w_heap : heapFits about1 = true := by decide +kernel
set_option maxRecDepth 65536 in
theorem w_runnable : about1.curStatus? = some .runnable := by decide +kernel
set_option maxRecDepth 65536 in
theorem w_alone : about1.alone = true := by decide +kernel
set_option maxRecDepth 65536 in
theorem w_named : about1.methodNamed? x = some theMethod := by decide +kernel
set_option maxRecDepth 65536 in
theorem w_hears : about1.hears theMethod below0 = true := by decide +kernel
set_option maxRecDepth 65536 in
theorem w_ripe : about1.ripe theMethod args0 below0 = true := by decide +kernel
theorem w_running : about1.status = .running := rfl
set_option maxRecDepth 65536 in
theorem w_room : about1.hasRoom e0.platform room_1 = true :=
  launch0.hasRoom_least _ room_1 (by decide +kernel) (by decide +kernel) (by decide +kernel) (by decide +kernel) (by decide +kernel) (by decide +kernel)
theorem allAtoms_all (ts : List Jvm.Cond) (a : Array Jvm.Value) (st : Jvm.State) : (allAtoms ts).before a st = ts.all (fun c => c.before a st) := by
  induction ts with
  | nil => rfl
  | cons c t ih =>
    show (Jvm.Cond.and c (allAtoms t)).before a st = _
    rw [Jvm.Cond.before_and, ih, List.all_cons]
def words1 : List Jvm.Cond := Jvm.Cond.code x code maxLocals ret :: tables_1
/-- a 'code' word, met by the world's own term for the bytes: nothing is compared byte by byte -/
theorem code_word {y : MethodName} {bytes : ByteArray} {mx : Nat} {rt : Option FieldType} {a : Array Value} {s : State} {m : MethodId} {meth : Method} {c : Code} (h1 : s.methodNamed? y = some m) (h2 : s.vm.method? m = some meth) (h3 : meth.code = some c) (h4 : c.code = bytes)
    (h5 : (c.maxLocals == mx && c.exceptionTable.isEmpty && decide (c.maxStack ≤ mostOperands) && decide (meth.sig.returnType = rt) && !meth.locks && decide (parseMethodDescriptor y.desc = some meth.sig)) = true) : (Jvm.Cond.code y bytes mx rt).before a s = true := by
  simp only [Bool.and_eq_true, beq_iff_eq, Bool.not_eq_true', decide_eq_true_eq] at h5
  obtain ⟨⟨⟨⟨⟨g1, g2⟩, g3⟩, g4⟩, g5⟩, g6⟩ := h5
  simp [Cond.before, Cond.holds, Cond.value, h1, h2, h3, h4, g1, g2, g3, g4, g5, g6]
def isCode : Jvm.Cond → Bool
  | .code _ _ _ _ => true
  | _ => false
theorem all_split {L : List Jvm.Cond} {P : Jvm.Cond → Bool} (h1 : L.all (fun c => isCode c || P c) = true) (h2 : ∀ c ∈ L.filter isCode, P c = true) : L.all P = true := by
  refine List.all_eq_true.mpr fun c hc => ?_
  have h := List.all_eq_true.mp h1 c hc
  rcases Bool.eq_false_or_eq_true (isCode c) with hi | hi
  · exact h2 c (List.mem_filter.mpr ⟨hc, hi⟩)
  · simpa [hi] using h
set_option maxRecDepth 65536 in
theorem w_c0 : (Jvm.Cond.code x code maxLocals ret).before args0 about1 = true := code_word (m := ⟨1, 1⟩) (meth := k1m1) (c := k1c1) (by decide +kernel) rfl rfl rfl (by decide +kernel)
set_option maxRecDepth 65536 in
theorem w_c1 : (Jvm.Cond.code ({ cls := "com/example/mortise/mortise/validate/KeySequence", name := "<init>", desc := "(I)V" } : Jvm.MethodName) prog_181_method_1_code (2 : Nat) (Option.none : Option Jvm.ClassFile.FieldType)).before args0 about1 = true := code_word (m := ⟨2, 0⟩) (meth := k2m0) (c := k2c0) (by decide +kernel) rfl rfl rfl (by decide +kernel)
set_option maxRecDepth 65536 in
theorem w_c2 : (Jvm.Cond.code ({ cls := "java/lang/Object", name := "<init>", desc := "()V" } : Jvm.MethodName) object_method_1_code (1 : Nat) (Option.none : Option Jvm.ClassFile.FieldType)).before args0 about1 = true := code_word (m := ⟨0, 0⟩) (meth := k0m0) (c := k0c0) (by decide +kernel) rfl rfl rfl (by decide +kernel)
set_option maxRecDepth 65536 in
theorem w_c3 : (Jvm.Cond.code ({ cls := "com/example/mortise/mortise/validate/KeySequence", name := "missing", desc := "()I" } : Jvm.MethodName) prog_181_method_6_code (3 : Nat) (Option.some Jvm.ClassFile.FieldType.int)).before args0 about1 = true := code_word (m := ⟨2, 4⟩) (meth := k2m4) (c := k2c4) (by decide +kernel) rfl rfl rfl (by decide +kernel)
set_option maxRecDepth 65536 in
theorem w_c4 : (Jvm.Cond.code ({ cls := "com/example/mortise/mortise/validate/KeySequence", name := "forget", desc := "()V" } : Jvm.MethodName) prog_181_method_4_code (1 : Nat) (Option.none : Option Jvm.ClassFile.FieldType)).before args0 about1 = true := code_word (m := ⟨2, 3⟩) (meth := k2m3) (c := k2c3) (by decide +kernel) rfl rfl rfl (by decide +kernel)
set_option maxRecDepth 65536 in
theorem w_c5 : (Jvm.Cond.code ({ cls := "com/example/mortise/mortise/validate/KeySequence", name := "select", desc := "(II)Z" } : Jvm.MethodName) prog_181_method_2_code (3 : Nat) (Option.some Jvm.ClassFile.FieldType.boolean)).before args0 about1 = true := code_word (m := ⟨2, 1⟩) (meth := k2m1) (c := k2c1) (by decide +kernel) rfl rfl rfl (by decide +kernel)
set_option maxRecDepth 65536 in
theorem w_c6 : (Jvm.Cond.code ({ cls := "com/example/mortise/mortise/validate/KeySequence", name := "take", desc := "(ILcom/example/mortise/mortise/schema/Checked;Lcom/example/mortise/mortise/XsdVersion;)V" } : Jvm.MethodName) prog_181_method_3_code (4 : Nat) (Option.none : Option Jvm.ClassFile.FieldType)).before args0 about1 = true := code_word (m := ⟨2, 2⟩) (meth := k2m2) (c := k2c2) (by decide +kernel) rfl rfl rfl (by decide +kernel)
def codes1 : List Jvm.Cond := [Jvm.Cond.code x code maxLocals ret, Jvm.Cond.code ({ cls := "com/example/mortise/mortise/validate/KeySequence", name := "<init>", desc := "(I)V" } : Jvm.MethodName) prog_181_method_1_code (2 : Nat) (Option.none : Option Jvm.ClassFile.FieldType), Jvm.Cond.code ({ cls := "java/lang/Object", name := "<init>", desc := "()V" } : Jvm.MethodName) object_method_1_code (1 : Nat) (Option.none : Option Jvm.ClassFile.FieldType), Jvm.Cond.code ({ cls := "com/example/mortise/mortise/validate/KeySequence", name := "missing", desc := "()I" } : Jvm.MethodName) prog_181_method_6_code (3 : Nat) (Option.some Jvm.ClassFile.FieldType.int), Jvm.Cond.code ({ cls := "com/example/mortise/mortise/validate/KeySequence", name := "forget", desc := "()V" } : Jvm.MethodName) prog_181_method_4_code (1 : Nat) (Option.none : Option Jvm.ClassFile.FieldType), Jvm.Cond.code ({ cls := "com/example/mortise/mortise/validate/KeySequence", name := "select", desc := "(II)Z" } : Jvm.MethodName) prog_181_method_2_code (3 : Nat) (Option.some Jvm.ClassFile.FieldType.boolean), Jvm.Cond.code ({ cls := "com/example/mortise/mortise/validate/KeySequence", name := "take", desc := "(ILcom/example/mortise/mortise/schema/Checked;Lcom/example/mortise/mortise/XsdVersion;)V" } : Jvm.MethodName) prog_181_method_3_code (4 : Nat) (Option.none : Option Jvm.ClassFile.FieldType)]
set_option maxRecDepth 65536 in
theorem codes_eq : words1.filter isCode = codes1 := rfl
theorem w_codes : ∀ c ∈ words1.filter isCode, c.before args0 about1 = true := by
  rw [codes_eq]
  intro c hc
  simp only [codes1, List.mem_cons, List.not_mem_nil, or_false] at hc
  rcases hc with rfl | rfl | rfl | rfl | rfl | rfl | rfl
  · exact w_c0
  · exact w_c1
  · exact w_c2
  · exact w_c3
  · exact w_c4
  · exact w_c5
  · exact w_c6
set_option maxRecDepth 65536 in
theorem w_t1 : (words1.take 24).all (fun c => isCode c || c.before args0 about1) = true := by decide +kernel
set_option maxRecDepth 65536 in
theorem w_t2 : ((words1.drop 24).take 24).all (fun c => isCode c || c.before args0 about1) = true := by decide +kernel
set_option maxRecDepth 65536 in
theorem w_t3 : ((words1.drop 24).drop 24).all (fun c => isCode c || c.before args0 about1) = true := by decide +kernel
theorem w_tables : (allAtoms (Jvm.Cond.code x code maxLocals ret :: tables_1)).before args0 about1 = true := by
  rw [allAtoms_all]
  show words1.all (fun c => c.before args0 about1) = true
  refine all_split ?_ w_codes
  rw [← List.take_append_drop 24 words1, List.all_append, w_t1, ← List.take_append_drop 24 (words1.drop 24), List.all_append, w_t2, w_t3]
  rfl
set_option maxRecDepth 65536 in
theorem w_case : (Jvm.Cond.and given_1 narrow_1).before args0 about1 = true := by decide +kernel
theorem w_applies : (headSpec (Jvm.Cond.code x code maxLocals ret :: tables_1) room_1).applies x e0.platform about1 = true :=
  (Spec.applies_iff w_frames).mpr ⟨w_running, w_runnable, w_alone, w_named, w_hears, w_ripe, w_room, w_tables⟩
theorem atStart : AtStart classFile x code maxLocals ret World_1 tables_1 room_1 Calls_1 rest_1 Pre_1 launch0 p0 e0 about1 theMethod args0 below0 :=
  ⟨lists_1, trivial, launch0.admits_env _ _ _, launch0.least_env, fairChoices_fair.cas, fairChoices_fair.clock, w_frames, w_args, w_heap, w_applies, trivial, trivial, w_case⟩
end start1
theorem witness_1 : WitnessClaimed_1 := ⟨start1.p0, start1.e0, start1.about1, start1.theMethod, start1.args0, start1.below0, start1.atStart⟩
end Jvm.Pilot.@@N@@
