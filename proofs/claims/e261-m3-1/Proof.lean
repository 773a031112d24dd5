import JvmDerived
import JvmDerived.Pilot.@@N@@Statement
import JvmDerived.Pilot.@@N@@Code
set_option linter.unusedVariables false
set_option linter.unusedSimpArgs false
namespace Jvm.RoadKit
open Sem ClassFile Op Lib Jvm.Stand Jvm.Free Jvm.LawKit
section New
variable {p : Program} {l : Launch} {e : Env} {R : Room} {s : State} {m : MethodId} {args : Array Value} {below : List Frame} {meth : Method} {c : Code} {T : State} {locs : List Loc} {cells slots : Nat}
theorem retI (X : Stand p l e R s m args below meth c T locs cells slots) (hx : p.tables.exec = Jvm.exec) {pc : Nat} {Ls : Array Slot} {z : Int32} {rest : List Value} (hret : meth.sig.returnType = some .int) (hd : decode c.code pc = .ok (.ireturn, 1)) {fs : List Frame}
    (hl : ∀ (f : JFrame) (acts : List Action), f.method = m → f.locked = none → f.entered = [] → (doReturn e (T.setTop f) acts (some (.int z))).1 = T.setFrames fs) : Steps p.tables e below (T.setTop (mkF m pc Ls (.int z :: rest))) (T.setFrames fs) := by
  have hm' : T.vm.method? m = some meth := X.method'
  have hn : narrow .int (.int z) = .int z := rfl
  show Steps p.tables e below (T.setTop { method := m, pc := pc, locals := Ls, stack := _ :: rest, locked := none }) _
  jvm_step X.here [X.here.top, hx, hd, hm', hret, hn]
  first | (intro acts; rw [hl _ acts rfl rfl rfl]) | rw [hl _ _ rfl rfl rfl]
  exact Steps.refl _
/-- from S the invocation comes to its end, and Q says what it returned, the heap, the places written -/
def OFin (p : Program) (e : Env) (below : List Frame) (s : State) (k n : Nat) (Q : Option Value → Heap → List Loc → Prop) (S : State) : Prop :=
  ∃ t o, Steps p.tables e below S t ∧ t.status = .running ∧ Ended t below o ∧ ∃ v L, o = .returned v ∧ Q v t.heap L ∧ FrameEnd s o t L k n
variable {k n : Nat} {Q : Option Value → Heap → List Loc → Prop} {S S' : State}
theorem OFin.back (h : ∀ t, Steps p.tables e below S' t → Steps p.tables e below S t) (g : OFin p e below s k n Q S') : OFin p e below s k n Q S := by
  obtain ⟨t, o, h1, h2⟩ := g
  exact ⟨t, o, h t h1, h2⟩
theorem OFin.via (h : Steps p.tables e below S S') (g : OFin p e below s k n Q S') : OFin p e below s k n Q S := by
  obtain ⟨t, o, h1, h2⟩ := g
  exact ⟨t, o, h.trans h1, h2⟩
variable {h : Heap} {pc : Nat} {Ls : Array Slot} {z : Int32} {rest : List Value}
theorem OFin.outI (X : Stand p l e R s m args below meth c T locs cells slots) (hx : p.tables.exec = Jvm.exec) (hret : meth.sig.returnType = some .int) (hk : meth.locks = false) (hd : decode c.code pc = .ok (.ireturn, 1)) (hc : cells ≤ k) (hs : slots ≤ n) (eT : T.heap = h) (hq : Q (some (.int z)) h locs) :
    OFin p e below s k n Q (T.setTop (mkF m pc Ls (.int z :: rest))) := by
  obtain ⟨fs, hr, hrun, hended, hW, hsame⟩ := X.leave (v := some (.int z)) (fun h => by rw [hret] at h; cases h) hk
  exact ⟨_, _, retI X hx hret hd hr, hrun, hended, _, _, rfl, by show Q _ T.heap _; rw [eT]; exact hq, ⟨_, rfl⟩, hW, hsame.mono hc hs⟩
theorem OFin.outN {t : FieldType} (X : Stand p l e R s m args below meth c T locs cells slots) (hx : p.tables.exec = Jvm.exec) (hret : meth.sig.returnType = some t) (ht : t = .boolean ∨ t = .byte ∨ t = .char ∨ t = .short) (hk : meth.locks = false) (hd : decode c.code pc = .ok (.ireturn, 1)) (hc : cells ≤ k) (hs : slots ≤ n) (eT : T.heap = h) (hq : Q (some (.int (nar t z))) h locs) :
    OFin p e below s k n Q (T.setTop (mkF m pc Ls (.int z :: rest))) := by
  obtain ⟨fs, hr, hrun, hended, hW, hsame⟩ := X.leave (v := some (.int (nar t z))) (fun h => by rw [hret] at h; cases h) hk
  exact ⟨_, _, retN X hx hret ht hd hr, hrun, hended, _, _, rfl, by show Q _ T.heap _; rw [eT]; exact hq, ⟨_, rfl⟩, hW, hsame.mono hc hs⟩
theorem OFin.outA {t : FieldType} {w : Value} (X : Stand p l e R s m args below meth c T locs cells slots) (hx : p.tables.exec = Jvm.exec) (hret : meth.sig.returnType = some t) (ht : t.isReference = true) (hn : narrow t w = w) (hw : w.isRef = true) (hk : meth.locks = false) (hd : decode c.code pc = .ok (.areturn, 1)) (hc : cells ≤ k) (hs : slots ≤ n) (eT : T.heap = h) (hq : Q (some w) h locs) :
    OFin p e below s k n Q (T.setTop (mkF m pc Ls (w :: rest))) := by
  obtain ⟨fs, hr, hrun, hended, hW, hsame⟩ := X.leave (v := some w) (fun h => by rw [hret] at h; cases h) hk
  exact ⟨_, _, retOut X hx hret hn (Or.inr (Or.inr (Or.inr (Or.inr ⟨rfl, ht, hw⟩)))) hd hr, hrun, hended, _, _, rfl, by show Q _ T.heap _; rw [eT]; exact hq, ⟨_, rfl⟩, hW, hsame.mono hc hs⟩
theorem OFin.outJ {w : Int64} (X : Stand p l e R s m args below meth c T locs cells slots) (hx : p.tables.exec = Jvm.exec) (hret : meth.sig.returnType = some .long) (hk : meth.locks = false) (hd : decode c.code pc = .ok (.lreturn, 1)) (hc : cells ≤ k) (hs : slots ≤ n) (eT : T.heap = h) (hq : Q (some (.long w)) h locs) :
    OFin p e below s k n Q (T.setTop (mkF m pc Ls (.long w :: rest))) := by
  obtain ⟨fs, hr, hrun, hended, hW, hsame⟩ := X.leave (v := some (.long w)) (fun h => by rw [hret] at h; cases h) hk
  exact ⟨_, _, retOut X hx hret rfl (Or.inr (Or.inl ⟨rfl, rfl, _, rfl⟩)) hd hr, hrun, hended, _, _, rfl, by show Q _ T.heap _; rw [eT]; exact hq, ⟨_, rfl⟩, hW, hsame.mono hc hs⟩
theorem OFin.outV (X : Stand p l e R s m args below meth c T locs cells slots) (hx : p.tables.exec = Jvm.exec) (hret : meth.sig.returnType = none) (hk : meth.locks = false) (hd : decode c.code pc = .ok (.return_, 1)) (hc : cells ≤ k) (hs : slots ≤ n) (eT : T.heap = h) (hq : Q none h locs) :
    OFin p e below s k n Q (T.setTop (mkF m pc Ls [])) := by
  obtain ⟨fs, hr, hrun, hended, hW, hsame⟩ := X.leave (v := none) (fun _ => rfl) hk
  exact ⟨_, _, X.returnOut hx hret hd hr, hrun, hended, _, _, rfl, by show Q _ T.heap _; rw [eT]; exact hq, ⟨_, rfl⟩, hW, hsame.mono hc hs⟩
end New
end Jvm.RoadKit
namespace Jvm.Pilot.@@N@@
open Jvm Jvm.ClassFile Sem Op Lib Jvm.Free Jvm.Stand Jvm.LawKit Jvm.RoadKit Bundle Jvm.Pilot.@@N@@.Jvm.D

theorem own_fldI {Z : State} {args : Array Value} {t : Term} {a : Addr} {C n d : String} {k : Int32} (ht : t.eval args Z none [] Z = some (.ref a)) (h : (Jvm.Cond.eq (Jvm.Term.field t C n d) (Jvm.Term.int k)).value args Z none Z [] = some true) : Fld Z Z.heap a C n d (.int k) := by
  exact Fld.start ((fld_at ht).symm.trans (eqv_i (F := Jvm.Term.int k) rfl h))

theorem own_ne {a b n : Nat} (h : a < n) (g : b = n) : a ≠ b := by omega
theorem own_sta {Z : State} {C n d : String} {v : Value} {k : Nat} {h : Heap} (S : Sta Z Z.heap C n d v) (O : Old Z k h) : Sta Z h C n d v := S.ext O.2
theorem own_len {s : State} {args : Array Value} {t : Term} {a : Addr} {cl : Cell} {n : Int32} (ht : t.eval args s none [] s = some (.ref a)) (ha : s.arrayAt? a = some cl) (h : (Jvm.Term.length t).eval args s none [] s = some (.int n)) : cl.slots.size < 2 ^ 31 ∧ cl.slots.size.toInt32 = n := by
  by_cases q : cl.slots.size < 2 ^ 31
  · rw [len_f ht ha q] at h
    exact ⟨q, Value.int.inj (Option.some.inj h)⟩
  · simp [Term.eval, ht, ha, q] at h
theorem own_or {args : Array Value} {Z : State} {idx : List Nat} {G X : Jvm.Cond} {P : Prop} [Decidable P] (hG : G.value args Z none Z idx = some (decide P)) (h : (Jvm.Cond.or G X).value args Z none Z idx = some true) : P ∨ X.value args Z none Z idx = some true := by
  by_cases q : P
  · exact Or.inl q
  · right
    simpa [Cond.value, hG, q] using h
theorem own_all3 {args : Array Value} {Z : State} {t : Term} {a : Addr} {cl : Cell} {lo hi c : Int32} (et : ∀ idx, t.eval args Z none idx Z = some (.ref a)) (ha : Z.arrayAt? a = some cl) (h : (Jvm.Cond.all t (Jvm.Cond.or (Jvm.Cond.lt (Jvm.Term.index 0) (Jvm.Term.int lo)) (Jvm.Cond.or (Jvm.Cond.le (Jvm.Term.int hi) (Jvm.Term.index 0)) (Jvm.Cond.eq (Jvm.Term.elem t (Jvm.Term.index 0)) (Jvm.Term.int c))))).value args Z none Z [] = some true)
    {j : Int32} (nn : ¬ j < 0) (hj : j.toNatClampNeg < cl.slots.size) : j.toInt < lo.toInt ∨ hi.toInt ≤ j.toInt ∨ cl.slots[j.toNatClampNeg]? = some (.int c) := by
  have u := Cond.all_elim (et []) ha h _ hj
  rcases own_or (Cond.lt_ints (idx_at nn) rfl) u with q | u
  · exact Or.inl (Int32.lt_iff_toInt_lt.mp q)
  rcases own_or (Cond.le_ints rfl (idx_at nn)) u with q | u
  · exact Or.inr (Or.inl (Int32.le_iff_toInt_le.mp q))
  · right; right
    rw [← elem_f (et _) (idx_at nn) ha nn]
    exact eqv_i rfl u
theorem own_all2 {args : Array Value} {Z : State} {t : Term} {a : Addr} {cl : Cell} {lo c : Int32} (et : ∀ idx, t.eval args Z none idx Z = some (.ref a)) (ha : Z.arrayAt? a = some cl) (h : (Jvm.Cond.all t (Jvm.Cond.or (Jvm.Cond.lt (Jvm.Term.index 0) (Jvm.Term.int lo)) (Jvm.Cond.eq (Jvm.Term.elem t (Jvm.Term.index 0)) (Jvm.Term.int c)))).value args Z none Z [] = some true)
    {j : Int32} (nn : ¬ j < 0) (hj : j.toNatClampNeg < cl.slots.size) : j.toInt < lo.toInt ∨ cl.slots[j.toNatClampNeg]? = some (.int c) := by
  have u := Cond.all_elim (et []) ha h _ hj
  rcases own_or (Cond.lt_ints (idx_at nn) rfl) u with q | u
  · exact Or.inl (Int32.lt_iff_toInt_lt.mp q)
  · right
    rw [← elem_f (et _) (idx_at nn) ha nn]
    exact eqv_i rfl u
theorem own_el {args : Array Value} {Z : State} {t : Term} {a : Addr} {cl : Cell} {k c : Int32} (et : ∀ idx, t.eval args Z none idx Z = some (.ref a)) (ha : Z.arrayAt? a = some cl) (nn : ¬ k < 0) (h : (Jvm.Cond.eq (Jvm.Term.elem t (Jvm.Term.int k)) (Jvm.Term.int c)).value args Z none Z [] = some true) {j : Int32} (e : j.toInt = k.toInt) : cl.slots[j.toNatClampNeg]? = some (.int c) := by
  rw [Int32.toInt_inj.mp e, ← elem_f (t := t) (a := Jvm.Term.int k) (et _) rfl ha nn]
  exact eqv_i rfl h
theorem own_m255 (x : Int32) : ¬ (x &&& (255 : Int32)) < 0 ∧ (x &&& (255 : Int32)) < 256 := by
  have h := c_mask x 255 8 (by decide) (by decide)
  have a1 : (0 : Int32).toInt = 0 := by decide
  have a2 : (256 : Int32).toInt = 256 := by decide
  rw [Int32.lt_iff_toInt_lt, Int32.lt_iff_toInt_lt, a1, a2]
  omega
def own_sel (x0 x1 x2 x3 j : Int32) : Int32 := if j = 0 then x0 else if j = 1 then x1 else if j = 2 then x2 else x3
theorem own_selAt {x0 x1 x2 x3 j : Int32} (h : ¬ j < 0 ∧ j < (4 : Int32)) : [Value.int x0, .int x1, .int x2, .int x3].getD j.toNatClampNeg (.int 0) = .int (own_sel x0 x1 x2 x3 j) := by
  have a1 : (0 : Int32).toInt = 0 := by decide
  have a4 : (4 : Int32).toInt = 4 := by decide
  have h1 := nat_of h.1
  have h2 := h.2
  rw [Int32.lt_iff_toInt_lt, a4] at h2
  have hc : j = 0 ∨ j = 1 ∨ j = 2 ∨ j = 3 := by
    have b1 : (1 : Int32).toInt = 1 := by decide
    have b2 : (2 : Int32).toInt = 2 := by decide
    have b3 : (3 : Int32).toInt = 3 := by decide
    rw [← Int32.toInt_inj, ← Int32.toInt_inj, ← Int32.toInt_inj, ← Int32.toInt_inj, a1, b1, b2, b3]
    omega
  rcases hc with rfl | rfl | rfl | rfl <;> rfl
theorem own_256 {n : Nat} (h : n < 2 ^ 31) (e : n.toInt32 = 256) : n = 256 := by
  have h1 := len_toInt h
  rw [e] at h1
  have a2 : (256 : Int32).toInt = 256 := by decide
  omega
def own_kind (j : Int32) : Int32 := if j.toInt = 0 then 0 else if j.toInt < 32 then 16 else if j.toInt < 46 then 0 else if j.toInt = 46 then 6 else if j.toInt = 47 then 5 else if j.toInt < 58 then 0 else if j.toInt = 58 then 16 else if j.toInt = 59 then 6 else if j.toInt = 60 then 8 else if j.toInt = 61 then 0 else if j.toInt = 62 then 8 else if j.toInt = 63 then 0 else if j.toInt = 64 then 16 else if j.toInt < 91 then 0 else if j.toInt = 91 then 6 else if j.toInt = 92 then 32 else if j.toInt < 192 then 0 else if j.toInt = 192 then 16 else 0
theorem own_brng (x : Int32) : -128 ≤ (nar .byte x).toInt ∧ (nar .byte x).toInt < 128 := (c_i2b x).2
theorem own_b1 {i en : Int32} (h0 : 0 ≤ i.toInt) (h : i < en) (h4 : en.toInt ≤ 4) : 0 ≤ (i + (1 : Int32)).toInt := by
  have h2 := c_iadd i 1
  have h3 := rng32 (i + 1)
  have a1 : (1 : Int32).toInt = 1 := by decide
  rw [Int32.lt_iff_toInt_lt] at h
  omega
theorem own_b2 {i en : Int32} {k : Nat} (h0 : 0 ≤ i.toInt) (h : i < en) (h4 : en.toInt ≤ 4) (hk : en.toInt - i.toInt ≤ ((k + 1 : Nat) : Int)) : en.toInt - (i + (1 : Int32)).toInt ≤ (k : Int) := by
  have h2 := c_iadd i 1
  have h3 := rng32 (i + 1)
  have a1 : (1 : Int32).toInt = 1 := by decide
  rw [Int32.lt_iff_toInt_lt] at h
  omega
theorem own_b3 {i en : Int32} (h0 : 0 ≤ i.toInt) (h : i < en) (h4 : en.toInt ≤ 4) : ¬ i < 0 ∧ i < (4 : Int32) := by
  have a0 : (0 : Int32).toInt = 0 := by decide
  have a4 : (4 : Int32).toInt = 4 := by decide
  rw [Int32.lt_iff_toInt_lt] at h
  rw [Int32.lt_iff_toInt_lt, Int32.lt_iff_toInt_lt, a0, a4]
  omega
theorem own_l1 (x : Int32) : 0 ≤ ((x &&& (7 : Int32)) % (5 : Int32)).toInt ∧ ((x &&& (7 : Int32)) % (5 : Int32)).toInt ≤ 4 := by
  have h := c_mask x 7 3 (by decide) (by decide)
  have h2 : ((x &&& (7 : Int32)) % (5 : Int32)).toInt = (x &&& (7 : Int32)).toInt.tmod (5 : Int32).toInt := Int32.toInt_mod _ _
  have h3 : (5 : Int32).toInt = 5 := by decide
  have h7 : 0 ≤ (x &&& (7 : Int32)).toInt := by rw [h]; omega
  rw [h3, Int.tmod_eq_emod_of_nonneg h7] at h2
  omega
theorem own_5s {v : Int32} (h : 0 ≤ v.toInt ∧ v.toInt ≤ 4) : ((5 : Int32) - v).toInt = 5 - v.toInt := by
  have h2 := c_isub 5 v
  have h3 := rng32 (5 - v)
  have a5 : (5 : Int32).toInt = 5 := by decide
  omega
theorem own_l2 {v : Int32} (h : 0 ≤ v.toInt ∧ v.toInt ≤ 4) : (5 : Int32) - v ≠ 0 := fun q => by
  have h1 := own_5s h
  have a0 : (0 : Int32).toInt = 0 := by decide
  rw [q, a0] at h1
  omega
theorem own_l3 {v : Int32} (y : Int32) (h : 0 ≤ v.toInt ∧ v.toInt ≤ 4) : v.toInt ≤ (v + ((y &&& (7 : Int32)) % ((5 : Int32) - v))).toInt ∧ (v + ((y &&& (7 : Int32)) % ((5 : Int32) - v))).toInt ≤ 4 := by
  have h1 := own_5s h
  have h0 := c_mask y 7 3 (by decide) (by decide)
  have h2 : ((y &&& (7 : Int32)) % ((5 : Int32) - v)).toInt = (y &&& (7 : Int32)).toInt.tmod ((5 : Int32) - v).toInt := Int32.toInt_mod _ _
  have h7 : 0 ≤ (y &&& (7 : Int32)).toInt := by rw [h0]; omega
  rw [h1, Int.tmod_eq_emod_of_nonneg h7] at h2
  have g1 := Int.emod_nonneg (y &&& (7 : Int32)).toInt (b := 5 - v.toInt) (by omega)
  have g2 := Int.emod_lt_of_pos (y &&& (7 : Int32)).toInt (b := 5 - v.toInt) (by omega)
  have g3 := c_iadd v ((y &&& (7 : Int32)) % ((5 : Int32) - v))
  have g4 := rng32 (v + ((y &&& (7 : Int32)) % ((5 : Int32) - v)))
  omega
theorem d1_0 : decode method_3_code 0 = .ok (.iload_n 0, 1) := by decide +kernel
theorem d1_1 : decode method_3_code 1 = .ok (.bipush 46, 2) := by decide +kernel
theorem d1_3 : decode method_3_code 3 = .ok (.if_icmp .eq 15, 3) := by decide +kernel
theorem d1_6 : decode method_3_code 6 = .ok (.iload_n 0, 1) := by decide +kernel
theorem d1_7 : decode method_3_code 7 = .ok (.bipush 59, 2) := by decide +kernel
theorem d1_9 : decode method_3_code 9 = .ok (.if_icmp .eq 9, 3) := by decide +kernel
theorem d1_12 : decode method_3_code 12 = .ok (.iload_n 0, 1) := by decide +kernel
theorem d1_13 : decode method_3_code 13 = .ok (.bipush 91, 2) := by decide +kernel
theorem d1_15 : decode method_3_code 15 = .ok (.if_icmp .ne 7, 3) := by decide +kernel
theorem d1_18 : decode method_3_code 18 = .ok (.iconst 1, 1) := by decide +kernel
theorem d1_19 : decode method_3_code 19 = .ok (.goto 4, 3) := by decide +kernel
theorem d1_22 : decode method_3_code 22 = .ok (.iconst 0, 1) := by decide +kernel
theorem d1_23 : decode method_3_code 23 = .ok (.ireturn, 1) := by decide +kernel
theorem pn1 : plainName "com/example/bytelore/bytelore/classfile/NamesBinaryNameEndPinLaw" = true := by first | (simp [plainName, overriddenIn]; done) | decide +kernel
theorem ef1 (m : MethodId) (x0 : Int32) : entryFrame m #[(.int x0)] 1 = mkF m 0 #[.val (.int x0)] [] := by first | (simp [entryFrame, mkF, argsToLocals, Value.category]; done) | rfl
def own_stops (x0 : Int32) : Int32 := (if x0 = (46 : Int32) then (1 : Int32) else (if x0 = (59 : Int32) then (1 : Int32) else (if x0 = (91 : Int32) then (1 : Int32) else (0 : Int32))))
def Q1 (Z : State) (x0 : Int32) (h0 : Heap) (n0 : Nat) (v : Option Value) (h : Heap) (L : List Loc) : Prop := v = some (.int (own_stops x0)) ∧ Fr n0 L ∧ h = h0
set_option maxRecDepth 65536 in
set_option maxHeartbeats 40000000 in
theorem rm1 (l : Launch) (Z : State) (a0 : Array Value) (hw : ∀ d ∈ tables_1, d.before a0 Z = true) (ws : List Jvm.Cond) (x0 : Int32) (h0 : Heap) (n0 : Nat) (Z0 : n0 ≤ h0.size) :
    MetFree l (⟨"com/example/bytelore/bytelore/classfile/NamesBinaryNameEndPinLaw", "stops", "(B)Z"⟩ : MethodName) (head1 (Jvm.Cond.code (⟨"com/example/bytelore/bytelore/classfile/NamesBinaryNameEndPinLaw", "stops", "(B)Z"⟩ : MethodName) method_3_code 1 (some .boolean) :: ws) ({ frames := 0, cells := 0, slots := 0, locals := 0 } : Room)) (fun ar_ U => ar_ = #[(.int x0)] ∧ Z.Warmed39 U.vm ∧ U.heap = h0) (fun _ _ _ _ _ => True) (fun _ U o U' => ∃ v L, o = .returned v ∧ Q1 Z x0 h0 n0 v U'.heap L ∧ FrameEnd U o U' L ({ frames := 0, cells := 0, slots := 0, locals := 0 } : Room).cells ({ frames := 0, cells := 0, slots := 0, locals := 0 } : Room).slots) := by
  refine MetFree.of_bodySF (plainFor_of_name pn1) hisR ?_
  intro p e s m args below meth c s₁ Bd hml0 hP hK
  obtain ⟨rfl, hZ, hh⟩ := hP
  have hx := Bd.exec
  have hby := Bd.bytes
  have hml : c.maxLocals = 1 := hml0
  have hown : s.vm.findClass "com/example/bytelore/bytelore/classfile/NamesBinaryNameEndPinLaw" = some m.cls := findClass_of_methodNamed Bd.named
  have hnm := (name_of_methodNamed Bd.named Bd.method).1
  have X0 : Stand p l e ({ frames := 0, cells := 0, slots := 0, locals := 0 } : Room) s m #[(.int x0)] below meth c s₁ [] 0 0 := Stand.of_body Bd
  have e0 : s₁.heap = h0 := by rw [← hh, Bd.state]; rfl
  have N0 := Fr.nil n0
  show OFin p e below s _ _ (Q1 Z x0 h0 n0) (s₁.setTop (entryFrame m #[(.int x0)] 1))
  rw [ef1]
  obtain ⟨Q, hQ⟩ : ∃ Q, Q = Q1 Z x0 h0 n0 := ⟨_, rfl⟩
  rw [← hQ]
  show OFin p e below s _ _ Q (s₁.setTop (mkF m 0 #[.val (.int x0)] []))
  refine OFin.back (fun _ hr => XS.iloadN X0.here hx rfl (hb hby d1_0) rfl hr) ?_
  show OFin p e below s _ _ Q (s₁.setTop (mkF m 1 #[.val (.int x0)] [(.int x0)]))
  refine OFin.back (fun _ hr => XS.bipush X0.here hx rfl (hb hby d1_1) hr) ?_
  show OFin p e below s _ _ Q (s₁.setTop (mkF m 3 #[.val (.int x0)] [(.int (46 : Int32)), (.int x0)]))
  by_cases hc3_1 : x0 = (46 : Int32)
  · -- x0 = (46 : Int32)
    refine OFin.back (fun _ hr => XS.icmpYes X0.here hx rfl (pc0 := 3) (pc' := 18) rfl (hb hby d1_3) rfl (teq hc3_1).1 (by decide) (by decide) hr) ?_
    show OFin p e below s _ _ Q (s₁.setTop (mkF m 18 #[.val (.int x0)] []))
    refine OFin.back (fun _ hr => XS.iconst X0.here hx rfl (hb hby d1_18) hr) ?_
    show OFin p e below s _ _ Q (s₁.setTop (mkF m 19 #[.val (.int x0)] [(.int (1 : Int32))]))
    refine OFin.back (fun _ hr => XS.goto X0.here hx rfl (pc0 := 19) (pc' := 23) rfl (hb hby d1_19) (by decide) (by decide) hr) ?_
    show OFin p e below s _ _ Q (s₁.setTop (mkF m 23 #[.val (.int x0)] [(.int (1 : Int32))]))
    exact OFin.outN (t := .boolean) X0 hx Bd.returns (by simp) Bd.notSynchronized (hb hby d1_23) (by decide) (by decide) e0 (by rw [hQ]; exact ⟨by rw [own_stops, if_pos hc3_1]; try rfl, N0, rfl⟩)
  · -- not x0 = (46 : Int32)
    refine OFin.back (fun _ hr => XS.icmpNo X0.here hx rfl (hb hby d1_3) rfl (feq hc3_1).1 hr) ?_
    show OFin p e below s _ _ Q (s₁.setTop (mkF m 6 #[.val (.int x0)] []))
    refine OFin.back (fun _ hr => XS.iloadN X0.here hx rfl (hb hby d1_6) rfl hr) ?_
    show OFin p e below s _ _ Q (s₁.setTop (mkF m 7 #[.val (.int x0)] [(.int x0)]))
    refine OFin.back (fun _ hr => XS.bipush X0.here hx rfl (hb hby d1_7) hr) ?_
    show OFin p e below s _ _ Q (s₁.setTop (mkF m 9 #[.val (.int x0)] [(.int (59 : Int32)), (.int x0)]))
    by_cases hc9_2 : x0 = (59 : Int32)
    · -- x0 = (59 : Int32)
      refine OFin.back (fun _ hr => XS.icmpYes X0.here hx rfl (pc0 := 9) (pc' := 18) rfl (hb hby d1_9) rfl (teq hc9_2).1 (by decide) (by decide) hr) ?_
      show OFin p e below s _ _ Q (s₁.setTop (mkF m 18 #[.val (.int x0)] []))
      refine OFin.back (fun _ hr => XS.iconst X0.here hx rfl (hb hby d1_18) hr) ?_
      show OFin p e below s _ _ Q (s₁.setTop (mkF m 19 #[.val (.int x0)] [(.int (1 : Int32))]))
      refine OFin.back (fun _ hr => XS.goto X0.here hx rfl (pc0 := 19) (pc' := 23) rfl (hb hby d1_19) (by decide) (by decide) hr) ?_
      show OFin p e below s _ _ Q (s₁.setTop (mkF m 23 #[.val (.int x0)] [(.int (1 : Int32))]))
      exact OFin.outN (t := .boolean) X0 hx Bd.returns (by simp) Bd.notSynchronized (hb hby d1_23) (by decide) (by decide) e0 (by rw [hQ]; exact ⟨by rw [own_stops, if_neg hc3_1, if_pos hc9_2]; try rfl, N0, rfl⟩)
    · -- not x0 = (59 : Int32)
      refine OFin.back (fun _ hr => XS.icmpNo X0.here hx rfl (hb hby d1_9) rfl (feq hc9_2).1 hr) ?_
      show OFin p e below s _ _ Q (s₁.setTop (mkF m 12 #[.val (.int x0)] []))
      refine OFin.back (fun _ hr => XS.iloadN X0.here hx rfl (hb hby d1_12) rfl hr) ?_
      show OFin p e below s _ _ Q (s₁.setTop (mkF m 13 #[.val (.int x0)] [(.int x0)]))
      refine OFin.back (fun _ hr => XS.bipush X0.here hx rfl (hb hby d1_13) hr) ?_
      show OFin p e below s _ _ Q (s₁.setTop (mkF m 15 #[.val (.int x0)] [(.int (91 : Int32)), (.int x0)]))
      by_cases hc15_3 : x0 = (91 : Int32)
      · -- x0 = (91 : Int32)
        refine OFin.back (fun _ hr => XS.icmpNo X0.here hx rfl (hb hby d1_15) rfl (teq hc15_3).2 hr) ?_
        show OFin p e below s _ _ Q (s₁.setTop (mkF m 18 #[.val (.int x0)] []))
        refine OFin.back (fun _ hr => XS.iconst X0.here hx rfl (hb hby d1_18) hr) ?_
        show OFin p e below s _ _ Q (s₁.setTop (mkF m 19 #[.val (.int x0)] [(.int (1 : Int32))]))
        refine OFin.back (fun _ hr => XS.goto X0.here hx rfl (pc0 := 19) (pc' := 23) rfl (hb hby d1_19) (by decide) (by decide) hr) ?_
        show OFin p e below s _ _ Q (s₁.setTop (mkF m 23 #[.val (.int x0)] [(.int (1 : Int32))]))
        exact OFin.outN (t := .boolean) X0 hx Bd.returns (by simp) Bd.notSynchronized (hb hby d1_23) (by decide) (by decide) e0 (by rw [hQ]; exact ⟨by rw [own_stops, if_neg hc3_1, if_neg hc9_2, if_pos hc15_3]; try rfl, N0, rfl⟩)
      · -- not x0 = (91 : Int32)
        refine OFin.back (fun _ hr => XS.icmpYes X0.here hx rfl (pc0 := 15) (pc' := 22) rfl (hb hby d1_15) rfl (feq hc15_3).2 (by decide) (by decide) hr) ?_
        show OFin p e below s _ _ Q (s₁.setTop (mkF m 22 #[.val (.int x0)] []))
        refine OFin.back (fun _ hr => XS.iconst X0.here hx rfl (hb hby d1_22) hr) ?_
        show OFin p e below s _ _ Q (s₁.setTop (mkF m 23 #[.val (.int x0)] [(.int (0 : Int32))]))
        exact OFin.outN (t := .boolean) X0 hx Bd.returns (by simp) Bd.notSynchronized (hb hby d1_23) (by decide) (by decide) e0 (by rw [hQ]; exact ⟨by rw [own_stops, if_neg hc3_1, if_neg hc9_2, if_neg hc15_3]; try rfl, N0, rfl⟩)
theorem d2_0 : decode method_4_code 0 = .ok (.iload_n 0, 1) := by decide +kernel
theorem d2_1 : decode method_4_code 1 = .ok (.bipush 47, 2) := by decide +kernel
theorem d2_3 : decode method_4_code 3 = .ok (.if_icmp .ne 7, 3) := by decide +kernel
theorem d2_6 : decode method_4_code 6 = .ok (.iconst 1, 1) := by decide +kernel
theorem d2_7 : decode method_4_code 7 = .ok (.goto 4, 3) := by decide +kernel
theorem d2_10 : decode method_4_code 10 = .ok (.iconst 0, 1) := by decide +kernel
theorem d2_11 : decode method_4_code 11 = .ok (.ireturn, 1) := by decide +kernel
theorem pn2 : plainName "com/example/bytelore/bytelore/classfile/NamesBinaryNameEndPinLaw" = true := by first | (simp [plainName, overriddenIn]; done) | decide +kernel
theorem ef2 (m : MethodId) (x0 : Int32) : entryFrame m #[(.int x0)] 1 = mkF m 0 #[.val (.int x0)] [] := by first | (simp [entryFrame, mkF, argsToLocals, Value.category]; done) | rfl
def own_slash (x0 : Int32) : Int32 := (if x0 = (47 : Int32) then (1 : Int32) else (0 : Int32))
def Q2 (Z : State) (x0 : Int32) (h0 : Heap) (n0 : Nat) (v : Option Value) (h : Heap) (L : List Loc) : Prop := v = some (.int (own_slash x0)) ∧ Fr n0 L ∧ h = h0
set_option maxRecDepth 65536 in
set_option maxHeartbeats 40000000 in
theorem rm2 (l : Launch) (Z : State) (a0 : Array Value) (hw : ∀ d ∈ tables_1, d.before a0 Z = true) (ws : List Jvm.Cond) (x0 : Int32) (h0 : Heap) (n0 : Nat) (Z0 : n0 ≤ h0.size) :
    MetFree l (⟨"com/example/bytelore/bytelore/classfile/NamesBinaryNameEndPinLaw", "slash", "(B)Z"⟩ : MethodName) (head1 (Jvm.Cond.code (⟨"com/example/bytelore/bytelore/classfile/NamesBinaryNameEndPinLaw", "slash", "(B)Z"⟩ : MethodName) method_4_code 1 (some .boolean) :: ws) ({ frames := 0, cells := 0, slots := 0, locals := 0 } : Room)) (fun ar_ U => ar_ = #[(.int x0)] ∧ Z.Warmed39 U.vm ∧ U.heap = h0) (fun _ _ _ _ _ => True) (fun _ U o U' => ∃ v L, o = .returned v ∧ Q2 Z x0 h0 n0 v U'.heap L ∧ FrameEnd U o U' L ({ frames := 0, cells := 0, slots := 0, locals := 0 } : Room).cells ({ frames := 0, cells := 0, slots := 0, locals := 0 } : Room).slots) := by
  refine MetFree.of_bodySF (plainFor_of_name pn2) hisR ?_
  intro p e s m args below meth c s₁ Bd hml0 hP hK
  obtain ⟨rfl, hZ, hh⟩ := hP
  have hx := Bd.exec
  have hby := Bd.bytes
  have hml : c.maxLocals = 1 := hml0
  have hown : s.vm.findClass "com/example/bytelore/bytelore/classfile/NamesBinaryNameEndPinLaw" = some m.cls := findClass_of_methodNamed Bd.named
  have hnm := (name_of_methodNamed Bd.named Bd.method).1
  have X0 : Stand p l e ({ frames := 0, cells := 0, slots := 0, locals := 0 } : Room) s m #[(.int x0)] below meth c s₁ [] 0 0 := Stand.of_body Bd
  have e0 : s₁.heap = h0 := by rw [← hh, Bd.state]; rfl
  have N0 := Fr.nil n0
  show OFin p e below s _ _ (Q2 Z x0 h0 n0) (s₁.setTop (entryFrame m #[(.int x0)] 1))
  rw [ef2]
  obtain ⟨Q, hQ⟩ : ∃ Q, Q = Q2 Z x0 h0 n0 := ⟨_, rfl⟩
  rw [← hQ]
  show OFin p e below s _ _ Q (s₁.setTop (mkF m 0 #[.val (.int x0)] []))
  refine OFin.back (fun _ hr => XS.iloadN X0.here hx rfl (hb hby d2_0) rfl hr) ?_
  show OFin p e below s _ _ Q (s₁.setTop (mkF m 1 #[.val (.int x0)] [(.int x0)]))
  refine OFin.back (fun _ hr => XS.bipush X0.here hx rfl (hb hby d2_1) hr) ?_
  show OFin p e below s _ _ Q (s₁.setTop (mkF m 3 #[.val (.int x0)] [(.int (47 : Int32)), (.int x0)]))
  by_cases hc3_1 : x0 = (47 : Int32)
  · -- x0 = (47 : Int32)
    refine OFin.back (fun _ hr => XS.icmpNo X0.here hx rfl (hb hby d2_3) rfl (teq hc3_1).2 hr) ?_
    show OFin p e below s _ _ Q (s₁.setTop (mkF m 6 #[.val (.int x0)] []))
    refine OFin.back (fun _ hr => XS.iconst X0.here hx rfl (hb hby d2_6) hr) ?_
    show OFin p e below s _ _ Q (s₁.setTop (mkF m 7 #[.val (.int x0)] [(.int (1 : Int32))]))
    refine OFin.back (fun _ hr => XS.goto X0.here hx rfl (pc0 := 7) (pc' := 11) rfl (hb hby d2_7) (by decide) (by decide) hr) ?_
    show OFin p e below s _ _ Q (s₁.setTop (mkF m 11 #[.val (.int x0)] [(.int (1 : Int32))]))
    exact OFin.outN (t := .boolean) X0 hx Bd.returns (by simp) Bd.notSynchronized (hb hby d2_11) (by decide) (by decide) e0 (by rw [hQ]; exact ⟨by rw [own_slash, if_pos hc3_1]; try rfl, N0, rfl⟩)
  · -- not x0 = (47 : Int32)
    refine OFin.back (fun _ hr => XS.icmpYes X0.here hx rfl (pc0 := 3) (pc' := 10) rfl (hb hby d2_3) rfl (feq hc3_1).2 (by decide) (by decide) hr) ?_
    show OFin p e below s _ _ Q (s₁.setTop (mkF m 10 #[.val (.int x0)] []))
    refine OFin.back (fun _ hr => XS.iconst X0.here hx rfl (hb hby d2_10) hr) ?_
    show OFin p e below s _ _ Q (s₁.setTop (mkF m 11 #[.val (.int x0)] [(.int (0 : Int32))]))
    exact OFin.outN (t := .boolean) X0 hx Bd.returns (by simp) Bd.notSynchronized (hb hby d2_11) (by decide) (by decide) e0 (by rw [hQ]; exact ⟨by rw [own_slash, if_neg hc3_1]; try rfl, N0, rfl⟩)
theorem d3_0 : decode method_5_code 0 = .ok (.iload_n 1, 1) := by decide +kernel
theorem d3_1 : decode method_5_code 1 = .ok (.ifCond .gt 19, 3) := by decide +kernel
theorem d3_4 : decode method_5_code 4 = .ok (.iconst 0, 1) := by decide +kernel
theorem d3_5 : decode method_5_code 5 = .ok (.iload_n 2, 1) := by decide +kernel
theorem d3_6 : decode method_5_code 6 = .ok (.if_icmp .ge 14, 3) := by decide +kernel
theorem d3_9 : decode method_5_code 9 = .ok (.aload_n 0, 1) := by decide +kernel
theorem d3_10 : decode method_5_code 10 = .ok (.iconst 0, 1) := by decide +kernel
theorem d3_11 : decode method_5_code 11 = .ok (.baload, 1) := by decide +kernel
theorem d3_12 : decode method_5_code 12 = .ok (.invokestatic 18, 3) := by decide +kernel
theorem d3_15 : decode method_5_code 15 = .ok (.ifCond .eq 5, 3) := by decide +kernel
theorem d3_18 : decode method_5_code 18 = .ok (.iconst 0, 1) := by decide +kernel
theorem d3_19 : decode method_5_code 19 = .ok (.ireturn, 1) := by decide +kernel
theorem d3_20 : decode method_5_code 20 = .ok (.iload_n 1, 1) := by decide +kernel
theorem d3_21 : decode method_5_code 21 = .ok (.iconst 1, 1) := by decide +kernel
theorem d3_22 : decode method_5_code 22 = .ok (.if_icmp .gt 19, 3) := by decide +kernel
theorem d3_25 : decode method_5_code 25 = .ok (.iconst 1, 1) := by decide +kernel
theorem d3_26 : decode method_5_code 26 = .ok (.iload_n 2, 1) := by decide +kernel
theorem d3_27 : decode method_5_code 27 = .ok (.if_icmp .ge 14, 3) := by decide +kernel
theorem d3_30 : decode method_5_code 30 = .ok (.aload_n 0, 1) := by decide +kernel
theorem d3_31 : decode method_5_code 31 = .ok (.iconst 1, 1) := by decide +kernel
theorem d3_32 : decode method_5_code 32 = .ok (.baload, 1) := by decide +kernel
theorem d3_33 : decode method_5_code 33 = .ok (.invokestatic 18, 3) := by decide +kernel
theorem d3_36 : decode method_5_code 36 = .ok (.ifCond .eq 5, 3) := by decide +kernel
theorem d3_39 : decode method_5_code 39 = .ok (.iconst 1, 1) := by decide +kernel
theorem d3_40 : decode method_5_code 40 = .ok (.ireturn, 1) := by decide +kernel
theorem d3_41 : decode method_5_code 41 = .ok (.iload_n 1, 1) := by decide +kernel
theorem d3_42 : decode method_5_code 42 = .ok (.iconst 2, 1) := by decide +kernel
theorem d3_43 : decode method_5_code 43 = .ok (.if_icmp .gt 19, 3) := by decide +kernel
theorem d3_46 : decode method_5_code 46 = .ok (.iconst 2, 1) := by decide +kernel
theorem d3_47 : decode method_5_code 47 = .ok (.iload_n 2, 1) := by decide +kernel
theorem d3_48 : decode method_5_code 48 = .ok (.if_icmp .ge 14, 3) := by decide +kernel
theorem d3_51 : decode method_5_code 51 = .ok (.aload_n 0, 1) := by decide +kernel
theorem d3_52 : decode method_5_code 52 = .ok (.iconst 2, 1) := by decide +kernel
theorem d3_53 : decode method_5_code 53 = .ok (.baload, 1) := by decide +kernel
theorem d3_54 : decode method_5_code 54 = .ok (.invokestatic 18, 3) := by decide +kernel
theorem d3_57 : decode method_5_code 57 = .ok (.ifCond .eq 5, 3) := by decide +kernel
theorem d3_60 : decode method_5_code 60 = .ok (.iconst 2, 1) := by decide +kernel
theorem d3_61 : decode method_5_code 61 = .ok (.ireturn, 1) := by decide +kernel
theorem d3_62 : decode method_5_code 62 = .ok (.iload_n 1, 1) := by decide +kernel
theorem d3_63 : decode method_5_code 63 = .ok (.iconst 3, 1) := by decide +kernel
theorem d3_64 : decode method_5_code 64 = .ok (.if_icmp .gt 19, 3) := by decide +kernel
theorem d3_67 : decode method_5_code 67 = .ok (.iconst 3, 1) := by decide +kernel
theorem d3_68 : decode method_5_code 68 = .ok (.iload_n 2, 1) := by decide +kernel
theorem d3_69 : decode method_5_code 69 = .ok (.if_icmp .ge 14, 3) := by decide +kernel
theorem d3_72 : decode method_5_code 72 = .ok (.aload_n 0, 1) := by decide +kernel
theorem d3_73 : decode method_5_code 73 = .ok (.iconst 3, 1) := by decide +kernel
theorem d3_74 : decode method_5_code 74 = .ok (.baload, 1) := by decide +kernel
theorem d3_75 : decode method_5_code 75 = .ok (.invokestatic 18, 3) := by decide +kernel
theorem d3_78 : decode method_5_code 78 = .ok (.ifCond .eq 5, 3) := by decide +kernel
theorem d3_81 : decode method_5_code 81 = .ok (.iconst 3, 1) := by decide +kernel
theorem d3_82 : decode method_5_code 82 = .ok (.ireturn, 1) := by decide +kernel
theorem d3_83 : decode method_5_code 83 = .ok (.iload_n 2, 1) := by decide +kernel
theorem d3_84 : decode method_5_code 84 = .ok (.ireturn, 1) := by decide +kernel
theorem pn3 : plainName "com/example/bytelore/bytelore/classfile/NamesBinaryNameEndPinLaw" = true := by first | (simp [plainName, overriddenIn]; done) | decide +kernel
theorem pd3_0 : parseMethodDescriptor "(B)Z" = some ⟨[.byte], some .boolean⟩ := by decide +kernel
theorem ef3 (m : MethodId) (ba : Addr) (st : Int32) (en : Int32) : entryFrame m #[(.ref ba), (.int st), (.int en)] 3 = mkF m 0 #[.val (.ref ba), .val (.int st), .val (.int en)] [] := by first | (simp [entryFrame, mkF, argsToLocals, Value.category]; done) | rfl
def own_stop62 (b0 : Int32) (b1 : Int32) (b2 : Int32) (b3 : Int32) (st : Int32) (en : Int32) : Int32 := (if (3 : Int32) < st then en else (if (3 : Int32) < en then (if (own_stops b3) = (0 : Int32) then en else (3 : Int32)) else en))
def own_stop41 (b0 : Int32) (b1 : Int32) (b2 : Int32) (b3 : Int32) (st : Int32) (en : Int32) : Int32 := (if (2 : Int32) < st then (own_stop62 b0 b1 b2 b3 st en) else (if (2 : Int32) < en then (if (own_stops b2) = (0 : Int32) then (own_stop62 b0 b1 b2 b3 st en) else (2 : Int32)) else (own_stop62 b0 b1 b2 b3 st en)))
def own_stop20 (b0 : Int32) (b1 : Int32) (b2 : Int32) (b3 : Int32) (st : Int32) (en : Int32) : Int32 := (if (1 : Int32) < st then (own_stop41 b0 b1 b2 b3 st en) else (if (1 : Int32) < en then (if (own_stops b1) = (0 : Int32) then (own_stop41 b0 b1 b2 b3 st en) else (1 : Int32)) else (own_stop41 b0 b1 b2 b3 st en)))
def own_stop (b0 : Int32) (b1 : Int32) (b2 : Int32) (b3 : Int32) (st : Int32) (en : Int32) : Int32 := (if (0 : Int32) < st then (own_stop20 b0 b1 b2 b3 st en) else (if (0 : Int32) < en then (if (own_stops b0) = (0 : Int32) then (own_stop20 b0 b1 b2 b3 st en) else (0 : Int32)) else (own_stop20 b0 b1 b2 b3 st en)))
def Q3 (Z : State) (ba : Addr) (st : Int32) (en : Int32) (kb : ClassId) (b0 : Int32) (b1 : Int32) (b2 : Int32) (b3 : Int32) (h0 : Heap) (n0 : Nat) (v : Option Value) (h : Heap) (L : List Loc) : Prop := v = some (.int (own_stop b0 b1 b2 b3 st en)) ∧ Fr n0 L ∧ h = h0
set_option maxRecDepth 65536 in
set_option maxHeartbeats 40000000 in
theorem rm3 (l : Launch) (Z : State) (a0 : Array Value) (hw : ∀ d ∈ tables_1, d.before a0 Z = true) (ws : List Jvm.Cond) (ba : Addr) (st : Int32) (en : Int32) (kb : ClassId) (b0 : Int32) (b1 : Int32) (b2 : Int32) (b3 : Int32) (h0 : Heap) (n0 : Nat) (Z0 : n0 ≤ h0.size) (V0 : Arv Z h0 ba kb .byte (4 : Int32) [(.int b0), (.int b1), (.int b2), (.int b3)] (.int (0 : Int32))) :
    MetFree l (⟨"com/example/bytelore/bytelore/classfile/NamesBinaryNameEndPinLaw", "stop", "([BII)I"⟩ : MethodName) (head1 (Jvm.Cond.code (⟨"com/example/bytelore/bytelore/classfile/NamesBinaryNameEndPinLaw", "stop", "([BII)I"⟩ : MethodName) method_5_code 3 (some .int) :: ws) ({ frames := 1, cells := 0, slots := 0, locals := 12 } : Room)) (fun ar_ U => ar_ = #[(.ref ba), (.int st), (.int en)] ∧ Z.Warmed39 U.vm ∧ U.heap = h0) (fun _ _ _ _ _ => True) (fun _ U o U' => ∃ v L, o = .returned v ∧ Q3 Z ba st en kb b0 b1 b2 b3 h0 n0 v U'.heap L ∧ FrameEnd U o U' L ({ frames := 1, cells := 0, slots := 0, locals := 12 } : Room).cells ({ frames := 1, cells := 0, slots := 0, locals := 12 } : Room).slots) := by
  refine MetFree.of_bodySF (plainFor_of_name pn3) hisR ?_
  intro p e s m args below meth c s₁ Bd hml0 hP hK
  obtain ⟨rfl, hZ, hh⟩ := hP
  have hx := Bd.exec
  have hby := Bd.bytes
  have hml : c.maxLocals = 3 := hml0
  have hown : s.vm.findClass "com/example/bytelore/bytelore/classfile/NamesBinaryNameEndPinLaw" = some m.cls := findClass_of_methodNamed Bd.named
  have hnm := (name_of_methodNamed Bd.named Bd.method).1
  have X0 : Stand p l e ({ frames := 1, cells := 0, slots := 0, locals := 12 } : Room) s m #[(.ref ba), (.int st), (.int en)] below meth c s₁ [] 0 0 := Stand.of_body Bd
  have e0 : s₁.heap = h0 := by rw [← hh, Bd.state]; rfl
  have N0 := Fr.nil n0
  show OFin p e below s _ _ (Q3 Z ba st en kb b0 b1 b2 b3 h0 n0) (s₁.setTop (entryFrame m #[(.ref ba), (.int st), (.int en)] 3))
  rw [ef3]
  obtain ⟨Q, hQ⟩ : ∃ Q, Q = Q3 Z ba st en kb b0 b1 b2 b3 h0 n0 := ⟨_, rfl⟩
  rw [← hQ]
  show OFin p e below s _ _ Q (s₁.setTop (mkF m 0 #[.val (.ref ba), .val (.int st), .val (.int en)] []))
  have J62 : ∀ (TJ62 : State) (lJ62 : List Loc), Stand p l e ({ frames := 1, cells := 0, slots := 0, locals := 12 } : Room) s m #[(.ref ba), (.int st), (.int en)] below meth c TJ62 lJ62 0 0 → TJ62.heap = h0 → Fr n0 lJ62 → own_stop b0 b1 b2 b3 st en = own_stop62 b0 b1 b2 b3 st en → OFin p e below s ({ frames := 1, cells := 0, slots := 0, locals := 12 } : Room).cells ({ frames := 1, cells := 0, slots := 0, locals := 12 } : Room).slots Q (TJ62.setTop (mkF m 62 #[.val (.ref ba), .val (.int st), .val (.int en)] [])) := by
    intro TJ62 lJ62 XJ62 eJ62 NJ62 hJ62
    show OFin p e below s _ _ Q (TJ62.setTop (mkF m 62 #[.val (.ref ba), .val (.int st), .val (.int en)] []))
    refine OFin.back (fun _ hr => XS.iloadN XJ62.here hx rfl (hb hby d3_62) rfl hr) ?_
    show OFin p e below s _ _ Q (TJ62.setTop (mkF m 63 #[.val (.ref ba), .val (.int st), .val (.int en)] [(.int st)]))
    refine OFin.back (fun _ hr => XS.iconst XJ62.here hx rfl (hb hby d3_63) hr) ?_
    show OFin p e below s _ _ Q (TJ62.setTop (mkF m 64 #[.val (.ref ba), .val (.int st), .val (.int en)] [(.int (3 : Int32)), (.int st)]))
    by_cases hc64_1 : (3 : Int32) < st
    · -- (3 : Int32) < st
      refine OFin.back (fun _ hr => XS.icmpYes XJ62.here hx rfl (pc0 := 64) (pc' := 83) rfl (hb hby d3_64) rfl (tlt hc64_1).2.2.1 (by decide) (by decide) hr) ?_
      show OFin p e below s _ _ Q (TJ62.setTop (mkF m 83 #[.val (.ref ba), .val (.int st), .val (.int en)] []))
      refine OFin.back (fun _ hr => XS.iloadN XJ62.here hx rfl (hb hby d3_83) rfl hr) ?_
      show OFin p e below s _ _ Q (TJ62.setTop (mkF m 84 #[.val (.ref ba), .val (.int st), .val (.int en)] [(.int en)]))
      exact OFin.outI XJ62 hx Bd.returns Bd.notSynchronized (hb hby d3_84) (by decide) (by decide) eJ62 (by rw [hQ]; exact ⟨by rw [hJ62, own_stop62, if_pos hc64_1]; try rfl, NJ62, rfl⟩)
    · -- not (3 : Int32) < st
      refine OFin.back (fun _ hr => XS.icmpNo XJ62.here hx rfl (hb hby d3_64) rfl (flt hc64_1).2.2.1 hr) ?_
      show OFin p e below s _ _ Q (TJ62.setTop (mkF m 67 #[.val (.ref ba), .val (.int st), .val (.int en)] []))
      refine OFin.back (fun _ hr => XS.iconst XJ62.here hx rfl (hb hby d3_67) hr) ?_
      show OFin p e below s _ _ Q (TJ62.setTop (mkF m 68 #[.val (.ref ba), .val (.int st), .val (.int en)] [(.int (3 : Int32))]))
      refine OFin.back (fun _ hr => XS.iloadN XJ62.here hx rfl (hb hby d3_68) rfl hr) ?_
      show OFin p e below s _ _ Q (TJ62.setTop (mkF m 69 #[.val (.ref ba), .val (.int st), .val (.int en)] [(.int en), (.int (3 : Int32))]))
      by_cases hc69_2 : (3 : Int32) < en
      · -- (3 : Int32) < en
        refine OFin.back (fun _ hr => XS.icmpNo XJ62.here hx rfl (hb hby d3_69) rfl (tlt hc69_2).2.1 hr) ?_
        show OFin p e below s _ _ Q (TJ62.setTop (mkF m 72 #[.val (.ref ba), .val (.int st), .val (.int en)] []))
        refine OFin.back (fun _ hr => XS.aloadN XJ62.here hx rfl (hb hby d3_72) rfl rfl hr) ?_
        show OFin p e below s _ _ Q (TJ62.setTop (mkF m 73 #[.val (.ref ba), .val (.int st), .val (.int en)] [(.ref ba)]))
        refine OFin.back (fun _ hr => XS.iconst XJ62.here hx rfl (hb hby d3_73) hr) ?_
        show OFin p e below s _ _ Q (TJ62.setTop (mkF m 74 #[.val (.ref ba), .val (.int st), .val (.int en)] [(.int (3 : Int32)), (.ref ba)]))
        obtain ⟨cl3, Ar3, q3, S3, M3, H3, G3⟩ := id V0
        have hin3 : ¬ ((3 : Int32) < 0 ∨ cl3.slots.size ≤ ((3 : Int32)).toNatClampNeg) := inb_of S3 ⟨by decide, by decide⟩
        refine OFin.back (XJ62.baloadBytes hx (j := (3 : Int32)) (v := (.int b3)) (by rw [eJ62]; exact Ar3.1) (State.isArrayOf_alike hZ.alike Ar3.2.1) Ar3.2.2 hin3 (H3.at hin3 rfl) (g := (mkF m 74 #[.val (.ref ba), .val (.int st), .val (.int en)] [(.int (3 : Int32)), (.ref ba)])) rfl rfl (hb hby d3_74)) ?_
        show OFin p e below s _ _ Q (TJ62.setTop (mkF m 75 #[.val (.ref ba), .val (.int st), .val (.int en)] [(.int b3)]))
        obtain ⟨_, _, ⟨T4, L4, k4, n4⟩, -, X4, ⟨Lc4, hQ4, l4, y4, z4⟩, st4⟩ := Jvm.LawKit.callS XJ62 hx (y := (⟨"com/example/bytelore/bytelore/classfile/NamesBinaryNameEndPinLaw", "stops", "(B)Z"⟩ : MethodName)) hown (mvT hZ (hw _ (List.mem_of_getElem? (i := 12) rfl))) (mvT hZ (hw _ (List.mem_of_getElem? (i := 13) rfl))) (mvT hZ (hw _ (List.mem_of_getElem? (i := 3) rfl))) (mvT hZ (hw _ (List.mem_of_getElem? (i := 14) rfl))) (by decide) (backOf (W := 0) (rm1 l Z a0 hw [] b3 (h0) n0 Z0) hZ (hw _ (List.mem_of_getElem? (i := 14) rfl)) (hw _ (List.mem_of_getElem? (i := 3) rfl)) (by decide) (by decide)) (g := (mkF m 75 #[.val (.ref ba), .val (.int st), .val (.int en)] [(.int b3)])) rfl (by rw [hml]; rfl) (argsL := [(.int b3)]) (rest := []) (lenOf pd3_0 rfl) rfl (by show 2 * 0 + _ ≤ _; exact Nat.le_of_eq rfl) (hb hby d3_75) (fun _ _ => ⟨rfl, eJ62, (by decide : 0 + 0 ≤ _), (by decide : 0 + 0 ≤ _)⟩)
        dsimp only [Pt.U, Pt.locs, Pt.cells, Pt.slots] at X4 l4 y4 z4 st4 hQ4
        subst l4 y4 z4
        obtain ⟨rfl, N4q, e4⟩ := hQ4
        have N4 := Fr.app NJ62 N4q
        refine OFin.back st4 ?_
        show OFin p e below s _ _ Q (T4.setTop (mkF m 78 #[.val (.ref ba), .val (.int st), .val (.int en)] [(.int (own_stops b3))]))
        by_cases hc78_5 : (own_stops b3) = (0 : Int32)
        · -- (own_stops b3) = (0 : Int32)
          refine OFin.back (fun _ hr => XS.ifYes X4.here hx rfl (pc0 := 78) (pc' := 83) rfl (hb hby d3_78) rfl ((if0 _ _).trans (teq hc78_5).1) (by decide) (by decide) hr) ?_
          show OFin p e below s _ _ Q (T4.setTop (mkF m 83 #[.val (.ref ba), .val (.int st), .val (.int en)] []))
          refine OFin.back (fun _ hr => XS.iloadN X4.here hx rfl (hb hby d3_83) rfl hr) ?_
          show OFin p e below s _ _ Q (T4.setTop (mkF m 84 #[.val (.ref ba), .val (.int st), .val (.int en)] [(.int en)]))
          exact OFin.outI X4 hx Bd.returns Bd.notSynchronized (hb hby d3_84) (by decide) (by decide) e4 (by rw [hQ]; exact ⟨by rw [hJ62, own_stop62, if_neg hc64_1, if_pos hc69_2, if_pos hc78_5]; try rfl, N4, rfl⟩)
        · -- not (own_stops b3) = (0 : Int32)
          refine OFin.back (fun _ hr => XS.ifNo X4.here hx rfl (hb hby d3_78) rfl ((if0 _ _).trans (feq hc78_5).1) hr) ?_
          show OFin p e below s _ _ Q (T4.setTop (mkF m 81 #[.val (.ref ba), .val (.int st), .val (.int en)] []))
          refine OFin.back (fun _ hr => XS.iconst X4.here hx rfl (hb hby d3_81) hr) ?_
          show OFin p e below s _ _ Q (T4.setTop (mkF m 82 #[.val (.ref ba), .val (.int st), .val (.int en)] [(.int (3 : Int32))]))
          exact OFin.outI X4 hx Bd.returns Bd.notSynchronized (hb hby d3_82) (by decide) (by decide) e4 (by rw [hQ]; exact ⟨by rw [hJ62, own_stop62, if_neg hc64_1, if_pos hc69_2, if_neg hc78_5]; try rfl, N4, rfl⟩)
      · -- not (3 : Int32) < en
        refine OFin.back (fun _ hr => XS.icmpYes XJ62.here hx rfl (pc0 := 69) (pc' := 83) rfl (hb hby d3_69) rfl (flt hc69_2).2.1 (by decide) (by decide) hr) ?_
        show OFin p e below s _ _ Q (TJ62.setTop (mkF m 83 #[.val (.ref ba), .val (.int st), .val (.int en)] []))
        refine OFin.back (fun _ hr => XS.iloadN XJ62.here hx rfl (hb hby d3_83) rfl hr) ?_
        show OFin p e below s _ _ Q (TJ62.setTop (mkF m 84 #[.val (.ref ba), .val (.int st), .val (.int en)] [(.int en)]))
        exact OFin.outI XJ62 hx Bd.returns Bd.notSynchronized (hb hby d3_84) (by decide) (by decide) eJ62 (by rw [hQ]; exact ⟨by rw [hJ62, own_stop62, if_neg hc64_1, if_neg hc69_2]; try rfl, NJ62, rfl⟩)
  have J41 : ∀ (TJ41 : State) (lJ41 : List Loc), Stand p l e ({ frames := 1, cells := 0, slots := 0, locals := 12 } : Room) s m #[(.ref ba), (.int st), (.int en)] below meth c TJ41 lJ41 0 0 → TJ41.heap = h0 → Fr n0 lJ41 → own_stop b0 b1 b2 b3 st en = own_stop41 b0 b1 b2 b3 st en → OFin p e below s ({ frames := 1, cells := 0, slots := 0, locals := 12 } : Room).cells ({ frames := 1, cells := 0, slots := 0, locals := 12 } : Room).slots Q (TJ41.setTop (mkF m 41 #[.val (.ref ba), .val (.int st), .val (.int en)] [])) := by
    intro TJ41 lJ41 XJ41 eJ41 NJ41 hJ41
    show OFin p e below s _ _ Q (TJ41.setTop (mkF m 41 #[.val (.ref ba), .val (.int st), .val (.int en)] []))
    refine OFin.back (fun _ hr => XS.iloadN XJ41.here hx rfl (hb hby d3_41) rfl hr) ?_
    show OFin p e below s _ _ Q (TJ41.setTop (mkF m 42 #[.val (.ref ba), .val (.int st), .val (.int en)] [(.int st)]))
    refine OFin.back (fun _ hr => XS.iconst XJ41.here hx rfl (hb hby d3_42) hr) ?_
    show OFin p e below s _ _ Q (TJ41.setTop (mkF m 43 #[.val (.ref ba), .val (.int st), .val (.int en)] [(.int (2 : Int32)), (.int st)]))
    by_cases hc43_6 : (2 : Int32) < st
    · -- (2 : Int32) < st
      refine OFin.back (fun _ hr => XS.icmpYes XJ41.here hx rfl (pc0 := 43) (pc' := 62) rfl (hb hby d3_43) rfl (tlt hc43_6).2.2.1 (by decide) (by decide) hr) ?_
      show OFin p e below s _ _ Q (TJ41.setTop (mkF m 62 #[.val (.ref ba), .val (.int st), .val (.int en)] []))
      exact J62 _ _ XJ41 eJ41 NJ41 (hJ41.trans (by rw [own_stop41, if_pos hc43_6]))
    · -- not (2 : Int32) < st
      refine OFin.back (fun _ hr => XS.icmpNo XJ41.here hx rfl (hb hby d3_43) rfl (flt hc43_6).2.2.1 hr) ?_
      show OFin p e below s _ _ Q (TJ41.setTop (mkF m 46 #[.val (.ref ba), .val (.int st), .val (.int en)] []))
      refine OFin.back (fun _ hr => XS.iconst XJ41.here hx rfl (hb hby d3_46) hr) ?_
      show OFin p e below s _ _ Q (TJ41.setTop (mkF m 47 #[.val (.ref ba), .val (.int st), .val (.int en)] [(.int (2 : Int32))]))
      refine OFin.back (fun _ hr => XS.iloadN XJ41.here hx rfl (hb hby d3_47) rfl hr) ?_
      show OFin p e below s _ _ Q (TJ41.setTop (mkF m 48 #[.val (.ref ba), .val (.int st), .val (.int en)] [(.int en), (.int (2 : Int32))]))
      by_cases hc48_7 : (2 : Int32) < en
      · -- (2 : Int32) < en
        refine OFin.back (fun _ hr => XS.icmpNo XJ41.here hx rfl (hb hby d3_48) rfl (tlt hc48_7).2.1 hr) ?_
        show OFin p e below s _ _ Q (TJ41.setTop (mkF m 51 #[.val (.ref ba), .val (.int st), .val (.int en)] []))
        refine OFin.back (fun _ hr => XS.aloadN XJ41.here hx rfl (hb hby d3_51) rfl rfl hr) ?_
        show OFin p e below s _ _ Q (TJ41.setTop (mkF m 52 #[.val (.ref ba), .val (.int st), .val (.int en)] [(.ref ba)]))
        refine OFin.back (fun _ hr => XS.iconst XJ41.here hx rfl (hb hby d3_52) hr) ?_
        show OFin p e below s _ _ Q (TJ41.setTop (mkF m 53 #[.val (.ref ba), .val (.int st), .val (.int en)] [(.int (2 : Int32)), (.ref ba)]))
        obtain ⟨cl8, Ar8, q8, S8, M8, H8, G8⟩ := id V0
        have hin8 : ¬ ((2 : Int32) < 0 ∨ cl8.slots.size ≤ ((2 : Int32)).toNatClampNeg) := inb_of S8 ⟨by decide, by decide⟩
        refine OFin.back (XJ41.baloadBytes hx (j := (2 : Int32)) (v := (.int b2)) (by rw [eJ41]; exact Ar8.1) (State.isArrayOf_alike hZ.alike Ar8.2.1) Ar8.2.2 hin8 (H8.at hin8 rfl) (g := (mkF m 53 #[.val (.ref ba), .val (.int st), .val (.int en)] [(.int (2 : Int32)), (.ref ba)])) rfl rfl (hb hby d3_53)) ?_
        show OFin p e below s _ _ Q (TJ41.setTop (mkF m 54 #[.val (.ref ba), .val (.int st), .val (.int en)] [(.int b2)]))
        obtain ⟨_, _, ⟨T9, L9, k9, n9⟩, -, X9, ⟨Lc9, hQ9, l9, y9, z9⟩, st9⟩ := Jvm.LawKit.callS XJ41 hx (y := (⟨"com/example/bytelore/bytelore/classfile/NamesBinaryNameEndPinLaw", "stops", "(B)Z"⟩ : MethodName)) hown (mvT hZ (hw _ (List.mem_of_getElem? (i := 12) rfl))) (mvT hZ (hw _ (List.mem_of_getElem? (i := 13) rfl))) (mvT hZ (hw _ (List.mem_of_getElem? (i := 3) rfl))) (mvT hZ (hw _ (List.mem_of_getElem? (i := 14) rfl))) (by decide) (backOf (W := 0) (rm1 l Z a0 hw [] b2 (h0) n0 Z0) hZ (hw _ (List.mem_of_getElem? (i := 14) rfl)) (hw _ (List.mem_of_getElem? (i := 3) rfl)) (by decide) (by decide)) (g := (mkF m 54 #[.val (.ref ba), .val (.int st), .val (.int en)] [(.int b2)])) rfl (by rw [hml]; rfl) (argsL := [(.int b2)]) (rest := []) (lenOf pd3_0 rfl) rfl (by show 2 * 0 + _ ≤ _; exact Nat.le_of_eq rfl) (hb hby d3_54) (fun _ _ => ⟨rfl, eJ41, (by decide : 0 + 0 ≤ _), (by decide : 0 + 0 ≤ _)⟩)
        dsimp only [Pt.U, Pt.locs, Pt.cells, Pt.slots] at X9 l9 y9 z9 st9 hQ9
        subst l9 y9 z9
        obtain ⟨rfl, N9q, e9⟩ := hQ9
        have N9 := Fr.app NJ41 N9q
        refine OFin.back st9 ?_
        show OFin p e below s _ _ Q (T9.setTop (mkF m 57 #[.val (.ref ba), .val (.int st), .val (.int en)] [(.int (own_stops b2))]))
        by_cases hc57_10 : (own_stops b2) = (0 : Int32)
        · -- (own_stops b2) = (0 : Int32)
          refine OFin.back (fun _ hr => XS.ifYes X9.here hx rfl (pc0 := 57) (pc' := 62) rfl (hb hby d3_57) rfl ((if0 _ _).trans (teq hc57_10).1) (by decide) (by decide) hr) ?_
          show OFin p e below s _ _ Q (T9.setTop (mkF m 62 #[.val (.ref ba), .val (.int st), .val (.int en)] []))
          exact J62 _ _ X9 e9 N9 (hJ41.trans (by rw [own_stop41, if_neg hc43_6, if_pos hc48_7, if_pos hc57_10]))
        · -- not (own_stops b2) = (0 : Int32)
          refine OFin.back (fun _ hr => XS.ifNo X9.here hx rfl (hb hby d3_57) rfl ((if0 _ _).trans (feq hc57_10).1) hr) ?_
          show OFin p e below s _ _ Q (T9.setTop (mkF m 60 #[.val (.ref ba), .val (.int st), .val (.int en)] []))
          refine OFin.back (fun _ hr => XS.iconst X9.here hx rfl (hb hby d3_60) hr) ?_
          show OFin p e below s _ _ Q (T9.setTop (mkF m 61 #[.val (.ref ba), .val (.int st), .val (.int en)] [(.int (2 : Int32))]))
          exact OFin.outI X9 hx Bd.returns Bd.notSynchronized (hb hby d3_61) (by decide) (by decide) e9 (by rw [hQ]; exact ⟨by rw [hJ41, own_stop41, if_neg hc43_6, if_pos hc48_7, if_neg hc57_10]; try rfl, N9, rfl⟩)
      · -- not (2 : Int32) < en
        refine OFin.back (fun _ hr => XS.icmpYes XJ41.here hx rfl (pc0 := 48) (pc' := 62) rfl (hb hby d3_48) rfl (flt hc48_7).2.1 (by decide) (by decide) hr) ?_
        show OFin p e below s _ _ Q (TJ41.setTop (mkF m 62 #[.val (.ref ba), .val (.int st), .val (.int en)] []))
        exact J62 _ _ XJ41 eJ41 NJ41 (hJ41.trans (by rw [own_stop41, if_neg hc43_6, if_neg hc48_7]))
  have J20 : ∀ (TJ20 : State) (lJ20 : List Loc), Stand p l e ({ frames := 1, cells := 0, slots := 0, locals := 12 } : Room) s m #[(.ref ba), (.int st), (.int en)] below meth c TJ20 lJ20 0 0 → TJ20.heap = h0 → Fr n0 lJ20 → own_stop b0 b1 b2 b3 st en = own_stop20 b0 b1 b2 b3 st en → OFin p e below s ({ frames := 1, cells := 0, slots := 0, locals := 12 } : Room).cells ({ frames := 1, cells := 0, slots := 0, locals := 12 } : Room).slots Q (TJ20.setTop (mkF m 20 #[.val (.ref ba), .val (.int st), .val (.int en)] [])) := by
    intro TJ20 lJ20 XJ20 eJ20 NJ20 hJ20
    show OFin p e below s _ _ Q (TJ20.setTop (mkF m 20 #[.val (.ref ba), .val (.int st), .val (.int en)] []))
    refine OFin.back (fun _ hr => XS.iloadN XJ20.here hx rfl (hb hby d3_20) rfl hr) ?_
    show OFin p e below s _ _ Q (TJ20.setTop (mkF m 21 #[.val (.ref ba), .val (.int st), .val (.int en)] [(.int st)]))
    refine OFin.back (fun _ hr => XS.iconst XJ20.here hx rfl (hb hby d3_21) hr) ?_
    show OFin p e below s _ _ Q (TJ20.setTop (mkF m 22 #[.val (.ref ba), .val (.int st), .val (.int en)] [(.int (1 : Int32)), (.int st)]))
    by_cases hc22_11 : (1 : Int32) < st
    · -- (1 : Int32) < st
      refine OFin.back (fun _ hr => XS.icmpYes XJ20.here hx rfl (pc0 := 22) (pc' := 41) rfl (hb hby d3_22) rfl (tlt hc22_11).2.2.1 (by decide) (by decide) hr) ?_
      show OFin p e below s _ _ Q (TJ20.setTop (mkF m 41 #[.val (.ref ba), .val (.int st), .val (.int en)] []))
      exact J41 _ _ XJ20 eJ20 NJ20 (hJ20.trans (by rw [own_stop20, if_pos hc22_11]))
    · -- not (1 : Int32) < st
      refine OFin.back (fun _ hr => XS.icmpNo XJ20.here hx rfl (hb hby d3_22) rfl (flt hc22_11).2.2.1 hr) ?_
      show OFin p e below s _ _ Q (TJ20.setTop (mkF m 25 #[.val (.ref ba), .val (.int st), .val (.int en)] []))
      refine OFin.back (fun _ hr => XS.iconst XJ20.here hx rfl (hb hby d3_25) hr) ?_
      show OFin p e below s _ _ Q (TJ20.setTop (mkF m 26 #[.val (.ref ba), .val (.int st), .val (.int en)] [(.int (1 : Int32))]))
      refine OFin.back (fun _ hr => XS.iloadN XJ20.here hx rfl (hb hby d3_26) rfl hr) ?_
      show OFin p e below s _ _ Q (TJ20.setTop (mkF m 27 #[.val (.ref ba), .val (.int st), .val (.int en)] [(.int en), (.int (1 : Int32))]))
      by_cases hc27_12 : (1 : Int32) < en
      · -- (1 : Int32) < en
        refine OFin.back (fun _ hr => XS.icmpNo XJ20.here hx rfl (hb hby d3_27) rfl (tlt hc27_12).2.1 hr) ?_
        show OFin p e below s _ _ Q (TJ20.setTop (mkF m 30 #[.val (.ref ba), .val (.int st), .val (.int en)] []))
        refine OFin.back (fun _ hr => XS.aloadN XJ20.here hx rfl (hb hby d3_30) rfl rfl hr) ?_
        show OFin p e below s _ _ Q (TJ20.setTop (mkF m 31 #[.val (.ref ba), .val (.int st), .val (.int en)] [(.ref ba)]))
        refine OFin.back (fun _ hr => XS.iconst XJ20.here hx rfl (hb hby d3_31) hr) ?_
        show OFin p e below s _ _ Q (TJ20.setTop (mkF m 32 #[.val (.ref ba), .val (.int st), .val (.int en)] [(.int (1 : Int32)), (.ref ba)]))
        obtain ⟨cl13, Ar13, q13, S13, M13, H13, G13⟩ := id V0
        have hin13 : ¬ ((1 : Int32) < 0 ∨ cl13.slots.size ≤ ((1 : Int32)).toNatClampNeg) := inb_of S13 ⟨by decide, by decide⟩
        refine OFin.back (XJ20.baloadBytes hx (j := (1 : Int32)) (v := (.int b1)) (by rw [eJ20]; exact Ar13.1) (State.isArrayOf_alike hZ.alike Ar13.2.1) Ar13.2.2 hin13 (H13.at hin13 rfl) (g := (mkF m 32 #[.val (.ref ba), .val (.int st), .val (.int en)] [(.int (1 : Int32)), (.ref ba)])) rfl rfl (hb hby d3_32)) ?_
        show OFin p e below s _ _ Q (TJ20.setTop (mkF m 33 #[.val (.ref ba), .val (.int st), .val (.int en)] [(.int b1)]))
        obtain ⟨_, _, ⟨T14, L14, k14, n14⟩, -, X14, ⟨Lc14, hQ14, l14, y14, z14⟩, st14⟩ := Jvm.LawKit.callS XJ20 hx (y := (⟨"com/example/bytelore/bytelore/classfile/NamesBinaryNameEndPinLaw", "stops", "(B)Z"⟩ : MethodName)) hown (mvT hZ (hw _ (List.mem_of_getElem? (i := 12) rfl))) (mvT hZ (hw _ (List.mem_of_getElem? (i := 13) rfl))) (mvT hZ (hw _ (List.mem_of_getElem? (i := 3) rfl))) (mvT hZ (hw _ (List.mem_of_getElem? (i := 14) rfl))) (by decide) (backOf (W := 0) (rm1 l Z a0 hw [] b1 (h0) n0 Z0) hZ (hw _ (List.mem_of_getElem? (i := 14) rfl)) (hw _ (List.mem_of_getElem? (i := 3) rfl)) (by decide) (by decide)) (g := (mkF m 33 #[.val (.ref ba), .val (.int st), .val (.int en)] [(.int b1)])) rfl (by rw [hml]; rfl) (argsL := [(.int b1)]) (rest := []) (lenOf pd3_0 rfl) rfl (by show 2 * 0 + _ ≤ _; exact Nat.le_of_eq rfl) (hb hby d3_33) (fun _ _ => ⟨rfl, eJ20, (by decide : 0 + 0 ≤ _), (by decide : 0 + 0 ≤ _)⟩)
        dsimp only [Pt.U, Pt.locs, Pt.cells, Pt.slots] at X14 l14 y14 z14 st14 hQ14
        subst l14 y14 z14
        obtain ⟨rfl, N14q, e14⟩ := hQ14
        have N14 := Fr.app NJ20 N14q
        refine OFin.back st14 ?_
        show OFin p e below s _ _ Q (T14.setTop (mkF m 36 #[.val (.ref ba), .val (.int st), .val (.int en)] [(.int (own_stops b1))]))
        by_cases hc36_15 : (own_stops b1) = (0 : Int32)
        · -- (own_stops b1) = (0 : Int32)
          refine OFin.back (fun _ hr => XS.ifYes X14.here hx rfl (pc0 := 36) (pc' := 41) rfl (hb hby d3_36) rfl ((if0 _ _).trans (teq hc36_15).1) (by decide) (by decide) hr) ?_
          show OFin p e below s _ _ Q (T14.setTop (mkF m 41 #[.val (.ref ba), .val (.int st), .val (.int en)] []))
          exact J41 _ _ X14 e14 N14 (hJ20.trans (by rw [own_stop20, if_neg hc22_11, if_pos hc27_12, if_pos hc36_15]))
        · -- not (own_stops b1) = (0 : Int32)
          refine OFin.back (fun _ hr => XS.ifNo X14.here hx rfl (hb hby d3_36) rfl ((if0 _ _).trans (feq hc36_15).1) hr) ?_
          show OFin p e below s _ _ Q (T14.setTop (mkF m 39 #[.val (.ref ba), .val (.int st), .val (.int en)] []))
          refine OFin.back (fun _ hr => XS.iconst X14.here hx rfl (hb hby d3_39) hr) ?_
          show OFin p e below s _ _ Q (T14.setTop (mkF m 40 #[.val (.ref ba), .val (.int st), .val (.int en)] [(.int (1 : Int32))]))
          exact OFin.outI X14 hx Bd.returns Bd.notSynchronized (hb hby d3_40) (by decide) (by decide) e14 (by rw [hQ]; exact ⟨by rw [hJ20, own_stop20, if_neg hc22_11, if_pos hc27_12, if_neg hc36_15]; try rfl, N14, rfl⟩)
      · -- not (1 : Int32) < en
        refine OFin.back (fun _ hr => XS.icmpYes XJ20.here hx rfl (pc0 := 27) (pc' := 41) rfl (hb hby d3_27) rfl (flt hc27_12).2.1 (by decide) (by decide) hr) ?_
        show OFin p e below s _ _ Q (TJ20.setTop (mkF m 41 #[.val (.ref ba), .val (.int st), .val (.int en)] []))
        exact J41 _ _ XJ20 eJ20 NJ20 (hJ20.trans (by rw [own_stop20, if_neg hc22_11, if_neg hc27_12]))
  refine OFin.back (fun _ hr => XS.iloadN X0.here hx rfl (hb hby d3_0) rfl hr) ?_
  show OFin p e below s _ _ Q (s₁.setTop (mkF m 1 #[.val (.ref ba), .val (.int st), .val (.int en)] [(.int st)]))
  by_cases hc1_16 : (0 : Int32) < st
  · -- (0 : Int32) < st
    refine OFin.back (fun _ hr => XS.ifYes X0.here hx rfl (pc0 := 1) (pc' := 20) rfl (hb hby d3_1) rfl ((if0 _ _).trans (tlt hc1_16).2.2.1) (by decide) (by decide) hr) ?_
    show OFin p e below s _ _ Q (s₁.setTop (mkF m 20 #[.val (.ref ba), .val (.int st), .val (.int en)] []))
    exact J20 _ _ X0 e0 N0 (by rw [own_stop, if_pos hc1_16])
  · -- not (0 : Int32) < st
    refine OFin.back (fun _ hr => XS.ifNo X0.here hx rfl (hb hby d3_1) rfl ((if0 _ _).trans (flt hc1_16).2.2.1) hr) ?_
    show OFin p e below s _ _ Q (s₁.setTop (mkF m 4 #[.val (.ref ba), .val (.int st), .val (.int en)] []))
    refine OFin.back (fun _ hr => XS.iconst X0.here hx rfl (hb hby d3_4) hr) ?_
    show OFin p e below s _ _ Q (s₁.setTop (mkF m 5 #[.val (.ref ba), .val (.int st), .val (.int en)] [(.int (0 : Int32))]))
    refine OFin.back (fun _ hr => XS.iloadN X0.here hx rfl (hb hby d3_5) rfl hr) ?_
    show OFin p e below s _ _ Q (s₁.setTop (mkF m 6 #[.val (.ref ba), .val (.int st), .val (.int en)] [(.int en), (.int (0 : Int32))]))
    by_cases hc6_17 : (0 : Int32) < en
    · -- (0 : Int32) < en
      refine OFin.back (fun _ hr => XS.icmpNo X0.here hx rfl (hb hby d3_6) rfl (tlt hc6_17).2.1 hr) ?_
      show OFin p e below s _ _ Q (s₁.setTop (mkF m 9 #[.val (.ref ba), .val (.int st), .val (.int en)] []))
      refine OFin.back (fun _ hr => XS.aloadN X0.here hx rfl (hb hby d3_9) rfl rfl hr) ?_
      show OFin p e below s _ _ Q (s₁.setTop (mkF m 10 #[.val (.ref ba), .val (.int st), .val (.int en)] [(.ref ba)]))
      refine OFin.back (fun _ hr => XS.iconst X0.here hx rfl (hb hby d3_10) hr) ?_
      show OFin p e below s _ _ Q (s₁.setTop (mkF m 11 #[.val (.ref ba), .val (.int st), .val (.int en)] [(.int (0 : Int32)), (.ref ba)]))
      obtain ⟨cl18, Ar18, q18, S18, M18, H18, G18⟩ := id V0
      have hin18 : ¬ ((0 : Int32) < 0 ∨ cl18.slots.size ≤ ((0 : Int32)).toNatClampNeg) := inb_of S18 ⟨by decide, by decide⟩
      refine OFin.back (X0.baloadBytes hx (j := (0 : Int32)) (v := (.int b0)) (by rw [e0]; exact Ar18.1) (State.isArrayOf_alike hZ.alike Ar18.2.1) Ar18.2.2 hin18 (H18.at hin18 rfl) (g := (mkF m 11 #[.val (.ref ba), .val (.int st), .val (.int en)] [(.int (0 : Int32)), (.ref ba)])) rfl rfl (hb hby d3_11)) ?_
      show OFin p e below s _ _ Q (s₁.setTop (mkF m 12 #[.val (.ref ba), .val (.int st), .val (.int en)] [(.int b0)]))
      obtain ⟨_, _, ⟨T19, L19, k19, n19⟩, -, X19, ⟨Lc19, hQ19, l19, y19, z19⟩, st19⟩ := Jvm.LawKit.callS X0 hx (y := (⟨"com/example/bytelore/bytelore/classfile/NamesBinaryNameEndPinLaw", "stops", "(B)Z"⟩ : MethodName)) hown (mvT hZ (hw _ (List.mem_of_getElem? (i := 12) rfl))) (mvT hZ (hw _ (List.mem_of_getElem? (i := 13) rfl))) (mvT hZ (hw _ (List.mem_of_getElem? (i := 3) rfl))) (mvT hZ (hw _ (List.mem_of_getElem? (i := 14) rfl))) (by decide) (backOf (W := 0) (rm1 l Z a0 hw [] b0 (h0) n0 Z0) hZ (hw _ (List.mem_of_getElem? (i := 14) rfl)) (hw _ (List.mem_of_getElem? (i := 3) rfl)) (by decide) (by decide)) (g := (mkF m 12 #[.val (.ref ba), .val (.int st), .val (.int en)] [(.int b0)])) rfl (by rw [hml]; rfl) (argsL := [(.int b0)]) (rest := []) (lenOf pd3_0 rfl) rfl (by show 2 * 0 + _ ≤ _; exact Nat.le_of_eq rfl) (hb hby d3_12) (fun _ _ => ⟨rfl, e0, (by decide : 0 + 0 ≤ _), (by decide : 0 + 0 ≤ _)⟩)
      dsimp only [Pt.U, Pt.locs, Pt.cells, Pt.slots] at X19 l19 y19 z19 st19 hQ19
      subst l19 y19 z19
      obtain ⟨rfl, N19q, e19⟩ := hQ19
      have N19 := Fr.app N0 N19q
      refine OFin.back st19 ?_
      show OFin p e below s _ _ Q (T19.setTop (mkF m 15 #[.val (.ref ba), .val (.int st), .val (.int en)] [(.int (own_stops b0))]))
      by_cases hc15_20 : (own_stops b0) = (0 : Int32)
      · -- (own_stops b0) = (0 : Int32)
        refine OFin.back (fun _ hr => XS.ifYes X19.here hx rfl (pc0 := 15) (pc' := 20) rfl (hb hby d3_15) rfl ((if0 _ _).trans (teq hc15_20).1) (by decide) (by decide) hr) ?_
        show OFin p e below s _ _ Q (T19.setTop (mkF m 20 #[.val (.ref ba), .val (.int st), .val (.int en)] []))
        exact J20 _ _ X19 e19 N19 (by rw [own_stop, if_neg hc1_16, if_pos hc6_17, if_pos hc15_20])
      · -- not (own_stops b0) = (0 : Int32)
        refine OFin.back (fun _ hr => XS.ifNo X19.here hx rfl (hb hby d3_15) rfl ((if0 _ _).trans (feq hc15_20).1) hr) ?_
        show OFin p e below s _ _ Q (T19.setTop (mkF m 18 #[.val (.ref ba), .val (.int st), .val (.int en)] []))
        refine OFin.back (fun _ hr => XS.iconst X19.here hx rfl (hb hby d3_18) hr) ?_
        show OFin p e below s _ _ Q (T19.setTop (mkF m 19 #[.val (.ref ba), .val (.int st), .val (.int en)] [(.int (0 : Int32))]))
        exact OFin.outI X19 hx Bd.returns Bd.notSynchronized (hb hby d3_19) (by decide) (by decide) e19 (by rw [hQ]; exact ⟨by rw [own_stop, if_neg hc1_16, if_pos hc6_17, if_neg hc15_20]; try rfl, N19, rfl⟩)
    · -- not (0 : Int32) < en
      refine OFin.back (fun _ hr => XS.icmpYes X0.here hx rfl (pc0 := 6) (pc' := 20) rfl (hb hby d3_6) rfl (flt hc6_17).2.1 (by decide) (by decide) hr) ?_
      show OFin p e below s _ _ Q (s₁.setTop (mkF m 20 #[.val (.ref ba), .val (.int st), .val (.int en)] []))
      exact J20 _ _ X0 e0 N0 (by rw [own_stop, if_neg hc1_16, if_neg hc6_17])
theorem own_ite {P : Int32 → Prop} {c : Prop} [Decidable c] {x y : Int32} (h1 : c → P x) (h2 : ¬ c → P y) : P (if c then x else y) := by
  by_cases q : c
  · rw [if_pos q]; exact h1 q
  · rw [if_neg q]; exact h2 q
theorem own_srange {b0 b1 b2 b3 st en : Int32} (h0 : 0 ≤ st.toInt) (h1 : st.toInt ≤ en.toInt) (h4 : en.toInt ≤ 4) : st.toInt ≤ (own_stop b0 b1 b2 b3 st en).toInt ∧ (own_stop b0 b1 b2 b3 st en).toInt ≤ en.toInt := by
  have a0 : (0 : Int32).toInt = 0 := by decide
  have a1 : (1 : Int32).toInt = 1 := by decide
  have a2 : (2 : Int32).toInt = 2 := by decide
  have a3 : (3 : Int32).toInt = 3 := by decide
  have P62 : st.toInt ≤ (own_stop62 b0 b1 b2 b3 st en).toInt ∧ (own_stop62 b0 b1 b2 b3 st en).toInt ≤ en.toInt := own_ite (P := fun x => st.toInt ≤ x.toInt ∧ x.toInt ≤ en.toInt) (fun _ => ⟨h1, Int.le_refl _⟩) (fun u => own_ite (P := fun x => st.toInt ≤ x.toInt ∧ x.toInt ≤ en.toInt) (fun w => own_ite (P := fun x => st.toInt ≤ x.toInt ∧ x.toInt ≤ en.toInt) (fun _ => ⟨h1, Int.le_refl _⟩) (fun _ => by rw [Int32.lt_iff_toInt_lt] at u w; omega)) (fun _ => ⟨h1, Int.le_refl _⟩))
  have P41 : st.toInt ≤ (own_stop41 b0 b1 b2 b3 st en).toInt ∧ (own_stop41 b0 b1 b2 b3 st en).toInt ≤ en.toInt := own_ite (P := fun x => st.toInt ≤ x.toInt ∧ x.toInt ≤ en.toInt) (fun _ => P62) (fun u => own_ite (P := fun x => st.toInt ≤ x.toInt ∧ x.toInt ≤ en.toInt) (fun w => own_ite (P := fun x => st.toInt ≤ x.toInt ∧ x.toInt ≤ en.toInt) (fun _ => P62) (fun _ => by rw [Int32.lt_iff_toInt_lt] at u w; omega)) (fun _ => P62))
  have P20 : st.toInt ≤ (own_stop20 b0 b1 b2 b3 st en).toInt ∧ (own_stop20 b0 b1 b2 b3 st en).toInt ≤ en.toInt := own_ite (P := fun x => st.toInt ≤ x.toInt ∧ x.toInt ≤ en.toInt) (fun _ => P41) (fun u => own_ite (P := fun x => st.toInt ≤ x.toInt ∧ x.toInt ≤ en.toInt) (fun w => own_ite (P := fun x => st.toInt ≤ x.toInt ∧ x.toInt ≤ en.toInt) (fun _ => P41) (fun _ => by rw [Int32.lt_iff_toInt_lt] at u w; omega)) (fun _ => P41))
  exact own_ite (P := fun x => st.toInt ≤ x.toInt ∧ x.toInt ≤ en.toInt) (fun _ => P20) (fun u => own_ite (P := fun x => st.toInt ≤ x.toInt ∧ x.toInt ≤ en.toInt) (fun w => own_ite (P := fun x => st.toInt ≤ x.toInt ∧ x.toInt ≤ en.toInt) (fun _ => P20) (fun _ => by rw [Int32.lt_iff_toInt_lt] at u w; omega)) (fun _ => P20))
theorem own_r1 {b0 b1 b2 b3 st en : Int32} (h0 : 0 ≤ st.toInt) (h1 : st.toInt ≤ en.toInt) (h4 : en.toInt ≤ 4) (hc : ¬ (own_stop b0 b1 b2 b3 st en) = st) : ¬ st < 0 ∧ st < (4 : Int32) := by
  have h := own_srange (b0 := b0) (b1 := b1) (b2 := b2) (b3 := b3) h0 h1 h4
  have hn : (own_stop b0 b1 b2 b3 st en).toInt ≠ st.toInt := fun q => hc (Int32.toInt_inj.mp q)
  have a0 : (0 : Int32).toInt = 0 := by decide
  have a4 : (4 : Int32).toInt = 4 := by decide
  rw [Int32.lt_iff_toInt_lt, Int32.lt_iff_toInt_lt, a0, a4]
  omega
theorem own_r2 {b0 b1 b2 b3 st en : Int32} (h0 : 0 ≤ st.toInt) (h1 : st.toInt ≤ en.toInt) (h4 : en.toInt ≤ 4) (hc : ¬ (own_stop b0 b1 b2 b3 st en) = st) : ¬ (own_stop b0 b1 b2 b3 st en) - (1 : Int32) < 0 ∧ (own_stop b0 b1 b2 b3 st en) - (1 : Int32) < (4 : Int32) := by
  have h := own_srange (b0 := b0) (b1 := b1) (b2 := b2) (b3 := b3) h0 h1 h4
  have hn : (own_stop b0 b1 b2 b3 st en).toInt ≠ st.toInt := fun q => hc (Int32.toInt_inj.mp q)
  have a0 : (0 : Int32).toInt = 0 := by decide
  have a1 : (1 : Int32).toInt = 1 := by decide
  have a4 : (4 : Int32).toInt = 4 := by decide
  have h2 := c_isub (own_stop b0 b1 b2 b3 st en) 1
  have h3 := rng32 ((own_stop b0 b1 b2 b3 st en) - 1)
  rw [Int32.lt_iff_toInt_lt, Int32.lt_iff_toInt_lt, a0, a4]
  omega
theorem d4_0 : decode method_6_code 0 = .ok (.aload_n 0, 1) := by decide +kernel
theorem d4_1 : decode method_6_code 1 = .ok (.iload_n 1, 1) := by decide +kernel
theorem d4_2 : decode method_6_code 2 = .ok (.iload_n 2, 1) := by decide +kernel
theorem d4_3 : decode method_6_code 3 = .ok (.invokestatic 22, 3) := by decide +kernel
theorem d4_6 : decode method_6_code 6 = .ok (.istore_n 3, 1) := by decide +kernel
theorem d4_7 : decode method_6_code 7 = .ok (.iload_n 3, 1) := by decide +kernel
theorem d4_8 : decode method_6_code 8 = .ok (.iload_n 1, 1) := by decide +kernel
theorem d4_9 : decode method_6_code 9 = .ok (.if_icmp .ne 5, 3) := by decide +kernel
theorem d4_12 : decode method_6_code 12 = .ok (.iconst (-1), 1) := by decide +kernel
theorem d4_13 : decode method_6_code 13 = .ok (.ireturn, 1) := by decide +kernel
theorem d4_14 : decode method_6_code 14 = .ok (.aload_n 0, 1) := by decide +kernel
theorem d4_15 : decode method_6_code 15 = .ok (.iload_n 1, 1) := by decide +kernel
theorem d4_16 : decode method_6_code 16 = .ok (.baload, 1) := by decide +kernel
theorem d4_17 : decode method_6_code 17 = .ok (.invokestatic 25, 3) := by decide +kernel
theorem d4_20 : decode method_6_code 20 = .ok (.ifCond .eq 5, 3) := by decide +kernel
theorem d4_23 : decode method_6_code 23 = .ok (.iconst (-1), 1) := by decide +kernel
theorem d4_24 : decode method_6_code 24 = .ok (.ireturn, 1) := by decide +kernel
theorem d4_25 : decode method_6_code 25 = .ok (.aload_n 0, 1) := by decide +kernel
theorem d4_26 : decode method_6_code 26 = .ok (.iload_n 3, 1) := by decide +kernel
theorem d4_27 : decode method_6_code 27 = .ok (.iconst 1, 1) := by decide +kernel
theorem d4_28 : decode method_6_code 28 = .ok (.isub, 1) := by decide +kernel
theorem d4_29 : decode method_6_code 29 = .ok (.baload, 1) := by decide +kernel
theorem d4_30 : decode method_6_code 30 = .ok (.invokestatic 25, 3) := by decide +kernel
theorem d4_33 : decode method_6_code 33 = .ok (.ifCond .eq 5, 3) := by decide +kernel
theorem d4_36 : decode method_6_code 36 = .ok (.iconst (-1), 1) := by decide +kernel
theorem d4_37 : decode method_6_code 37 = .ok (.ireturn, 1) := by decide +kernel
theorem d4_38 : decode method_6_code 38 = .ok (.iload_n 1, 1) := by decide +kernel
theorem d4_39 : decode method_6_code 39 = .ok (.ifCond .gt 28, 3) := by decide +kernel
theorem d4_42 : decode method_6_code 42 = .ok (.iconst 1, 1) := by decide +kernel
theorem d4_43 : decode method_6_code 43 = .ok (.iload_n 3, 1) := by decide +kernel
theorem d4_44 : decode method_6_code 44 = .ok (.if_icmp .ge 23, 3) := by decide +kernel
theorem d4_47 : decode method_6_code 47 = .ok (.aload_n 0, 1) := by decide +kernel
theorem d4_48 : decode method_6_code 48 = .ok (.iconst 0, 1) := by decide +kernel
theorem d4_49 : decode method_6_code 49 = .ok (.baload, 1) := by decide +kernel
theorem d4_50 : decode method_6_code 50 = .ok (.invokestatic 25, 3) := by decide +kernel
theorem d4_53 : decode method_6_code 53 = .ok (.ifCond .eq 14, 3) := by decide +kernel
theorem d4_56 : decode method_6_code 56 = .ok (.aload_n 0, 1) := by decide +kernel
theorem d4_57 : decode method_6_code 57 = .ok (.iconst 1, 1) := by decide +kernel
theorem d4_58 : decode method_6_code 58 = .ok (.baload, 1) := by decide +kernel
theorem d4_59 : decode method_6_code 59 = .ok (.invokestatic 25, 3) := by decide +kernel
theorem d4_62 : decode method_6_code 62 = .ok (.ifCond .eq 5, 3) := by decide +kernel
theorem d4_65 : decode method_6_code 65 = .ok (.iconst (-1), 1) := by decide +kernel
theorem d4_66 : decode method_6_code 66 = .ok (.ireturn, 1) := by decide +kernel
theorem d4_67 : decode method_6_code 67 = .ok (.iload_n 1, 1) := by decide +kernel
theorem d4_68 : decode method_6_code 68 = .ok (.iconst 1, 1) := by decide +kernel
theorem d4_69 : decode method_6_code 69 = .ok (.if_icmp .gt 28, 3) := by decide +kernel
theorem d4_72 : decode method_6_code 72 = .ok (.iconst 2, 1) := by decide +kernel
theorem d4_73 : decode method_6_code 73 = .ok (.iload_n 3, 1) := by decide +kernel
theorem d4_74 : decode method_6_code 74 = .ok (.if_icmp .ge 23, 3) := by decide +kernel
theorem d4_77 : decode method_6_code 77 = .ok (.aload_n 0, 1) := by decide +kernel
theorem d4_78 : decode method_6_code 78 = .ok (.iconst 1, 1) := by decide +kernel
theorem d4_79 : decode method_6_code 79 = .ok (.baload, 1) := by decide +kernel
theorem d4_80 : decode method_6_code 80 = .ok (.invokestatic 25, 3) := by decide +kernel
theorem d4_83 : decode method_6_code 83 = .ok (.ifCond .eq 14, 3) := by decide +kernel
theorem d4_86 : decode method_6_code 86 = .ok (.aload_n 0, 1) := by decide +kernel
theorem d4_87 : decode method_6_code 87 = .ok (.iconst 2, 1) := by decide +kernel
theorem d4_88 : decode method_6_code 88 = .ok (.baload, 1) := by decide +kernel
theorem d4_89 : decode method_6_code 89 = .ok (.invokestatic 25, 3) := by decide +kernel
theorem d4_92 : decode method_6_code 92 = .ok (.ifCond .eq 5, 3) := by decide +kernel
theorem d4_95 : decode method_6_code 95 = .ok (.iconst (-1), 1) := by decide +kernel
theorem d4_96 : decode method_6_code 96 = .ok (.ireturn, 1) := by decide +kernel
theorem d4_97 : decode method_6_code 97 = .ok (.iload_n 1, 1) := by decide +kernel
theorem d4_98 : decode method_6_code 98 = .ok (.iconst 2, 1) := by decide +kernel
theorem d4_99 : decode method_6_code 99 = .ok (.if_icmp .gt 28, 3) := by decide +kernel
theorem d4_102 : decode method_6_code 102 = .ok (.iconst 3, 1) := by decide +kernel
theorem d4_103 : decode method_6_code 103 = .ok (.iload_n 3, 1) := by decide +kernel
theorem d4_104 : decode method_6_code 104 = .ok (.if_icmp .ge 23, 3) := by decide +kernel
theorem d4_107 : decode method_6_code 107 = .ok (.aload_n 0, 1) := by decide +kernel
theorem d4_108 : decode method_6_code 108 = .ok (.iconst 2, 1) := by decide +kernel
theorem d4_109 : decode method_6_code 109 = .ok (.baload, 1) := by decide +kernel
theorem d4_110 : decode method_6_code 110 = .ok (.invokestatic 25, 3) := by decide +kernel
theorem d4_113 : decode method_6_code 113 = .ok (.ifCond .eq 14, 3) := by decide +kernel
theorem d4_116 : decode method_6_code 116 = .ok (.aload_n 0, 1) := by decide +kernel
theorem d4_117 : decode method_6_code 117 = .ok (.iconst 3, 1) := by decide +kernel
theorem d4_118 : decode method_6_code 118 = .ok (.baload, 1) := by decide +kernel
theorem d4_119 : decode method_6_code 119 = .ok (.invokestatic 25, 3) := by decide +kernel
theorem d4_122 : decode method_6_code 122 = .ok (.ifCond .eq 5, 3) := by decide +kernel
theorem d4_125 : decode method_6_code 125 = .ok (.iconst (-1), 1) := by decide +kernel
theorem d4_126 : decode method_6_code 126 = .ok (.ireturn, 1) := by decide +kernel
theorem d4_127 : decode method_6_code 127 = .ok (.iload_n 3, 1) := by decide +kernel
theorem d4_128 : decode method_6_code 128 = .ok (.ireturn, 1) := by decide +kernel
theorem pn4 : plainName "com/example/bytelore/bytelore/classfile/NamesBinaryNameEndPinLaw" = true := by first | (simp [plainName, overriddenIn]; done) | decide +kernel
theorem pd4_0 : parseMethodDescriptor "(B)Z" = some ⟨[.byte], some .boolean⟩ := by decide +kernel
theorem pd4_1 : parseMethodDescriptor "([BII)I" = some ⟨[(.array .byte), .int, .int], some .int⟩ := by decide +kernel
theorem ef4 (m : MethodId) (ba : Addr) (st : Int32) (en : Int32) : entryFrame m #[(.ref ba), (.int st), (.int en)] 4 = mkF m 0 #[.val (.ref ba), .val (.int st), .val (.int en), .unset] [] := by first | (simp [entryFrame, mkF, argsToLocals, Value.category]; done) | rfl
def own_ref97 (b0 : Int32) (b1 : Int32) (b2 : Int32) (b3 : Int32) (st : Int32) (en : Int32) : Int32 := (if (2 : Int32) < st then (own_stop b0 b1 b2 b3 st en) else (if (3 : Int32) < (own_stop b0 b1 b2 b3 st en) then (if (own_slash b2) = (0 : Int32) then (own_stop b0 b1 b2 b3 st en) else (if (own_slash b3) = (0 : Int32) then (own_stop b0 b1 b2 b3 st en) else (-1 : Int32))) else (own_stop b0 b1 b2 b3 st en)))
def own_ref67 (b0 : Int32) (b1 : Int32) (b2 : Int32) (b3 : Int32) (st : Int32) (en : Int32) : Int32 := (if (1 : Int32) < st then (own_ref97 b0 b1 b2 b3 st en) else (if (2 : Int32) < (own_stop b0 b1 b2 b3 st en) then (if (own_slash b1) = (0 : Int32) then (own_ref97 b0 b1 b2 b3 st en) else (if (own_slash b2) = (0 : Int32) then (own_ref97 b0 b1 b2 b3 st en) else (-1 : Int32))) else (own_ref97 b0 b1 b2 b3 st en)))
def own_ref (b0 : Int32) (b1 : Int32) (b2 : Int32) (b3 : Int32) (st : Int32) (en : Int32) : Int32 := (if (own_stop b0 b1 b2 b3 st en) = st then (-1 : Int32) else (if (own_slash (own_sel b0 b1 b2 b3 st)) = (0 : Int32) then (if (own_slash (own_sel b0 b1 b2 b3 ((own_stop b0 b1 b2 b3 st en) - (1 : Int32)))) = (0 : Int32) then (if (0 : Int32) < st then (own_ref67 b0 b1 b2 b3 st en) else (if (1 : Int32) < (own_stop b0 b1 b2 b3 st en) then (if (own_slash b0) = (0 : Int32) then (own_ref67 b0 b1 b2 b3 st en) else (if (own_slash b1) = (0 : Int32) then (own_ref67 b0 b1 b2 b3 st en) else (-1 : Int32))) else (own_ref67 b0 b1 b2 b3 st en))) else (-1 : Int32)) else (-1 : Int32)))
def Q4 (Z : State) (ba : Addr) (st : Int32) (en : Int32) (kb : ClassId) (b0 : Int32) (b1 : Int32) (b2 : Int32) (b3 : Int32) (h0 : Heap) (n0 : Nat) (v : Option Value) (h : Heap) (L : List Loc) : Prop := v = some (.int (own_ref b0 b1 b2 b3 st en)) ∧ Fr n0 L ∧ h = h0
set_option maxRecDepth 65536 in
set_option maxHeartbeats 40000000 in
theorem rm4 (l : Launch) (Z : State) (a0 : Array Value) (hw : ∀ d ∈ tables_1, d.before a0 Z = true) (ws : List Jvm.Cond) (ba : Addr) (st : Int32) (en : Int32) (kb : ClassId) (b0 : Int32) (b1 : Int32) (b2 : Int32) (b3 : Int32) (h0 : Heap) (n0 : Nat) (Z0 : n0 ≤ h0.size) (V0 : Arv Z h0 ba kb .byte (4 : Int32) [(.int b0), (.int b1), (.int b2), (.int b3)] (.int (0 : Int32))) (hs0 : 0 ≤ st.toInt) (hse : st.toInt ≤ en.toInt) (he4 : en.toInt ≤ 4) :
    MetFree l (⟨"com/example/bytelore/bytelore/classfile/NamesBinaryNameEndPinLaw", "reference", "([BII)I"⟩ : MethodName) (head1 (Jvm.Cond.code (⟨"com/example/bytelore/bytelore/classfile/NamesBinaryNameEndPinLaw", "reference", "([BII)I"⟩ : MethodName) method_6_code 4 (some .int) :: ws) ({ frames := 2, cells := 0, slots := 0, locals := 26 } : Room)) (fun ar_ U => ar_ = #[(.ref ba), (.int st), (.int en)] ∧ Z.Warmed39 U.vm ∧ U.heap = h0) (fun _ _ _ _ _ => True) (fun _ U o U' => ∃ v L, o = .returned v ∧ Q4 Z ba st en kb b0 b1 b2 b3 h0 n0 v U'.heap L ∧ FrameEnd U o U' L ({ frames := 2, cells := 0, slots := 0, locals := 26 } : Room).cells ({ frames := 2, cells := 0, slots := 0, locals := 26 } : Room).slots) := by
  refine MetFree.of_bodySF (plainFor_of_name pn4) hisR ?_
  intro p e s m args below meth c s₁ Bd hml0 hP hK
  obtain ⟨rfl, hZ, hh⟩ := hP
  have hx := Bd.exec
  have hby := Bd.bytes
  have hml : c.maxLocals = 4 := hml0
  have hown : s.vm.findClass "com/example/bytelore/bytelore/classfile/NamesBinaryNameEndPinLaw" = some m.cls := findClass_of_methodNamed Bd.named
  have hnm := (name_of_methodNamed Bd.named Bd.method).1
  have X0 : Stand p l e ({ frames := 2, cells := 0, slots := 0, locals := 26 } : Room) s m #[(.ref ba), (.int st), (.int en)] below meth c s₁ [] 0 0 := Stand.of_body Bd
  have e0 : s₁.heap = h0 := by rw [← hh, Bd.state]; rfl
  have N0 := Fr.nil n0
  show OFin p e below s _ _ (Q4 Z ba st en kb b0 b1 b2 b3 h0 n0) (s₁.setTop (entryFrame m #[(.ref ba), (.int st), (.int en)] 4))
  rw [ef4]
  obtain ⟨Q, hQ⟩ : ∃ Q, Q = Q4 Z ba st en kb b0 b1 b2 b3 h0 n0 := ⟨_, rfl⟩
  rw [← hQ]
  show OFin p e below s _ _ Q (s₁.setTop (mkF m 0 #[.val (.ref ba), .val (.int st), .val (.int en), .unset] []))
  have J97 : ∀ (TJ97 : State) (lJ97 : List Loc), Stand p l e ({ frames := 2, cells := 0, slots := 0, locals := 26 } : Room) s m #[(.ref ba), (.int st), (.int en)] below meth c TJ97 lJ97 0 0 → TJ97.heap = h0 → Fr n0 lJ97 → own_ref b0 b1 b2 b3 st en = own_ref97 b0 b1 b2 b3 st en → OFin p e below s ({ frames := 2, cells := 0, slots := 0, locals := 26 } : Room).cells ({ frames := 2, cells := 0, slots := 0, locals := 26 } : Room).slots Q (TJ97.setTop (mkF m 97 #[.val (.ref ba), .val (.int st), .val (.int en), .val (.int (own_stop b0 b1 b2 b3 st en))] [])) := by
    intro TJ97 lJ97 XJ97 eJ97 NJ97 hJ97
    show OFin p e below s _ _ Q (TJ97.setTop (mkF m 97 #[.val (.ref ba), .val (.int st), .val (.int en), .val (.int (own_stop b0 b1 b2 b3 st en))] []))
    refine OFin.back (fun _ hr => XS.iloadN XJ97.here hx rfl (hb hby d4_97) rfl hr) ?_
    show OFin p e below s _ _ Q (TJ97.setTop (mkF m 98 #[.val (.ref ba), .val (.int st), .val (.int en), .val (.int (own_stop b0 b1 b2 b3 st en))] [(.int st)]))
    refine OFin.back (fun _ hr => XS.iconst XJ97.here hx rfl (hb hby d4_98) hr) ?_
    show OFin p e below s _ _ Q (TJ97.setTop (mkF m 99 #[.val (.ref ba), .val (.int st), .val (.int en), .val (.int (own_stop b0 b1 b2 b3 st en))] [(.int (2 : Int32)), (.int st)]))
    by_cases hc99_1 : (2 : Int32) < st
    · -- (2 : Int32) < st
      refine OFin.back (fun _ hr => XS.icmpYes XJ97.here hx rfl (pc0 := 99) (pc' := 127) rfl (hb hby d4_99) rfl (tlt hc99_1).2.2.1 (by decide) (by decide) hr) ?_
      show OFin p e below s _ _ Q (TJ97.setTop (mkF m 127 #[.val (.ref ba), .val (.int st), .val (.int en), .val (.int (own_stop b0 b1 b2 b3 st en))] []))
      refine OFin.back (fun _ hr => XS.iloadN XJ97.here hx rfl (hb hby d4_127) rfl hr) ?_
      show OFin p e below s _ _ Q (TJ97.setTop (mkF m 128 #[.val (.ref ba), .val (.int st), .val (.int en), .val (.int (own_stop b0 b1 b2 b3 st en))] [(.int (own_stop b0 b1 b2 b3 st en))]))
      exact OFin.outI XJ97 hx Bd.returns Bd.notSynchronized (hb hby d4_128) (by decide) (by decide) eJ97 (by rw [hQ]; exact ⟨by rw [hJ97, own_ref97, if_pos hc99_1]; try rfl, NJ97, rfl⟩)
    · -- not (2 : Int32) < st
      refine OFin.back (fun _ hr => XS.icmpNo XJ97.here hx rfl (hb hby d4_99) rfl (flt hc99_1).2.2.1 hr) ?_
      show OFin p e below s _ _ Q (TJ97.setTop (mkF m 102 #[.val (.ref ba), .val (.int st), .val (.int en), .val (.int (own_stop b0 b1 b2 b3 st en))] []))
      refine OFin.back (fun _ hr => XS.iconst XJ97.here hx rfl (hb hby d4_102) hr) ?_
      show OFin p e below s _ _ Q (TJ97.setTop (mkF m 103 #[.val (.ref ba), .val (.int st), .val (.int en), .val (.int (own_stop b0 b1 b2 b3 st en))] [(.int (3 : Int32))]))
      refine OFin.back (fun _ hr => XS.iloadN XJ97.here hx rfl (hb hby d4_103) rfl hr) ?_
      show OFin p e below s _ _ Q (TJ97.setTop (mkF m 104 #[.val (.ref ba), .val (.int st), .val (.int en), .val (.int (own_stop b0 b1 b2 b3 st en))] [(.int (own_stop b0 b1 b2 b3 st en)), (.int (3 : Int32))]))
      by_cases hc104_2 : (3 : Int32) < (own_stop b0 b1 b2 b3 st en)
      · -- (3 : Int32) < (own_stop b0 b1 b2 b3 st en)
        refine OFin.back (fun _ hr => XS.icmpNo XJ97.here hx rfl (hb hby d4_104) rfl (tlt hc104_2).2.1 hr) ?_
        show OFin p e below s _ _ Q (TJ97.setTop (mkF m 107 #[.val (.ref ba), .val (.int st), .val (.int en), .val (.int (own_stop b0 b1 b2 b3 st en))] []))
        refine OFin.back (fun _ hr => XS.aloadN XJ97.here hx rfl (hb hby d4_107) rfl rfl hr) ?_
        show OFin p e below s _ _ Q (TJ97.setTop (mkF m 108 #[.val (.ref ba), .val (.int st), .val (.int en), .val (.int (own_stop b0 b1 b2 b3 st en))] [(.ref ba)]))
        refine OFin.back (fun _ hr => XS.iconst XJ97.here hx rfl (hb hby d4_108) hr) ?_
        show OFin p e below s _ _ Q (TJ97.setTop (mkF m 109 #[.val (.ref ba), .val (.int st), .val (.int en), .val (.int (own_stop b0 b1 b2 b3 st en))] [(.int (2 : Int32)), (.ref ba)]))
        obtain ⟨cl3, Ar3, q3, S3, M3, H3, G3⟩ := id V0
        have hin3 : ¬ ((2 : Int32) < 0 ∨ cl3.slots.size ≤ ((2 : Int32)).toNatClampNeg) := inb_of S3 ⟨by decide, by decide⟩
        refine OFin.back (XJ97.baloadBytes hx (j := (2 : Int32)) (v := (.int b2)) (by rw [eJ97]; exact Ar3.1) (State.isArrayOf_alike hZ.alike Ar3.2.1) Ar3.2.2 hin3 (H3.at hin3 rfl) (g := (mkF m 109 #[.val (.ref ba), .val (.int st), .val (.int en), .val (.int (own_stop b0 b1 b2 b3 st en))] [(.int (2 : Int32)), (.ref ba)])) rfl rfl (hb hby d4_109)) ?_
        show OFin p e below s _ _ Q (TJ97.setTop (mkF m 110 #[.val (.ref ba), .val (.int st), .val (.int en), .val (.int (own_stop b0 b1 b2 b3 st en))] [(.int b2)]))
        obtain ⟨_, _, ⟨T4, L4, k4, n4⟩, -, X4, ⟨Lc4, hQ4, l4, y4, z4⟩, st4⟩ := Jvm.LawKit.callS XJ97 hx (y := (⟨"com/example/bytelore/bytelore/classfile/NamesBinaryNameEndPinLaw", "slash", "(B)Z"⟩ : MethodName)) hown (mvT hZ (hw _ (List.mem_of_getElem? (i := 15) rfl))) (mvT hZ (hw _ (List.mem_of_getElem? (i := 16) rfl))) (mvT hZ (hw _ (List.mem_of_getElem? (i := 3) rfl))) (mvT hZ (hw _ (List.mem_of_getElem? (i := 17) rfl))) (by decide) (backOf (W := 0) (rm2 l Z a0 hw [] b2 (h0) n0 Z0) hZ (hw _ (List.mem_of_getElem? (i := 17) rfl)) (hw _ (List.mem_of_getElem? (i := 3) rfl)) (by decide) (by decide)) (g := (mkF m 110 #[.val (.ref ba), .val (.int st), .val (.int en), .val (.int (own_stop b0 b1 b2 b3 st en))] [(.int b2)])) rfl (by rw [hml]; rfl) (argsL := [(.int b2)]) (rest := []) (lenOf pd4_0 rfl) rfl (by show 2 * 0 + _ ≤ _; exact Nat.le_of_eq rfl) (hb hby d4_110) (fun _ _ => ⟨rfl, eJ97, (by decide : 0 + 0 ≤ _), (by decide : 0 + 0 ≤ _)⟩)
        dsimp only [Pt.U, Pt.locs, Pt.cells, Pt.slots] at X4 l4 y4 z4 st4 hQ4
        subst l4 y4 z4
        obtain ⟨rfl, N4q, e4⟩ := hQ4
        have N4 := Fr.app NJ97 N4q
        refine OFin.back st4 ?_
        show OFin p e below s _ _ Q (T4.setTop (mkF m 113 #[.val (.ref ba), .val (.int st), .val (.int en), .val (.int (own_stop b0 b1 b2 b3 st en))] [(.int (own_slash b2))]))
        by_cases hc113_5 : (own_slash b2) = (0 : Int32)
        · -- (own_slash b2) = (0 : Int32)
          refine OFin.back (fun _ hr => XS.ifYes X4.here hx rfl (pc0 := 113) (pc' := 127) rfl (hb hby d4_113) rfl ((if0 _ _).trans (teq hc113_5).1) (by decide) (by decide) hr) ?_
          show OFin p e below s _ _ Q (T4.setTop (mkF m 127 #[.val (.ref ba), .val (.int st), .val (.int en), .val (.int (own_stop b0 b1 b2 b3 st en))] []))
          refine OFin.back (fun _ hr => XS.iloadN X4.here hx rfl (hb hby d4_127) rfl hr) ?_
          show OFin p e below s _ _ Q (T4.setTop (mkF m 128 #[.val (.ref ba), .val (.int st), .val (.int en), .val (.int (own_stop b0 b1 b2 b3 st en))] [(.int (own_stop b0 b1 b2 b3 st en))]))
          exact OFin.outI X4 hx Bd.returns Bd.notSynchronized (hb hby d4_128) (by decide) (by decide) e4 (by rw [hQ]; exact ⟨by rw [hJ97, own_ref97, if_neg hc99_1, if_pos hc104_2, if_pos hc113_5]; try rfl, N4, rfl⟩)
        · -- not (own_slash b2) = (0 : Int32)
          refine OFin.back (fun _ hr => XS.ifNo X4.here hx rfl (hb hby d4_113) rfl ((if0 _ _).trans (feq hc113_5).1) hr) ?_
          show OFin p e below s _ _ Q (T4.setTop (mkF m 116 #[.val (.ref ba), .val (.int st), .val (.int en), .val (.int (own_stop b0 b1 b2 b3 st en))] []))
          refine OFin.back (fun _ hr => XS.aloadN X4.here hx rfl (hb hby d4_116) rfl rfl hr) ?_
          show OFin p e below s _ _ Q (T4.setTop (mkF m 117 #[.val (.ref ba), .val (.int st), .val (.int en), .val (.int (own_stop b0 b1 b2 b3 st en))] [(.ref ba)]))
          refine OFin.back (fun _ hr => XS.iconst X4.here hx rfl (hb hby d4_117) hr) ?_
          show OFin p e below s _ _ Q (T4.setTop (mkF m 118 #[.val (.ref ba), .val (.int st), .val (.int en), .val (.int (own_stop b0 b1 b2 b3 st en))] [(.int (3 : Int32)), (.ref ba)]))
          obtain ⟨cl6, Ar6, q6, S6, M6, H6, G6⟩ := id V0
          have hin6 : ¬ ((3 : Int32) < 0 ∨ cl6.slots.size ≤ ((3 : Int32)).toNatClampNeg) := inb_of S6 ⟨by decide, by decide⟩
          refine OFin.back (X4.baloadBytes hx (j := (3 : Int32)) (v := (.int b3)) (by rw [e4]; exact Ar6.1) (State.isArrayOf_alike hZ.alike Ar6.2.1) Ar6.2.2 hin6 (H6.at hin6 rfl) (g := (mkF m 118 #[.val (.ref ba), .val (.int st), .val (.int en), .val (.int (own_stop b0 b1 b2 b3 st en))] [(.int (3 : Int32)), (.ref ba)])) rfl rfl (hb hby d4_118)) ?_
          show OFin p e below s _ _ Q (T4.setTop (mkF m 119 #[.val (.ref ba), .val (.int st), .val (.int en), .val (.int (own_stop b0 b1 b2 b3 st en))] [(.int b3)]))
          obtain ⟨_, _, ⟨T7, L7, k7, n7⟩, -, X7, ⟨Lc7, hQ7, l7, y7, z7⟩, st7⟩ := Jvm.LawKit.callS X4 hx (y := (⟨"com/example/bytelore/bytelore/classfile/NamesBinaryNameEndPinLaw", "slash", "(B)Z"⟩ : MethodName)) hown (mvT hZ (hw _ (List.mem_of_getElem? (i := 15) rfl))) (mvT hZ (hw _ (List.mem_of_getElem? (i := 16) rfl))) (mvT hZ (hw _ (List.mem_of_getElem? (i := 3) rfl))) (mvT hZ (hw _ (List.mem_of_getElem? (i := 17) rfl))) (by decide) (backOf (W := 0) (rm2 l Z a0 hw [] b3 (h0) n0 Z0) hZ (hw _ (List.mem_of_getElem? (i := 17) rfl)) (hw _ (List.mem_of_getElem? (i := 3) rfl)) (by decide) (by decide)) (g := (mkF m 119 #[.val (.ref ba), .val (.int st), .val (.int en), .val (.int (own_stop b0 b1 b2 b3 st en))] [(.int b3)])) rfl (by rw [hml]; rfl) (argsL := [(.int b3)]) (rest := []) (lenOf pd4_0 rfl) rfl (by show 2 * 0 + _ ≤ _; exact Nat.le_of_eq rfl) (hb hby d4_119) (fun _ _ => ⟨rfl, e4, (by decide : 0 + 0 ≤ _), (by decide : 0 + 0 ≤ _)⟩)
          dsimp only [Pt.U, Pt.locs, Pt.cells, Pt.slots] at X7 l7 y7 z7 st7 hQ7
          subst l7 y7 z7
          obtain ⟨rfl, N7q, e7⟩ := hQ7
          have N7 := Fr.app N4 N7q
          refine OFin.back st7 ?_
          show OFin p e below s _ _ Q (T7.setTop (mkF m 122 #[.val (.ref ba), .val (.int st), .val (.int en), .val (.int (own_stop b0 b1 b2 b3 st en))] [(.int (own_slash b3))]))
          by_cases hc122_8 : (own_slash b3) = (0 : Int32)
          · -- (own_slash b3) = (0 : Int32)
            refine OFin.back (fun _ hr => XS.ifYes X7.here hx rfl (pc0 := 122) (pc' := 127) rfl (hb hby d4_122) rfl ((if0 _ _).trans (teq hc122_8).1) (by decide) (by decide) hr) ?_
            show OFin p e below s _ _ Q (T7.setTop (mkF m 127 #[.val (.ref ba), .val (.int st), .val (.int en), .val (.int (own_stop b0 b1 b2 b3 st en))] []))
            refine OFin.back (fun _ hr => XS.iloadN X7.here hx rfl (hb hby d4_127) rfl hr) ?_
            show OFin p e below s _ _ Q (T7.setTop (mkF m 128 #[.val (.ref ba), .val (.int st), .val (.int en), .val (.int (own_stop b0 b1 b2 b3 st en))] [(.int (own_stop b0 b1 b2 b3 st en))]))
            exact OFin.outI X7 hx Bd.returns Bd.notSynchronized (hb hby d4_128) (by decide) (by decide) e7 (by rw [hQ]; exact ⟨by rw [hJ97, own_ref97, if_neg hc99_1, if_pos hc104_2, if_neg hc113_5, if_pos hc122_8]; try rfl, N7, rfl⟩)
          · -- not (own_slash b3) = (0 : Int32)
            refine OFin.back (fun _ hr => XS.ifNo X7.here hx rfl (hb hby d4_122) rfl ((if0 _ _).trans (feq hc122_8).1) hr) ?_
            show OFin p e below s _ _ Q (T7.setTop (mkF m 125 #[.val (.ref ba), .val (.int st), .val (.int en), .val (.int (own_stop b0 b1 b2 b3 st en))] []))
            refine OFin.back (fun _ hr => XS.iconst X7.here hx rfl (hb hby d4_125) hr) ?_
            show OFin p e below s _ _ Q (T7.setTop (mkF m 126 #[.val (.ref ba), .val (.int st), .val (.int en), .val (.int (own_stop b0 b1 b2 b3 st en))] [(.int (-1 : Int32))]))
            exact OFin.outI X7 hx Bd.returns Bd.notSynchronized (hb hby d4_126) (by decide) (by decide) e7 (by rw [hQ]; exact ⟨by rw [hJ97, own_ref97, if_neg hc99_1, if_pos hc104_2, if_neg hc113_5, if_neg hc122_8]; try rfl, N7, rfl⟩)
      · -- not (3 : Int32) < (own_stop b0 b1 b2 b3 st en)
        refine OFin.back (fun _ hr => XS.icmpYes XJ97.here hx rfl (pc0 := 104) (pc' := 127) rfl (hb hby d4_104) rfl (flt hc104_2).2.1 (by decide) (by decide) hr) ?_
        show OFin p e below s _ _ Q (TJ97.setTop (mkF m 127 #[.val (.ref ba), .val (.int st), .val (.int en), .val (.int (own_stop b0 b1 b2 b3 st en))] []))
        refine OFin.back (fun _ hr => XS.iloadN XJ97.here hx rfl (hb hby d4_127) rfl hr) ?_
        show OFin p e below s _ _ Q (TJ97.setTop (mkF m 128 #[.val (.ref ba), .val (.int st), .val (.int en), .val (.int (own_stop b0 b1 b2 b3 st en))] [(.int (own_stop b0 b1 b2 b3 st en))]))
        exact OFin.outI XJ97 hx Bd.returns Bd.notSynchronized (hb hby d4_128) (by decide) (by decide) eJ97 (by rw [hQ]; exact ⟨by rw [hJ97, own_ref97, if_neg hc99_1, if_neg hc104_2]; try rfl, NJ97, rfl⟩)
  have J67 : ∀ (TJ67 : State) (lJ67 : List Loc), Stand p l e ({ frames := 2, cells := 0, slots := 0, locals := 26 } : Room) s m #[(.ref ba), (.int st), (.int en)] below meth c TJ67 lJ67 0 0 → TJ67.heap = h0 → Fr n0 lJ67 → own_ref b0 b1 b2 b3 st en = own_ref67 b0 b1 b2 b3 st en → OFin p e below s ({ frames := 2, cells := 0, slots := 0, locals := 26 } : Room).cells ({ frames := 2, cells := 0, slots := 0, locals := 26 } : Room).slots Q (TJ67.setTop (mkF m 67 #[.val (.ref ba), .val (.int st), .val (.int en), .val (.int (own_stop b0 b1 b2 b3 st en))] [])) := by
    intro TJ67 lJ67 XJ67 eJ67 NJ67 hJ67
    show OFin p e below s _ _ Q (TJ67.setTop (mkF m 67 #[.val (.ref ba), .val (.int st), .val (.int en), .val (.int (own_stop b0 b1 b2 b3 st en))] []))
    refine OFin.back (fun _ hr => XS.iloadN XJ67.here hx rfl (hb hby d4_67) rfl hr) ?_
    show OFin p e below s _ _ Q (TJ67.setTop (mkF m 68 #[.val (.ref ba), .val (.int st), .val (.int en), .val (.int (own_stop b0 b1 b2 b3 st en))] [(.int st)]))
    refine OFin.back (fun _ hr => XS.iconst XJ67.here hx rfl (hb hby d4_68) hr) ?_
    show OFin p e below s _ _ Q (TJ67.setTop (mkF m 69 #[.val (.ref ba), .val (.int st), .val (.int en), .val (.int (own_stop b0 b1 b2 b3 st en))] [(.int (1 : Int32)), (.int st)]))
    by_cases hc69_9 : (1 : Int32) < st
    · -- (1 : Int32) < st
      refine OFin.back (fun _ hr => XS.icmpYes XJ67.here hx rfl (pc0 := 69) (pc' := 97) rfl (hb hby d4_69) rfl (tlt hc69_9).2.2.1 (by decide) (by decide) hr) ?_
      show OFin p e below s _ _ Q (TJ67.setTop (mkF m 97 #[.val (.ref ba), .val (.int st), .val (.int en), .val (.int (own_stop b0 b1 b2 b3 st en))] []))
      exact J97 _ _ XJ67 eJ67 NJ67 (hJ67.trans (by rw [own_ref67, if_pos hc69_9]))
    · -- not (1 : Int32) < st
      refine OFin.back (fun _ hr => XS.icmpNo XJ67.here hx rfl (hb hby d4_69) rfl (flt hc69_9).2.2.1 hr) ?_
      show OFin p e below s _ _ Q (TJ67.setTop (mkF m 72 #[.val (.ref ba), .val (.int st), .val (.int en), .val (.int (own_stop b0 b1 b2 b3 st en))] []))
      refine OFin.back (fun _ hr => XS.iconst XJ67.here hx rfl (hb hby d4_72) hr) ?_
      show OFin p e below s _ _ Q (TJ67.setTop (mkF m 73 #[.val (.ref ba), .val (.int st), .val (.int en), .val (.int (own_stop b0 b1 b2 b3 st en))] [(.int (2 : Int32))]))
      refine OFin.back (fun _ hr => XS.iloadN XJ67.here hx rfl (hb hby d4_73) rfl hr) ?_
      show OFin p e below s _ _ Q (TJ67.setTop (mkF m 74 #[.val (.ref ba), .val (.int st), .val (.int en), .val (.int (own_stop b0 b1 b2 b3 st en))] [(.int (own_stop b0 b1 b2 b3 st en)), (.int (2 : Int32))]))
      by_cases hc74_10 : (2 : Int32) < (own_stop b0 b1 b2 b3 st en)
      · -- (2 : Int32) < (own_stop b0 b1 b2 b3 st en)
        refine OFin.back (fun _ hr => XS.icmpNo XJ67.here hx rfl (hb hby d4_74) rfl (tlt hc74_10).2.1 hr) ?_
        show OFin p e below s _ _ Q (TJ67.setTop (mkF m 77 #[.val (.ref ba), .val (.int st), .val (.int en), .val (.int (own_stop b0 b1 b2 b3 st en))] []))
        refine OFin.back (fun _ hr => XS.aloadN XJ67.here hx rfl (hb hby d4_77) rfl rfl hr) ?_
        show OFin p e below s _ _ Q (TJ67.setTop (mkF m 78 #[.val (.ref ba), .val (.int st), .val (.int en), .val (.int (own_stop b0 b1 b2 b3 st en))] [(.ref ba)]))
        refine OFin.back (fun _ hr => XS.iconst XJ67.here hx rfl (hb hby d4_78) hr) ?_
        show OFin p e below s _ _ Q (TJ67.setTop (mkF m 79 #[.val (.ref ba), .val (.int st), .val (.int en), .val (.int (own_stop b0 b1 b2 b3 st en))] [(.int (1 : Int32)), (.ref ba)]))
        obtain ⟨cl11, Ar11, q11, S11, M11, H11, G11⟩ := id V0
        have hin11 : ¬ ((1 : Int32) < 0 ∨ cl11.slots.size ≤ ((1 : Int32)).toNatClampNeg) := inb_of S11 ⟨by decide, by decide⟩
        refine OFin.back (XJ67.baloadBytes hx (j := (1 : Int32)) (v := (.int b1)) (by rw [eJ67]; exact Ar11.1) (State.isArrayOf_alike hZ.alike Ar11.2.1) Ar11.2.2 hin11 (H11.at hin11 rfl) (g := (mkF m 79 #[.val (.ref ba), .val (.int st), .val (.int en), .val (.int (own_stop b0 b1 b2 b3 st en))] [(.int (1 : Int32)), (.ref ba)])) rfl rfl (hb hby d4_79)) ?_
        show OFin p e below s _ _ Q (TJ67.setTop (mkF m 80 #[.val (.ref ba), .val (.int st), .val (.int en), .val (.int (own_stop b0 b1 b2 b3 st en))] [(.int b1)]))
        obtain ⟨_, _, ⟨T12, L12, k12, n12⟩, -, X12, ⟨Lc12, hQ12, l12, y12, z12⟩, st12⟩ := Jvm.LawKit.callS XJ67 hx (y := (⟨"com/example/bytelore/bytelore/classfile/NamesBinaryNameEndPinLaw", "slash", "(B)Z"⟩ : MethodName)) hown (mvT hZ (hw _ (List.mem_of_getElem? (i := 15) rfl))) (mvT hZ (hw _ (List.mem_of_getElem? (i := 16) rfl))) (mvT hZ (hw _ (List.mem_of_getElem? (i := 3) rfl))) (mvT hZ (hw _ (List.mem_of_getElem? (i := 17) rfl))) (by decide) (backOf (W := 0) (rm2 l Z a0 hw [] b1 (h0) n0 Z0) hZ (hw _ (List.mem_of_getElem? (i := 17) rfl)) (hw _ (List.mem_of_getElem? (i := 3) rfl)) (by decide) (by decide)) (g := (mkF m 80 #[.val (.ref ba), .val (.int st), .val (.int en), .val (.int (own_stop b0 b1 b2 b3 st en))] [(.int b1)])) rfl (by rw [hml]; rfl) (argsL := [(.int b1)]) (rest := []) (lenOf pd4_0 rfl) rfl (by show 2 * 0 + _ ≤ _; exact Nat.le_of_eq rfl) (hb hby d4_80) (fun _ _ => ⟨rfl, eJ67, (by decide : 0 + 0 ≤ _), (by decide : 0 + 0 ≤ _)⟩)
        dsimp only [Pt.U, Pt.locs, Pt.cells, Pt.slots] at X12 l12 y12 z12 st12 hQ12
        subst l12 y12 z12
        obtain ⟨rfl, N12q, e12⟩ := hQ12
        have N12 := Fr.app NJ67 N12q
        refine OFin.back st12 ?_
        show OFin p e below s _ _ Q (T12.setTop (mkF m 83 #[.val (.ref ba), .val (.int st), .val (.int en), .val (.int (own_stop b0 b1 b2 b3 st en))] [(.int (own_slash b1))]))
        by_cases hc83_13 : (own_slash b1) = (0 : Int32)
        · -- (own_slash b1) = (0 : Int32)
          refine OFin.back (fun _ hr => XS.ifYes X12.here hx rfl (pc0 := 83) (pc' := 97) rfl (hb hby d4_83) rfl ((if0 _ _).trans (teq hc83_13).1) (by decide) (by decide) hr) ?_
          show OFin p e below s _ _ Q (T12.setTop (mkF m 97 #[.val (.ref ba), .val (.int st), .val (.int en), .val (.int (own_stop b0 b1 b2 b3 st en))] []))
          exact J97 _ _ X12 e12 N12 (hJ67.trans (by rw [own_ref67, if_neg hc69_9, if_pos hc74_10, if_pos hc83_13]))
        · -- not (own_slash b1) = (0 : Int32)
          refine OFin.back (fun _ hr => XS.ifNo X12.here hx rfl (hb hby d4_83) rfl ((if0 _ _).trans (feq hc83_13).1) hr) ?_
          show OFin p e below s _ _ Q (T12.setTop (mkF m 86 #[.val (.ref ba), .val (.int st), .val (.int en), .val (.int (own_stop b0 b1 b2 b3 st en))] []))
          refine OFin.back (fun _ hr => XS.aloadN X12.here hx rfl (hb hby d4_86) rfl rfl hr) ?_
          show OFin p e below s _ _ Q (T12.setTop (mkF m 87 #[.val (.ref ba), .val (.int st), .val (.int en), .val (.int (own_stop b0 b1 b2 b3 st en))] [(.ref ba)]))
          refine OFin.back (fun _ hr => XS.iconst X12.here hx rfl (hb hby d4_87) hr) ?_
          show OFin p e below s _ _ Q (T12.setTop (mkF m 88 #[.val (.ref ba), .val (.int st), .val (.int en), .val (.int (own_stop b0 b1 b2 b3 st en))] [(.int (2 : Int32)), (.ref ba)]))
          obtain ⟨cl14, Ar14, q14, S14, M14, H14, G14⟩ := id V0
          have hin14 : ¬ ((2 : Int32) < 0 ∨ cl14.slots.size ≤ ((2 : Int32)).toNatClampNeg) := inb_of S14 ⟨by decide, by decide⟩
          refine OFin.back (X12.baloadBytes hx (j := (2 : Int32)) (v := (.int b2)) (by rw [e12]; exact Ar14.1) (State.isArrayOf_alike hZ.alike Ar14.2.1) Ar14.2.2 hin14 (H14.at hin14 rfl) (g := (mkF m 88 #[.val (.ref ba), .val (.int st), .val (.int en), .val (.int (own_stop b0 b1 b2 b3 st en))] [(.int (2 : Int32)), (.ref ba)])) rfl rfl (hb hby d4_88)) ?_
          show OFin p e below s _ _ Q (T12.setTop (mkF m 89 #[.val (.ref ba), .val (.int st), .val (.int en), .val (.int (own_stop b0 b1 b2 b3 st en))] [(.int b2)]))
          obtain ⟨_, _, ⟨T15, L15, k15, n15⟩, -, X15, ⟨Lc15, hQ15, l15, y15, z15⟩, st15⟩ := Jvm.LawKit.callS X12 hx (y := (⟨"com/example/bytelore/bytelore/classfile/NamesBinaryNameEndPinLaw", "slash", "(B)Z"⟩ : MethodName)) hown (mvT hZ (hw _ (List.mem_of_getElem? (i := 15) rfl))) (mvT hZ (hw _ (List.mem_of_getElem? (i := 16) rfl))) (mvT hZ (hw _ (List.mem_of_getElem? (i := 3) rfl))) (mvT hZ (hw _ (List.mem_of_getElem? (i := 17) rfl))) (by decide) (backOf (W := 0) (rm2 l Z a0 hw [] b2 (h0) n0 Z0) hZ (hw _ (List.mem_of_getElem? (i := 17) rfl)) (hw _ (List.mem_of_getElem? (i := 3) rfl)) (by decide) (by decide)) (g := (mkF m 89 #[.val (.ref ba), .val (.int st), .val (.int en), .val (.int (own_stop b0 b1 b2 b3 st en))] [(.int b2)])) rfl (by rw [hml]; rfl) (argsL := [(.int b2)]) (rest := []) (lenOf pd4_0 rfl) rfl (by show 2 * 0 + _ ≤ _; exact Nat.le_of_eq rfl) (hb hby d4_89) (fun _ _ => ⟨rfl, e12, (by decide : 0 + 0 ≤ _), (by decide : 0 + 0 ≤ _)⟩)
          dsimp only [Pt.U, Pt.locs, Pt.cells, Pt.slots] at X15 l15 y15 z15 st15 hQ15
          subst l15 y15 z15
          obtain ⟨rfl, N15q, e15⟩ := hQ15
          have N15 := Fr.app N12 N15q
          refine OFin.back st15 ?_
          show OFin p e below s _ _ Q (T15.setTop (mkF m 92 #[.val (.ref ba), .val (.int st), .val (.int en), .val (.int (own_stop b0 b1 b2 b3 st en))] [(.int (own_slash b2))]))
          by_cases hc92_16 : (own_slash b2) = (0 : Int32)
          · -- (own_slash b2) = (0 : Int32)
            refine OFin.back (fun _ hr => XS.ifYes X15.here hx rfl (pc0 := 92) (pc' := 97) rfl (hb hby d4_92) rfl ((if0 _ _).trans (teq hc92_16).1) (by decide) (by decide) hr) ?_
            show OFin p e below s _ _ Q (T15.setTop (mkF m 97 #[.val (.ref ba), .val (.int st), .val (.int en), .val (.int (own_stop b0 b1 b2 b3 st en))] []))
            exact J97 _ _ X15 e15 N15 (hJ67.trans (by rw [own_ref67, if_neg hc69_9, if_pos hc74_10, if_neg hc83_13, if_pos hc92_16]))
          · -- not (own_slash b2) = (0 : Int32)
            refine OFin.back (fun _ hr => XS.ifNo X15.here hx rfl (hb hby d4_92) rfl ((if0 _ _).trans (feq hc92_16).1) hr) ?_
            show OFin p e below s _ _ Q (T15.setTop (mkF m 95 #[.val (.ref ba), .val (.int st), .val (.int en), .val (.int (own_stop b0 b1 b2 b3 st en))] []))
            refine OFin.back (fun _ hr => XS.iconst X15.here hx rfl (hb hby d4_95) hr) ?_
            show OFin p e below s _ _ Q (T15.setTop (mkF m 96 #[.val (.ref ba), .val (.int st), .val (.int en), .val (.int (own_stop b0 b1 b2 b3 st en))] [(.int (-1 : Int32))]))
            exact OFin.outI X15 hx Bd.returns Bd.notSynchronized (hb hby d4_96) (by decide) (by decide) e15 (by rw [hQ]; exact ⟨by rw [hJ67, own_ref67, if_neg hc69_9, if_pos hc74_10, if_neg hc83_13, if_neg hc92_16]; try rfl, N15, rfl⟩)
      · -- not (2 : Int32) < (own_stop b0 b1 b2 b3 st en)
        refine OFin.back (fun _ hr => XS.icmpYes XJ67.here hx rfl (pc0 := 74) (pc' := 97) rfl (hb hby d4_74) rfl (flt hc74_10).2.1 (by decide) (by decide) hr) ?_
        show OFin p e below s _ _ Q (TJ67.setTop (mkF m 97 #[.val (.ref ba), .val (.int st), .val (.int en), .val (.int (own_stop b0 b1 b2 b3 st en))] []))
        exact J97 _ _ XJ67 eJ67 NJ67 (hJ67.trans (by rw [own_ref67, if_neg hc69_9, if_neg hc74_10]))
  refine OFin.back (fun _ hr => XS.aloadN X0.here hx rfl (hb hby d4_0) rfl rfl hr) ?_
  show OFin p e below s _ _ Q (s₁.setTop (mkF m 1 #[.val (.ref ba), .val (.int st), .val (.int en), .unset] [(.ref ba)]))
  refine OFin.back (fun _ hr => XS.iloadN X0.here hx rfl (hb hby d4_1) rfl hr) ?_
  show OFin p e below s _ _ Q (s₁.setTop (mkF m 2 #[.val (.ref ba), .val (.int st), .val (.int en), .unset] [(.int st), (.ref ba)]))
  refine OFin.back (fun _ hr => XS.iloadN X0.here hx rfl (hb hby d4_2) rfl hr) ?_
  show OFin p e below s _ _ Q (s₁.setTop (mkF m 3 #[.val (.ref ba), .val (.int st), .val (.int en), .unset] [(.int en), (.int st), (.ref ba)]))
  obtain ⟨_, _, ⟨T17, L17, k17, n17⟩, -, X17, ⟨Lc17, hQ17, l17, y17, z17⟩, st17⟩ := Jvm.LawKit.callS X0 hx (y := (⟨"com/example/bytelore/bytelore/classfile/NamesBinaryNameEndPinLaw", "stop", "([BII)I"⟩ : MethodName)) hown (mvT hZ (hw _ (List.mem_of_getElem? (i := 5) rfl))) (mvT hZ (hw _ (List.mem_of_getElem? (i := 6) rfl))) (mvT hZ (hw _ (List.mem_of_getElem? (i := 3) rfl))) (mvT hZ (hw _ (List.mem_of_getElem? (i := 7) rfl))) (by decide) (backOf (W := 0) (rm3 l Z a0 hw [] ba st en kb b0 b1 b2 b3 (h0) n0 Z0 V0) hZ (hw _ (List.mem_of_getElem? (i := 7) rfl)) (hw _ (List.mem_of_getElem? (i := 3) rfl)) (by decide) (by decide)) (g := (mkF m 3 #[.val (.ref ba), .val (.int st), .val (.int en), .unset] [(.int en), (.int st), (.ref ba)])) rfl (by rw [hml]; rfl) (argsL := [(.ref ba), (.int st), (.int en)]) (rest := []) (lenOf pd4_1 rfl) rfl (by show 2 * 0 + _ ≤ _; exact Nat.le_of_eq rfl) (hb hby d4_3) (fun _ _ => ⟨rfl, e0, (by decide : 0 + 0 ≤ _), (by decide : 0 + 0 ≤ _)⟩)
  dsimp only [Pt.U, Pt.locs, Pt.cells, Pt.slots] at X17 l17 y17 z17 st17 hQ17
  subst l17 y17 z17
  obtain ⟨rfl, N17q, e17⟩ := hQ17
  have N17 := Fr.app N0 N17q
  refine OFin.back st17 ?_
  show OFin p e below s _ _ Q (T17.setTop (mkF m 6 #[.val (.ref ba), .val (.int st), .val (.int en), .unset] [(.int (own_stop b0 b1 b2 b3 st en))]))
  refine OFin.back (fun _ hr => XS.istoreN X17.here hx rfl (hb hby d4_6) rfl (l' := #[.val (.ref ba), .val (.int st), .val (.int en), .val (.int (own_stop b0 b1 b2 b3 st en))]) rfl hr) ?_
  show OFin p e below s _ _ Q (T17.setTop (mkF m 7 #[.val (.ref ba), .val (.int st), .val (.int en), .val (.int (own_stop b0 b1 b2 b3 st en))] []))
  refine OFin.back (fun _ hr => XS.iloadN X17.here hx rfl (hb hby d4_7) rfl hr) ?_
  show OFin p e below s _ _ Q (T17.setTop (mkF m 8 #[.val (.ref ba), .val (.int st), .val (.int en), .val (.int (own_stop b0 b1 b2 b3 st en))] [(.int (own_stop b0 b1 b2 b3 st en))]))
  refine OFin.back (fun _ hr => XS.iloadN X17.here hx rfl (hb hby d4_8) rfl hr) ?_
  show OFin p e below s _ _ Q (T17.setTop (mkF m 9 #[.val (.ref ba), .val (.int st), .val (.int en), .val (.int (own_stop b0 b1 b2 b3 st en))] [(.int st), (.int (own_stop b0 b1 b2 b3 st en))]))
  by_cases hc9_18 : (own_stop b0 b1 b2 b3 st en) = st
  · -- (own_stop b0 b1 b2 b3 st en) = st
    refine OFin.back (fun _ hr => XS.icmpNo X17.here hx rfl (hb hby d4_9) rfl (teq hc9_18).2 hr) ?_
    show OFin p e below s _ _ Q (T17.setTop (mkF m 12 #[.val (.ref ba), .val (.int st), .val (.int en), .val (.int (own_stop b0 b1 b2 b3 st en))] []))
    refine OFin.back (fun _ hr => XS.iconst X17.here hx rfl (hb hby d4_12) hr) ?_
    show OFin p e below s _ _ Q (T17.setTop (mkF m 13 #[.val (.ref ba), .val (.int st), .val (.int en), .val (.int (own_stop b0 b1 b2 b3 st en))] [(.int (-1 : Int32))]))
    exact OFin.outI X17 hx Bd.returns Bd.notSynchronized (hb hby d4_13) (by decide) (by decide) e17 (by rw [hQ]; exact ⟨by rw [own_ref, if_pos hc9_18]; try rfl, N17, rfl⟩)
  · -- not (own_stop b0 b1 b2 b3 st en) = st
    refine OFin.back (fun _ hr => XS.icmpYes X17.here hx rfl (pc0 := 9) (pc' := 14) rfl (hb hby d4_9) rfl (feq hc9_18).2 (by decide) (by decide) hr) ?_
    show OFin p e below s _ _ Q (T17.setTop (mkF m 14 #[.val (.ref ba), .val (.int st), .val (.int en), .val (.int (own_stop b0 b1 b2 b3 st en))] []))
    have i1 := own_r1 hs0 hse he4 hc9_18
    have i2 := own_r2 hs0 hse he4 hc9_18
    refine OFin.back (fun _ hr => XS.aloadN X17.here hx rfl (hb hby d4_14) rfl rfl hr) ?_
    show OFin p e below s _ _ Q (T17.setTop (mkF m 15 #[.val (.ref ba), .val (.int st), .val (.int en), .val (.int (own_stop b0 b1 b2 b3 st en))] [(.ref ba)]))
    refine OFin.back (fun _ hr => XS.iloadN X17.here hx rfl (hb hby d4_15) rfl hr) ?_
    show OFin p e below s _ _ Q (T17.setTop (mkF m 16 #[.val (.ref ba), .val (.int st), .val (.int en), .val (.int (own_stop b0 b1 b2 b3 st en))] [(.int st), (.ref ba)]))
    obtain ⟨cl19, Ar19, q19, S19, M19, H19, G19⟩ := id V0
    have hin19 : ¬ (st < 0 ∨ cl19.slots.size ≤ (st).toNatClampNeg) := inb_of S19 i1
    refine OFin.back (X17.baloadBytes hx (j := st) (v := (.int (own_sel b0 b1 b2 b3 st))) (by rw [e17]; exact Ar19.1) (State.isArrayOf_alike hZ.alike Ar19.2.1) Ar19.2.2 hin19 (H19.at hin19 (own_selAt i1)) (g := (mkF m 16 #[.val (.ref ba), .val (.int st), .val (.int en), .val (.int (own_stop b0 b1 b2 b3 st en))] [(.int st), (.ref ba)])) rfl rfl (hb hby d4_16)) ?_
    show OFin p e below s _ _ Q (T17.setTop (mkF m 17 #[.val (.ref ba), .val (.int st), .val (.int en), .val (.int (own_stop b0 b1 b2 b3 st en))] [(.int (own_sel b0 b1 b2 b3 st))]))
    obtain ⟨_, _, ⟨T20, L20, k20, n20⟩, -, X20, ⟨Lc20, hQ20, l20, y20, z20⟩, st20⟩ := Jvm.LawKit.callS X17 hx (y := (⟨"com/example/bytelore/bytelore/classfile/NamesBinaryNameEndPinLaw", "slash", "(B)Z"⟩ : MethodName)) hown (mvT hZ (hw _ (List.mem_of_getElem? (i := 15) rfl))) (mvT hZ (hw _ (List.mem_of_getElem? (i := 16) rfl))) (mvT hZ (hw _ (List.mem_of_getElem? (i := 3) rfl))) (mvT hZ (hw _ (List.mem_of_getElem? (i := 17) rfl))) (by decide) (backOf (W := 0) (rm2 l Z a0 hw [] (own_sel b0 b1 b2 b3 st) (h0) n0 Z0) hZ (hw _ (List.mem_of_getElem? (i := 17) rfl)) (hw _ (List.mem_of_getElem? (i := 3) rfl)) (by decide) (by decide)) (g := (mkF m 17 #[.val (.ref ba), .val (.int st), .val (.int en), .val (.int (own_stop b0 b1 b2 b3 st en))] [(.int (own_sel b0 b1 b2 b3 st))])) rfl (by rw [hml]; rfl) (argsL := [(.int (own_sel b0 b1 b2 b3 st))]) (rest := []) (lenOf pd4_0 rfl) rfl (by show 2 * 0 + _ ≤ _; exact Nat.le_of_eq rfl) (hb hby d4_17) (fun _ _ => ⟨rfl, e17, (by decide : 0 + 0 ≤ _), (by decide : 0 + 0 ≤ _)⟩)
    dsimp only [Pt.U, Pt.locs, Pt.cells, Pt.slots] at X20 l20 y20 z20 st20 hQ20
    subst l20 y20 z20
    obtain ⟨rfl, N20q, e20⟩ := hQ20
    have N20 := Fr.app N17 N20q
    refine OFin.back st20 ?_
    show OFin p e below s _ _ Q (T20.setTop (mkF m 20 #[.val (.ref ba), .val (.int st), .val (.int en), .val (.int (own_stop b0 b1 b2 b3 st en))] [(.int (own_slash (own_sel b0 b1 b2 b3 st)))]))
    by_cases hc20_21 : (own_slash (own_sel b0 b1 b2 b3 st)) = (0 : Int32)
    · -- (own_slash (own_sel b0 b1 b2 b3 st)) = (0 : Int32)
      refine OFin.back (fun _ hr => XS.ifYes X20.here hx rfl (pc0 := 20) (pc' := 25) rfl (hb hby d4_20) rfl ((if0 _ _).trans (teq hc20_21).1) (by decide) (by decide) hr) ?_
      show OFin p e below s _ _ Q (T20.setTop (mkF m 25 #[.val (.ref ba), .val (.int st), .val (.int en), .val (.int (own_stop b0 b1 b2 b3 st en))] []))
      refine OFin.back (fun _ hr => XS.aloadN X20.here hx rfl (hb hby d4_25) rfl rfl hr) ?_
      show OFin p e below s _ _ Q (T20.setTop (mkF m 26 #[.val (.ref ba), .val (.int st), .val (.int en), .val (.int (own_stop b0 b1 b2 b3 st en))] [(.ref ba)]))
      refine OFin.back (fun _ hr => XS.iloadN X20.here hx rfl (hb hby d4_26) rfl hr) ?_
      show OFin p e below s _ _ Q (T20.setTop (mkF m 27 #[.val (.ref ba), .val (.int st), .val (.int en), .val (.int (own_stop b0 b1 b2 b3 st en))] [(.int (own_stop b0 b1 b2 b3 st en)), (.ref ba)]))
      refine OFin.back (fun _ hr => XS.iconst X20.here hx rfl (hb hby d4_27) hr) ?_
      show OFin p e below s _ _ Q (T20.setTop (mkF m 28 #[.val (.ref ba), .val (.int st), .val (.int en), .val (.int (own_stop b0 b1 b2 b3 st en))] [(.int (1 : Int32)), (.int (own_stop b0 b1 b2 b3 st en)), (.ref ba)]))
      refine OFin.back (fun _ hr => XS.isub X20.here hx rfl (hb hby d4_28) rfl hr) ?_
      show OFin p e below s _ _ Q (T20.setTop (mkF m 29 #[.val (.ref ba), .val (.int st), .val (.int en), .val (.int (own_stop b0 b1 b2 b3 st en))] [(.int ((own_stop b0 b1 b2 b3 st en) - (1 : Int32))), (.ref ba)]))
      obtain ⟨cl22, Ar22, q22, S22, M22, H22, G22⟩ := id V0
      have hin22 : ¬ (((own_stop b0 b1 b2 b3 st en) - (1 : Int32)) < 0 ∨ cl22.slots.size ≤ (((own_stop b0 b1 b2 b3 st en) - (1 : Int32))).toNatClampNeg) := inb_of S22 i2
      refine OFin.back (X20.baloadBytes hx (j := ((own_stop b0 b1 b2 b3 st en) - (1 : Int32))) (v := (.int (own_sel b0 b1 b2 b3 ((own_stop b0 b1 b2 b3 st en) - (1 : Int32))))) (by rw [e20]; exact Ar22.1) (State.isArrayOf_alike hZ.alike Ar22.2.1) Ar22.2.2 hin22 (H22.at hin22 (own_selAt i2)) (g := (mkF m 29 #[.val (.ref ba), .val (.int st), .val (.int en), .val (.int (own_stop b0 b1 b2 b3 st en))] [(.int ((own_stop b0 b1 b2 b3 st en) - (1 : Int32))), (.ref ba)])) rfl rfl (hb hby d4_29)) ?_
      show OFin p e below s _ _ Q (T20.setTop (mkF m 30 #[.val (.ref ba), .val (.int st), .val (.int en), .val (.int (own_stop b0 b1 b2 b3 st en))] [(.int (own_sel b0 b1 b2 b3 ((own_stop b0 b1 b2 b3 st en) - (1 : Int32))))]))
      obtain ⟨_, _, ⟨T23, L23, k23, n23⟩, -, X23, ⟨Lc23, hQ23, l23, y23, z23⟩, st23⟩ := Jvm.LawKit.callS X20 hx (y := (⟨"com/example/bytelore/bytelore/classfile/NamesBinaryNameEndPinLaw", "slash", "(B)Z"⟩ : MethodName)) hown (mvT hZ (hw _ (List.mem_of_getElem? (i := 15) rfl))) (mvT hZ (hw _ (List.mem_of_getElem? (i := 16) rfl))) (mvT hZ (hw _ (List.mem_of_getElem? (i := 3) rfl))) (mvT hZ (hw _ (List.mem_of_getElem? (i := 17) rfl))) (by decide) (backOf (W := 0) (rm2 l Z a0 hw [] (own_sel b0 b1 b2 b3 ((own_stop b0 b1 b2 b3 st en) - (1 : Int32))) (h0) n0 Z0) hZ (hw _ (List.mem_of_getElem? (i := 17) rfl)) (hw _ (List.mem_of_getElem? (i := 3) rfl)) (by decide) (by decide)) (g := (mkF m 30 #[.val (.ref ba), .val (.int st), .val (.int en), .val (.int (own_stop b0 b1 b2 b3 st en))] [(.int (own_sel b0 b1 b2 b3 ((own_stop b0 b1 b2 b3 st en) - (1 : Int32))))])) rfl (by rw [hml]; rfl) (argsL := [(.int (own_sel b0 b1 b2 b3 ((own_stop b0 b1 b2 b3 st en) - (1 : Int32))))]) (rest := []) (lenOf pd4_0 rfl) rfl (by show 2 * 0 + _ ≤ _; exact Nat.le_of_eq rfl) (hb hby d4_30) (fun _ _ => ⟨rfl, e20, (by decide : 0 + 0 ≤ _), (by decide : 0 + 0 ≤ _)⟩)
      dsimp only [Pt.U, Pt.locs, Pt.cells, Pt.slots] at X23 l23 y23 z23 st23 hQ23
      subst l23 y23 z23
      obtain ⟨rfl, N23q, e23⟩ := hQ23
      have N23 := Fr.app N20 N23q
      refine OFin.back st23 ?_
      show OFin p e below s _ _ Q (T23.setTop (mkF m 33 #[.val (.ref ba), .val (.int st), .val (.int en), .val (.int (own_stop b0 b1 b2 b3 st en))] [(.int (own_slash (own_sel b0 b1 b2 b3 ((own_stop b0 b1 b2 b3 st en) - (1 : Int32)))))]))
      by_cases hc33_24 : (own_slash (own_sel b0 b1 b2 b3 ((own_stop b0 b1 b2 b3 st en) - (1 : Int32)))) = (0 : Int32)
      · -- (own_slash (own_sel b0 b1 b2 b3 ((own_stop b0 b1 b2 b3 st en) - (1 : Int32)))) = (0 : Int32)
        refine OFin.back (fun _ hr => XS.ifYes X23.here hx rfl (pc0 := 33) (pc' := 38) rfl (hb hby d4_33) rfl ((if0 _ _).trans (teq hc33_24).1) (by decide) (by decide) hr) ?_
        show OFin p e below s _ _ Q (T23.setTop (mkF m 38 #[.val (.ref ba), .val (.int st), .val (.int en), .val (.int (own_stop b0 b1 b2 b3 st en))] []))
        refine OFin.back (fun _ hr => XS.iloadN X23.here hx rfl (hb hby d4_38) rfl hr) ?_
        show OFin p e below s _ _ Q (T23.setTop (mkF m 39 #[.val (.ref ba), .val (.int st), .val (.int en), .val (.int (own_stop b0 b1 b2 b3 st en))] [(.int st)]))
        by_cases hc39_25 : (0 : Int32) < st
        · -- (0 : Int32) < st
          refine OFin.back (fun _ hr => XS.ifYes X23.here hx rfl (pc0 := 39) (pc' := 67) rfl (hb hby d4_39) rfl ((if0 _ _).trans (tlt hc39_25).2.2.1) (by decide) (by decide) hr) ?_
          show OFin p e below s _ _ Q (T23.setTop (mkF m 67 #[.val (.ref ba), .val (.int st), .val (.int en), .val (.int (own_stop b0 b1 b2 b3 st en))] []))
          exact J67 _ _ X23 e23 N23 (by rw [own_ref, if_neg hc9_18, if_pos hc20_21, if_pos hc33_24, if_pos hc39_25])
        · -- not (0 : Int32) < st
          refine OFin.back (fun _ hr => XS.ifNo X23.here hx rfl (hb hby d4_39) rfl ((if0 _ _).trans (flt hc39_25).2.2.1) hr) ?_
          show OFin p e below s _ _ Q (T23.setTop (mkF m 42 #[.val (.ref ba), .val (.int st), .val (.int en), .val (.int (own_stop b0 b1 b2 b3 st en))] []))
          refine OFin.back (fun _ hr => XS.iconst X23.here hx rfl (hb hby d4_42) hr) ?_
          show OFin p e below s _ _ Q (T23.setTop (mkF m 43 #[.val (.ref ba), .val (.int st), .val (.int en), .val (.int (own_stop b0 b1 b2 b3 st en))] [(.int (1 : Int32))]))
          refine OFin.back (fun _ hr => XS.iloadN X23.here hx rfl (hb hby d4_43) rfl hr) ?_
          show OFin p e below s _ _ Q (T23.setTop (mkF m 44 #[.val (.ref ba), .val (.int st), .val (.int en), .val (.int (own_stop b0 b1 b2 b3 st en))] [(.int (own_stop b0 b1 b2 b3 st en)), (.int (1 : Int32))]))
          by_cases hc44_26 : (1 : Int32) < (own_stop b0 b1 b2 b3 st en)
          · -- (1 : Int32) < (own_stop b0 b1 b2 b3 st en)
            refine OFin.back (fun _ hr => XS.icmpNo X23.here hx rfl (hb hby d4_44) rfl (tlt hc44_26).2.1 hr) ?_
            show OFin p e below s _ _ Q (T23.setTop (mkF m 47 #[.val (.ref ba), .val (.int st), .val (.int en), .val (.int (own_stop b0 b1 b2 b3 st en))] []))
            refine OFin.back (fun _ hr => XS.aloadN X23.here hx rfl (hb hby d4_47) rfl rfl hr) ?_
            show OFin p e below s _ _ Q (T23.setTop (mkF m 48 #[.val (.ref ba), .val (.int st), .val (.int en), .val (.int (own_stop b0 b1 b2 b3 st en))] [(.ref ba)]))
            refine OFin.back (fun _ hr => XS.iconst X23.here hx rfl (hb hby d4_48) hr) ?_
            show OFin p e below s _ _ Q (T23.setTop (mkF m 49 #[.val (.ref ba), .val (.int st), .val (.int en), .val (.int (own_stop b0 b1 b2 b3 st en))] [(.int (0 : Int32)), (.ref ba)]))
            obtain ⟨cl27, Ar27, q27, S27, M27, H27, G27⟩ := id V0
            have hin27 : ¬ ((0 : Int32) < 0 ∨ cl27.slots.size ≤ ((0 : Int32)).toNatClampNeg) := inb_of S27 ⟨by decide, by decide⟩
            refine OFin.back (X23.baloadBytes hx (j := (0 : Int32)) (v := (.int b0)) (by rw [e23]; exact Ar27.1) (State.isArrayOf_alike hZ.alike Ar27.2.1) Ar27.2.2 hin27 (H27.at hin27 rfl) (g := (mkF m 49 #[.val (.ref ba), .val (.int st), .val (.int en), .val (.int (own_stop b0 b1 b2 b3 st en))] [(.int (0 : Int32)), (.ref ba)])) rfl rfl (hb hby d4_49)) ?_
            show OFin p e below s _ _ Q (T23.setTop (mkF m 50 #[.val (.ref ba), .val (.int st), .val (.int en), .val (.int (own_stop b0 b1 b2 b3 st en))] [(.int b0)]))
            obtain ⟨_, _, ⟨T28, L28, k28, n28⟩, -, X28, ⟨Lc28, hQ28, l28, y28, z28⟩, st28⟩ := Jvm.LawKit.callS X23 hx (y := (⟨"com/example/bytelore/bytelore/classfile/NamesBinaryNameEndPinLaw", "slash", "(B)Z"⟩ : MethodName)) hown (mvT hZ (hw _ (List.mem_of_getElem? (i := 15) rfl))) (mvT hZ (hw _ (List.mem_of_getElem? (i := 16) rfl))) (mvT hZ (hw _ (List.mem_of_getElem? (i := 3) rfl))) (mvT hZ (hw _ (List.mem_of_getElem? (i := 17) rfl))) (by decide) (backOf (W := 0) (rm2 l Z a0 hw [] b0 (h0) n0 Z0) hZ (hw _ (List.mem_of_getElem? (i := 17) rfl)) (hw _ (List.mem_of_getElem? (i := 3) rfl)) (by decide) (by decide)) (g := (mkF m 50 #[.val (.ref ba), .val (.int st), .val (.int en), .val (.int (own_stop b0 b1 b2 b3 st en))] [(.int b0)])) rfl (by rw [hml]; rfl) (argsL := [(.int b0)]) (rest := []) (lenOf pd4_0 rfl) rfl (by show 2 * 0 + _ ≤ _; exact Nat.le_of_eq rfl) (hb hby d4_50) (fun _ _ => ⟨rfl, e23, (by decide : 0 + 0 ≤ _), (by decide : 0 + 0 ≤ _)⟩)
            dsimp only [Pt.U, Pt.locs, Pt.cells, Pt.slots] at X28 l28 y28 z28 st28 hQ28
            subst l28 y28 z28
            obtain ⟨rfl, N28q, e28⟩ := hQ28
            have N28 := Fr.app N23 N28q
            refine OFin.back st28 ?_
            show OFin p e below s _ _ Q (T28.setTop (mkF m 53 #[.val (.ref ba), .val (.int st), .val (.int en), .val (.int (own_stop b0 b1 b2 b3 st en))] [(.int (own_slash b0))]))
            by_cases hc53_29 : (own_slash b0) = (0 : Int32)
            · -- (own_slash b0) = (0 : Int32)
              refine OFin.back (fun _ hr => XS.ifYes X28.here hx rfl (pc0 := 53) (pc' := 67) rfl (hb hby d4_53) rfl ((if0 _ _).trans (teq hc53_29).1) (by decide) (by decide) hr) ?_
              show OFin p e below s _ _ Q (T28.setTop (mkF m 67 #[.val (.ref ba), .val (.int st), .val (.int en), .val (.int (own_stop b0 b1 b2 b3 st en))] []))
              exact J67 _ _ X28 e28 N28 (by rw [own_ref, if_neg hc9_18, if_pos hc20_21, if_pos hc33_24, if_neg hc39_25, if_pos hc44_26, if_pos hc53_29])
            · -- not (own_slash b0) = (0 : Int32)
              refine OFin.back (fun _ hr => XS.ifNo X28.here hx rfl (hb hby d4_53) rfl ((if0 _ _).trans (feq hc53_29).1) hr) ?_
              show OFin p e below s _ _ Q (T28.setTop (mkF m 56 #[.val (.ref ba), .val (.int st), .val (.int en), .val (.int (own_stop b0 b1 b2 b3 st en))] []))
              refine OFin.back (fun _ hr => XS.aloadN X28.here hx rfl (hb hby d4_56) rfl rfl hr) ?_
              show OFin p e below s _ _ Q (T28.setTop (mkF m 57 #[.val (.ref ba), .val (.int st), .val (.int en), .val (.int (own_stop b0 b1 b2 b3 st en))] [(.ref ba)]))
              refine OFin.back (fun _ hr => XS.iconst X28.here hx rfl (hb hby d4_57) hr) ?_
              show OFin p e below s _ _ Q (T28.setTop (mkF m 58 #[.val (.ref ba), .val (.int st), .val (.int en), .val (.int (own_stop b0 b1 b2 b3 st en))] [(.int (1 : Int32)), (.ref ba)]))
              obtain ⟨cl30, Ar30, q30, S30, M30, H30, G30⟩ := id V0
              have hin30 : ¬ ((1 : Int32) < 0 ∨ cl30.slots.size ≤ ((1 : Int32)).toNatClampNeg) := inb_of S30 ⟨by decide, by decide⟩
              refine OFin.back (X28.baloadBytes hx (j := (1 : Int32)) (v := (.int b1)) (by rw [e28]; exact Ar30.1) (State.isArrayOf_alike hZ.alike Ar30.2.1) Ar30.2.2 hin30 (H30.at hin30 rfl) (g := (mkF m 58 #[.val (.ref ba), .val (.int st), .val (.int en), .val (.int (own_stop b0 b1 b2 b3 st en))] [(.int (1 : Int32)), (.ref ba)])) rfl rfl (hb hby d4_58)) ?_
              show OFin p e below s _ _ Q (T28.setTop (mkF m 59 #[.val (.ref ba), .val (.int st), .val (.int en), .val (.int (own_stop b0 b1 b2 b3 st en))] [(.int b1)]))
              obtain ⟨_, _, ⟨T31, L31, k31, n31⟩, -, X31, ⟨Lc31, hQ31, l31, y31, z31⟩, st31⟩ := Jvm.LawKit.callS X28 hx (y := (⟨"com/example/bytelore/bytelore/classfile/NamesBinaryNameEndPinLaw", "slash", "(B)Z"⟩ : MethodName)) hown (mvT hZ (hw _ (List.mem_of_getElem? (i := 15) rfl))) (mvT hZ (hw _ (List.mem_of_getElem? (i := 16) rfl))) (mvT hZ (hw _ (List.mem_of_getElem? (i := 3) rfl))) (mvT hZ (hw _ (List.mem_of_getElem? (i := 17) rfl))) (by decide) (backOf (W := 0) (rm2 l Z a0 hw [] b1 (h0) n0 Z0) hZ (hw _ (List.mem_of_getElem? (i := 17) rfl)) (hw _ (List.mem_of_getElem? (i := 3) rfl)) (by decide) (by decide)) (g := (mkF m 59 #[.val (.ref ba), .val (.int st), .val (.int en), .val (.int (own_stop b0 b1 b2 b3 st en))] [(.int b1)])) rfl (by rw [hml]; rfl) (argsL := [(.int b1)]) (rest := []) (lenOf pd4_0 rfl) rfl (by show 2 * 0 + _ ≤ _; exact Nat.le_of_eq rfl) (hb hby d4_59) (fun _ _ => ⟨rfl, e28, (by decide : 0 + 0 ≤ _), (by decide : 0 + 0 ≤ _)⟩)
              dsimp only [Pt.U, Pt.locs, Pt.cells, Pt.slots] at X31 l31 y31 z31 st31 hQ31
              subst l31 y31 z31
              obtain ⟨rfl, N31q, e31⟩ := hQ31
              have N31 := Fr.app N28 N31q
              refine OFin.back st31 ?_
              show OFin p e below s _ _ Q (T31.setTop (mkF m 62 #[.val (.ref ba), .val (.int st), .val (.int en), .val (.int (own_stop b0 b1 b2 b3 st en))] [(.int (own_slash b1))]))
              by_cases hc62_32 : (own_slash b1) = (0 : Int32)
              · -- (own_slash b1) = (0 : Int32)
                refine OFin.back (fun _ hr => XS.ifYes X31.here hx rfl (pc0 := 62) (pc' := 67) rfl (hb hby d4_62) rfl ((if0 _ _).trans (teq hc62_32).1) (by decide) (by decide) hr) ?_
                show OFin p e below s _ _ Q (T31.setTop (mkF m 67 #[.val (.ref ba), .val (.int st), .val (.int en), .val (.int (own_stop b0 b1 b2 b3 st en))] []))
                exact J67 _ _ X31 e31 N31 (by rw [own_ref, if_neg hc9_18, if_pos hc20_21, if_pos hc33_24, if_neg hc39_25, if_pos hc44_26, if_neg hc53_29, if_pos hc62_32])
              · -- not (own_slash b1) = (0 : Int32)
                refine OFin.back (fun _ hr => XS.ifNo X31.here hx rfl (hb hby d4_62) rfl ((if0 _ _).trans (feq hc62_32).1) hr) ?_
                show OFin p e below s _ _ Q (T31.setTop (mkF m 65 #[.val (.ref ba), .val (.int st), .val (.int en), .val (.int (own_stop b0 b1 b2 b3 st en))] []))
                refine OFin.back (fun _ hr => XS.iconst X31.here hx rfl (hb hby d4_65) hr) ?_
                show OFin p e below s _ _ Q (T31.setTop (mkF m 66 #[.val (.ref ba), .val (.int st), .val (.int en), .val (.int (own_stop b0 b1 b2 b3 st en))] [(.int (-1 : Int32))]))
                exact OFin.outI X31 hx Bd.returns Bd.notSynchronized (hb hby d4_66) (by decide) (by decide) e31 (by rw [hQ]; exact ⟨by rw [own_ref, if_neg hc9_18, if_pos hc20_21, if_pos hc33_24, if_neg hc39_25, if_pos hc44_26, if_neg hc53_29, if_neg hc62_32]; try rfl, N31, rfl⟩)
          · -- not (1 : Int32) < (own_stop b0 b1 b2 b3 st en)
            refine OFin.back (fun _ hr => XS.icmpYes X23.here hx rfl (pc0 := 44) (pc' := 67) rfl (hb hby d4_44) rfl (flt hc44_26).2.1 (by decide) (by decide) hr) ?_
            show OFin p e below s _ _ Q (T23.setTop (mkF m 67 #[.val (.ref ba), .val (.int st), .val (.int en), .val (.int (own_stop b0 b1 b2 b3 st en))] []))
            exact J67 _ _ X23 e23 N23 (by rw [own_ref, if_neg hc9_18, if_pos hc20_21, if_pos hc33_24, if_neg hc39_25, if_neg hc44_26])
      · -- not (own_slash (own_sel b0 b1 b2 b3 ((own_stop b0 b1 b2 b3 st en) - (1 : Int32)))) = (0 : Int32)
        refine OFin.back (fun _ hr => XS.ifNo X23.here hx rfl (hb hby d4_33) rfl ((if0 _ _).trans (feq hc33_24).1) hr) ?_
        show OFin p e below s _ _ Q (T23.setTop (mkF m 36 #[.val (.ref ba), .val (.int st), .val (.int en), .val (.int (own_stop b0 b1 b2 b3 st en))] []))
        refine OFin.back (fun _ hr => XS.iconst X23.here hx rfl (hb hby d4_36) hr) ?_
        show OFin p e below s _ _ Q (T23.setTop (mkF m 37 #[.val (.ref ba), .val (.int st), .val (.int en), .val (.int (own_stop b0 b1 b2 b3 st en))] [(.int (-1 : Int32))]))
        exact OFin.outI X23 hx Bd.returns Bd.notSynchronized (hb hby d4_37) (by decide) (by decide) e23 (by rw [hQ]; exact ⟨by rw [own_ref, if_neg hc9_18, if_pos hc20_21, if_neg hc33_24]; try rfl, N23, rfl⟩)
    · -- not (own_slash (own_sel b0 b1 b2 b3 st)) = (0 : Int32)
      refine OFin.back (fun _ hr => XS.ifNo X20.here hx rfl (hb hby d4_20) rfl ((if0 _ _).trans (feq hc20_21).1) hr) ?_
      show OFin p e below s _ _ Q (T20.setTop (mkF m 23 #[.val (.ref ba), .val (.int st), .val (.int en), .val (.int (own_stop b0 b1 b2 b3 st en))] []))
      refine OFin.back (fun _ hr => XS.iconst X20.here hx rfl (hb hby d4_23) hr) ?_
      show OFin p e below s _ _ Q (T20.setTop (mkF m 24 #[.val (.ref ba), .val (.int st), .val (.int en), .val (.int (own_stop b0 b1 b2 b3 st en))] [(.int (-1 : Int32))]))
      exact OFin.outI X20 hx Bd.returns Bd.notSynchronized (hb hby d4_24) (by decide) (by decide) e20 (by rw [hQ]; exact ⟨by rw [own_ref, if_neg hc9_18, if_neg hc20_21]; try rfl, N20, rfl⟩)
theorem d5_0 : decode prog_107_method_3_code 0 = .ok (.iconst 1, 1) := by decide +kernel
theorem d5_1 : decode prog_107_method_3_code 1 = .ok (.istore_n 3, 1) := by decide +kernel
theorem d5_2 : decode prog_107_method_3_code 2 = .ok (.iconst 0, 1) := by decide +kernel
theorem d5_3 : decode prog_107_method_3_code 3 = .ok (.istore 4, 2) := by decide +kernel
theorem d5_5 : decode prog_107_method_3_code 5 = .ok (.iload_n 1, 1) := by decide +kernel
theorem d5_6 : decode prog_107_method_3_code 6 = .ok (.istore 5, 2) := by decide +kernel
theorem d5_8 : decode prog_107_method_3_code 8 = .ok (.iload 5, 2) := by decide +kernel
theorem d5_10 : decode prog_107_method_3_code 10 = .ok (.iload_n 2, 1) := by decide +kernel
theorem d5_11 : decode prog_107_method_3_code 11 = .ok (.if_icmp .ge 45, 3) := by decide +kernel
theorem d5_14 : decode prog_107_method_3_code 14 = .ok (.getstatic 13, 3) := by decide +kernel
theorem d5_17 : decode prog_107_method_3_code 17 = .ok (.aload_n 0, 1) := by decide +kernel
theorem d5_18 : decode prog_107_method_3_code 18 = .ok (.iload 5, 2) := by decide +kernel
theorem d5_20 : decode prog_107_method_3_code 20 = .ok (.baload, 1) := by decide +kernel
theorem d5_21 : decode prog_107_method_3_code 21 = .ok (.sipush 255, 3) := by decide +kernel
theorem d5_24 : decode prog_107_method_3_code 24 = .ok (.iand, 1) := by decide +kernel
theorem d5_25 : decode prog_107_method_3_code 25 = .ok (.baload, 1) := by decide +kernel
theorem d5_26 : decode prog_107_method_3_code 26 = .ok (.istore 6, 2) := by decide +kernel
theorem d5_28 : decode prog_107_method_3_code 28 = .ok (.iload 6, 2) := by decide +kernel
theorem d5_30 : decode prog_107_method_3_code 30 = .ok (.iconst 2, 1) := by decide +kernel
theorem d5_31 : decode prog_107_method_3_code 31 = .ok (.iand, 1) := by decide +kernel
theorem d5_32 : decode prog_107_method_3_code 32 = .ok (.ifCond .eq 6, 3) := by decide +kernel
theorem d5_35 : decode prog_107_method_3_code 35 = .ok (.goto 21, 3) := by decide +kernel
theorem d5_38 : decode prog_107_method_3_code 38 = .ok (.iload 4, 2) := by decide +kernel
theorem d5_40 : decode prog_107_method_3_code 40 = .ok (.iload_n 3, 1) := by decide +kernel
theorem d5_41 : decode prog_107_method_3_code 41 = .ok (.iload 6, 2) := by decide +kernel
theorem d5_43 : decode prog_107_method_3_code 43 = .ok (.iand, 1) := by decide +kernel
theorem d5_44 : decode prog_107_method_3_code 44 = .ok (.ior, 1) := by decide +kernel
theorem d5_45 : decode prog_107_method_3_code 45 = .ok (.istore 4, 2) := by decide +kernel
theorem d5_47 : decode prog_107_method_3_code 47 = .ok (.iload 6, 2) := by decide +kernel
theorem d5_49 : decode prog_107_method_3_code 49 = .ok (.istore_n 3, 1) := by decide +kernel
theorem d5_50 : decode prog_107_method_3_code 50 = .ok (.iinc 5 1, 3) := by decide +kernel
theorem d5_53 : decode prog_107_method_3_code 53 = .ok (.goto (-45), 3) := by decide +kernel
theorem d5_56 : decode prog_107_method_3_code 56 = .ok (.iload 4, 2) := by decide +kernel
theorem d5_58 : decode prog_107_method_3_code 58 = .ok (.iload_n 3, 1) := by decide +kernel
theorem d5_59 : decode prog_107_method_3_code 59 = .ok (.ior, 1) := by decide +kernel
theorem d5_60 : decode prog_107_method_3_code 60 = .ok (.iconst 1, 1) := by decide +kernel
theorem d5_61 : decode prog_107_method_3_code 61 = .ok (.iand, 1) := by decide +kernel
theorem d5_62 : decode prog_107_method_3_code 62 = .ok (.ifCond .eq 7, 3) := by decide +kernel
theorem d5_65 : decode prog_107_method_3_code 65 = .ok (.iconst (-1), 1) := by decide +kernel
theorem d5_66 : decode prog_107_method_3_code 66 = .ok (.goto 5, 3) := by decide +kernel
theorem d5_69 : decode prog_107_method_3_code 69 = .ok (.iload 5, 2) := by decide +kernel
theorem d5_71 : decode prog_107_method_3_code 71 = .ok (.ireturn, 1) := by decide +kernel
theorem pn5 : plainName "com/example/bytelore/bytelore/classfile/Names" = true := by first | (simp [plainName, overriddenIn]; done) | decide +kernel
theorem ef5 (m : MethodId) (ba : Addr) (st : Int32) (en : Int32) : entryFrame m #[(.ref ba), (.int st), (.int en)] 7 = mkF m 0 #[.val (.ref ba), .val (.int st), .val (.int en), .unset, .unset, .unset, .unset] [] := by first | (simp [entryFrame, mkF, argsToLocals, Value.category]; done) | rfl
def own_bneL : Nat → Int32 → Int32 → Int32 → Int32 → Int32 → Int32 → Int32 → Int32 → Int32
  | 0, b0, b1, b2, b3, en, pv, fg, ii => (if ((fg ||| pv) &&& (1 : Int32)) = (0 : Int32) then ii else (-1 : Int32))
  | k + 1, b0, b1, b2, b3, en, pv, fg, ii => (if ii < en then (if ((own_kind ((own_sel b0 b1 b2 b3 ii) &&& (255 : Int32))) &&& (2 : Int32)) = (0 : Int32) then (own_bneL k b0 b1 b2 b3 en (own_kind ((own_sel b0 b1 b2 b3 ii) &&& (255 : Int32))) (fg ||| (pv &&& (own_kind ((own_sel b0 b1 b2 b3 ii) &&& (255 : Int32))))) (ii + (1 : Int32))) else (if ((fg ||| pv) &&& (1 : Int32)) = (0 : Int32) then ii else (-1 : Int32))) else (if ((fg ||| pv) &&& (1 : Int32)) = (0 : Int32) then ii else (-1 : Int32)))
def own_bne (b0 : Int32) (b1 : Int32) (b2 : Int32) (b3 : Int32) (st : Int32) (en : Int32) : Int32 := (own_bneL 4 b0 b1 b2 b3 en (1 : Int32) (0 : Int32) st)
def Q5 (Z : State) (ba : Addr) (st : Int32) (en : Int32) (kb : ClassId) (b0 : Int32) (b1 : Int32) (b2 : Int32) (b3 : Int32) (ka : Addr) (cl : Cell) (h0 : Heap) (n0 : Nat) (v : Option Value) (h : Heap) (L : List Loc) : Prop := v = some (.int (own_bne b0 b1 b2 b3 st en)) ∧ Fr n0 L ∧ h = h0
set_option maxRecDepth 65536 in
set_option maxHeartbeats 40000000 in
theorem rm5 (l : Launch) (Z : State) (a0 : Array Value) (hw : ∀ d ∈ tables_1, d.before a0 Z = true) (ws : List Jvm.Cond) (ba : Addr) (st : Int32) (en : Int32) (kb : ClassId) (b0 : Int32) (b1 : Int32) (b2 : Int32) (b3 : Int32) (ka : Addr) (cl : Cell) (h0 : Heap) (n0 : Nat) (Z0 : n0 ≤ h0.size) (V0 : Arv Z h0 ba kb .byte (4 : Int32) [(.int b0), (.int b1), (.int b2), (.int b3)] (.int (0 : Int32))) (hs0 : 0 ≤ st.toInt) (hse : st.toInt ≤ en.toInt) (he4 : en.toInt ≤ 4) (S_KINDS : Sta Z h0 "com/example/bytelore/bytelore/classfile/Names" "KINDS" "[B" (.ref ka)) (Ar : Arr Z h0 ka cl .byte) (HK : ∀ j : Int32, ¬ j < 0 ∧ j < (256 : Int32) → ¬ (j < 0 ∨ cl.slots.size ≤ j.toNatClampNeg) ∧ cl.slots[j.toNatClampNeg]? = some (.int (own_kind j))) :
    MetFree l (⟨"com/example/bytelore/bytelore/classfile/Names", "binaryNameEnd", "([BII)I"⟩ : MethodName) (head1 (Jvm.Cond.code (⟨"com/example/bytelore/bytelore/classfile/Names", "binaryNameEnd", "([BII)I"⟩ : MethodName) prog_107_method_3_code 7 (some .int) :: ws) ({ frames := 0, cells := 0, slots := 0, locals := 0 } : Room)) (fun ar_ U => ar_ = #[(.ref ba), (.int st), (.int en)] ∧ Z.Warmed39 U.vm ∧ U.heap = h0) (fun _ _ _ _ _ => True) (fun _ U o U' => ∃ v L, o = .returned v ∧ Q5 Z ba st en kb b0 b1 b2 b3 ka cl h0 n0 v U'.heap L ∧ FrameEnd U o U' L ({ frames := 0, cells := 0, slots := 0, locals := 0 } : Room).cells ({ frames := 0, cells := 0, slots := 0, locals := 0 } : Room).slots) := by
  refine MetFree.of_bodySF (plainFor_of_name pn5) hisR ?_
  intro p e s m args below meth c s₁ Bd hml0 hP hK
  obtain ⟨rfl, hZ, hh⟩ := hP
  have hx := Bd.exec
  have hby := Bd.bytes
  have hml : c.maxLocals = 7 := hml0
  have hown : s.vm.findClass "com/example/bytelore/bytelore/classfile/Names" = some m.cls := findClass_of_methodNamed Bd.named
  have hnm := (name_of_methodNamed Bd.named Bd.method).1
  have X0 : Stand p l e ({ frames := 0, cells := 0, slots := 0, locals := 0 } : Room) s m #[(.ref ba), (.int st), (.int en)] below meth c s₁ [] 0 0 := Stand.of_body Bd
  have e0 : s₁.heap = h0 := by rw [← hh, Bd.state]; rfl
  have N0 := Fr.nil n0
  show OFin p e below s _ _ (Q5 Z ba st en kb b0 b1 b2 b3 ka cl h0 n0) (s₁.setTop (entryFrame m #[(.ref ba), (.int st), (.int en)] 7))
  rw [ef5]
  obtain ⟨Q, hQ⟩ : ∃ Q, Q = Q5 Z ba st en kb b0 b1 b2 b3 ka cl h0 n0 := ⟨_, rfl⟩
  rw [← hQ]
  show OFin p e below s _ _ Q (s₁.setTop (mkF m 0 #[.val (.ref ba), .val (.int st), .val (.int en), .unset, .unset, .unset, .unset] []))
  refine OFin.back (fun _ hr => XS.iconst X0.here hx rfl (hb hby d5_0) hr) ?_
  show OFin p e below s _ _ Q (s₁.setTop (mkF m 1 #[.val (.ref ba), .val (.int st), .val (.int en), .unset, .unset, .unset, .unset] [(.int (1 : Int32))]))
  refine OFin.back (fun _ hr => XS.istoreN X0.here hx rfl (hb hby d5_1) rfl (l' := #[.val (.ref ba), .val (.int st), .val (.int en), .val (.int (1 : Int32)), .unset, .unset, .unset]) rfl hr) ?_
  show OFin p e below s _ _ Q (s₁.setTop (mkF m 2 #[.val (.ref ba), .val (.int st), .val (.int en), .val (.int (1 : Int32)), .unset, .unset, .unset] []))
  refine OFin.back (fun _ hr => XS.iconst X0.here hx rfl (hb hby d5_2) hr) ?_
  show OFin p e below s _ _ Q (s₁.setTop (mkF m 3 #[.val (.ref ba), .val (.int st), .val (.int en), .val (.int (1 : Int32)), .unset, .unset, .unset] [(.int (0 : Int32))]))
  refine OFin.back (fun _ hr => XS.istore X0.here hx rfl (hb hby d5_3) rfl (l' := #[.val (.ref ba), .val (.int st), .val (.int en), .val (.int (1 : Int32)), .val (.int (0 : Int32)), .unset, .unset]) rfl hr) ?_
  show OFin p e below s _ _ Q (s₁.setTop (mkF m 5 #[.val (.ref ba), .val (.int st), .val (.int en), .val (.int (1 : Int32)), .val (.int (0 : Int32)), .unset, .unset] []))
  refine OFin.back (fun _ hr => XS.iloadN X0.here hx rfl (hb hby d5_5) rfl hr) ?_
  show OFin p e below s _ _ Q (s₁.setTop (mkF m 6 #[.val (.ref ba), .val (.int st), .val (.int en), .val (.int (1 : Int32)), .val (.int (0 : Int32)), .unset, .unset] [(.int st)]))
  refine OFin.back (fun _ hr => XS.istore X0.here hx rfl (hb hby d5_6) rfl (l' := #[.val (.ref ba), .val (.int st), .val (.int en), .val (.int (1 : Int32)), .val (.int (0 : Int32)), .val (.int st), .unset]) rfl hr) ?_
  show OFin p e below s _ _ Q (s₁.setTop (mkF m 8 #[.val (.ref ba), .val (.int st), .val (.int en), .val (.int (1 : Int32)), .val (.int (0 : Int32)), .val (.int st), .unset] []))
  have LOOP : ∀ (k : Nat) (pv fg ii : Int32) (TJ : State) (s6 : Slot) (lJ : List Loc), Stand p l e ({ frames := 0, cells := 0, slots := 0, locals := 0 } : Room) s m #[(.ref ba), (.int st), (.int en)] below meth c TJ lJ 0 0 → TJ.heap = h0 → Fr n0 lJ → One s6 → 0 ≤ ii.toInt → en.toInt - ii.toInt ≤ (k : Int) → own_bne b0 b1 b2 b3 st en = own_bneL k b0 b1 b2 b3 en pv fg ii → OFin p e below s ({ frames := 0, cells := 0, slots := 0, locals := 0 } : Room).cells ({ frames := 0, cells := 0, slots := 0, locals := 0 } : Room).slots Q (TJ.setTop (mkF m 8 #[.val (.ref ba), .val (.int st), .val (.int en), .val (.int pv), .val (.int fg), .val (.int ii), s6] [])) := by
    intro k
    induction k with
    | zero =>
      intro pv fg ii TJ s6 lJ XJ eJ NJ hs6 hi0 hk hJ
      have hlt : ¬ ii < en := fun q => by rw [Int32.lt_iff_toInt_lt] at q; omega
      show OFin p e below s _ _ Q (TJ.setTop (mkF m 8 #[.val (.ref ba), .val (.int st), .val (.int en), .val (.int pv), .val (.int fg), .val (.int ii), s6] []))
      refine OFin.back (fun _ hr => XS.iload XJ.here hx rfl (hb hby d5_8) rfl hr) ?_
      show OFin p e below s _ _ Q (TJ.setTop (mkF m 10 #[.val (.ref ba), .val (.int st), .val (.int en), .val (.int pv), .val (.int fg), .val (.int ii), s6] [(.int ii)]))
      refine OFin.back (fun _ hr => XS.iloadN XJ.here hx rfl (hb hby d5_10) rfl hr) ?_
      show OFin p e below s _ _ Q (TJ.setTop (mkF m 11 #[.val (.ref ba), .val (.int st), .val (.int en), .val (.int pv), .val (.int fg), .val (.int ii), s6] [(.int en), (.int ii)]))
      refine OFin.back (fun _ hr => XS.icmpYes XJ.here hx rfl (pc0 := 11) (pc' := 56) rfl (hb hby d5_11) rfl (flt hlt).2.1 (by decide) (by decide) hr) ?_
      show OFin p e below s _ _ Q (TJ.setTop (mkF m 56 #[.val (.ref ba), .val (.int st), .val (.int en), .val (.int pv), .val (.int fg), .val (.int ii), s6] []))
      refine OFin.back (fun _ hr => XS.iload XJ.here hx rfl (hb hby d5_56) rfl hr) ?_
      show OFin p e below s _ _ Q (TJ.setTop (mkF m 58 #[.val (.ref ba), .val (.int st), .val (.int en), .val (.int pv), .val (.int fg), .val (.int ii), s6] [(.int fg)]))
      refine OFin.back (fun _ hr => XS.iloadN XJ.here hx rfl (hb hby d5_58) rfl hr) ?_
      show OFin p e below s _ _ Q (TJ.setTop (mkF m 59 #[.val (.ref ba), .val (.int st), .val (.int en), .val (.int pv), .val (.int fg), .val (.int ii), s6] [(.int pv), (.int fg)]))
      refine OFin.back (fun _ hr => XS.ior XJ.here hx rfl (hb hby d5_59) rfl hr) ?_
      show OFin p e below s _ _ Q (TJ.setTop (mkF m 60 #[.val (.ref ba), .val (.int st), .val (.int en), .val (.int pv), .val (.int fg), .val (.int ii), s6] [(.int (fg ||| pv))]))
      refine OFin.back (fun _ hr => XS.iconst XJ.here hx rfl (hb hby d5_60) hr) ?_
      show OFin p e below s _ _ Q (TJ.setTop (mkF m 61 #[.val (.ref ba), .val (.int st), .val (.int en), .val (.int pv), .val (.int fg), .val (.int ii), s6] [(.int (1 : Int32)), (.int (fg ||| pv))]))
      refine OFin.back (fun _ hr => XS.iand XJ.here hx rfl (hb hby d5_61) rfl hr) ?_
      show OFin p e below s _ _ Q (TJ.setTop (mkF m 62 #[.val (.ref ba), .val (.int st), .val (.int en), .val (.int pv), .val (.int fg), .val (.int ii), s6] [(.int ((fg ||| pv) &&& (1 : Int32)))]))
      by_cases hc62_1 : ((fg ||| pv) &&& (1 : Int32)) = (0 : Int32)
      · -- ((fg ||| pv) &&& (1 : Int32)) = (0 : Int32)
        refine OFin.back (fun _ hr => XS.ifYes XJ.here hx rfl (pc0 := 62) (pc' := 69) rfl (hb hby d5_62) rfl ((if0 _ _).trans (teq hc62_1).1) (by decide) (by decide) hr) ?_
        show OFin p e below s _ _ Q (TJ.setTop (mkF m 69 #[.val (.ref ba), .val (.int st), .val (.int en), .val (.int pv), .val (.int fg), .val (.int ii), s6] []))
        refine OFin.back (fun _ hr => XS.iload XJ.here hx rfl (hb hby d5_69) rfl hr) ?_
        show OFin p e below s _ _ Q (TJ.setTop (mkF m 71 #[.val (.ref ba), .val (.int st), .val (.int en), .val (.int pv), .val (.int fg), .val (.int ii), s6] [(.int ii)]))
        exact OFin.outI XJ hx Bd.returns Bd.notSynchronized (hb hby d5_71) (by decide) (by decide) eJ (by rw [hQ]; exact ⟨by rw [hJ, own_bneL, if_pos hc62_1], NJ, rfl⟩)
      · -- not ((fg ||| pv) &&& (1 : Int32)) = (0 : Int32)
        refine OFin.back (fun _ hr => XS.ifNo XJ.here hx rfl (hb hby d5_62) rfl ((if0 _ _).trans (feq hc62_1).1) hr) ?_
        show OFin p e below s _ _ Q (TJ.setTop (mkF m 65 #[.val (.ref ba), .val (.int st), .val (.int en), .val (.int pv), .val (.int fg), .val (.int ii), s6] []))
        refine OFin.back (fun _ hr => XS.iconst XJ.here hx rfl (hb hby d5_65) hr) ?_
        show OFin p e below s _ _ Q (TJ.setTop (mkF m 66 #[.val (.ref ba), .val (.int st), .val (.int en), .val (.int pv), .val (.int fg), .val (.int ii), s6] [(.int (-1 : Int32))]))
        refine OFin.back (fun _ hr => XS.goto XJ.here hx rfl (pc0 := 66) (pc' := 71) rfl (hb hby d5_66) (by decide) (by decide) hr) ?_
        show OFin p e below s _ _ Q (TJ.setTop (mkF m 71 #[.val (.ref ba), .val (.int st), .val (.int en), .val (.int pv), .val (.int fg), .val (.int ii), s6] [(.int (-1 : Int32))]))
        exact OFin.outI XJ hx Bd.returns Bd.notSynchronized (hb hby d5_71) (by decide) (by decide) eJ (by rw [hQ]; exact ⟨by rw [hJ, own_bneL, if_neg hc62_1], NJ, rfl⟩)
    | succ k ih =>
      intro pv fg ii TJ s6 lJ XJ eJ NJ hs6 hi0 hk hJ
      show OFin p e below s _ _ Q (TJ.setTop (mkF m 8 #[.val (.ref ba), .val (.int st), .val (.int en), .val (.int pv), .val (.int fg), .val (.int ii), s6] []))
      refine OFin.back (fun _ hr => XS.iload XJ.here hx rfl (hb hby d5_8) rfl hr) ?_
      show OFin p e below s _ _ Q (TJ.setTop (mkF m 10 #[.val (.ref ba), .val (.int st), .val (.int en), .val (.int pv), .val (.int fg), .val (.int ii), s6] [(.int ii)]))
      refine OFin.back (fun _ hr => XS.iloadN XJ.here hx rfl (hb hby d5_10) rfl hr) ?_
      show OFin p e below s _ _ Q (TJ.setTop (mkF m 11 #[.val (.ref ba), .val (.int st), .val (.int en), .val (.int pv), .val (.int fg), .val (.int ii), s6] [(.int en), (.int ii)]))
      by_cases hc11_2 : ii < en
      · -- ii < en
        refine OFin.back (fun _ hr => XS.icmpNo XJ.here hx rfl (hb hby d5_11) rfl (tlt hc11_2).2.1 hr) ?_
        show OFin p e below s _ _ Q (TJ.setTop (mkF m 14 #[.val (.ref ba), .val (.int st), .val (.int en), .val (.int pv), .val (.int fg), .val (.int ii), s6] []))
        have hlt := hc11_2
        have ix := own_b3 hi0 hlt he4
        obtain ⟨T3, X3, e3, st3⟩ := getS2 XJ hx hZ hown (host := "") (Or.inl (hw _ (List.mem_of_getElem? (i := 18) rfl))) Via.refl eJ S_KINDS (g := (mkF m 14 #[.val (.ref ba), .val (.int st), .val (.int en), .val (.int pv), .val (.int fg), .val (.int ii), s6] [])) rfl (hb hby d5_14)
        refine OFin.back st3 ?_
        show OFin p e below s _ _ Q (T3.setTop (mkF m 17 #[.val (.ref ba), .val (.int st), .val (.int en), .val (.int pv), .val (.int fg), .val (.int ii), s6] [(.ref ka)]))
        refine OFin.back (fun _ hr => XS.aloadN X3.here hx rfl (hb hby d5_17) rfl rfl hr) ?_
        show OFin p e below s _ _ Q (T3.setTop (mkF m 18 #[.val (.ref ba), .val (.int st), .val (.int en), .val (.int pv), .val (.int fg), .val (.int ii), s6] [(.ref ba), (.ref ka)]))
        refine OFin.back (fun _ hr => XS.iload X3.here hx rfl (hb hby d5_18) rfl hr) ?_
        show OFin p e below s _ _ Q (T3.setTop (mkF m 20 #[.val (.ref ba), .val (.int st), .val (.int en), .val (.int pv), .val (.int fg), .val (.int ii), s6] [(.int ii), (.ref ba), (.ref ka)]))
        obtain ⟨cl4, Ar4, q4, S4, M4, H4, G4⟩ := id V0
        have hin4 : ¬ (ii < 0 ∨ cl4.slots.size ≤ (ii).toNatClampNeg) := inb_of S4 ix
        refine OFin.back (X3.baloadBytes hx (j := ii) (v := (.int (own_sel b0 b1 b2 b3 ii))) (by rw [e3]; exact Ar4.1) (State.isArrayOf_alike hZ.alike Ar4.2.1) Ar4.2.2 hin4 (H4.at hin4 (own_selAt ix)) (g := (mkF m 20 #[.val (.ref ba), .val (.int st), .val (.int en), .val (.int pv), .val (.int fg), .val (.int ii), s6] [(.int ii), (.ref ba), (.ref ka)])) rfl rfl (hb hby d5_20)) ?_
        show OFin p e below s _ _ Q (T3.setTop (mkF m 21 #[.val (.ref ba), .val (.int st), .val (.int en), .val (.int pv), .val (.int fg), .val (.int ii), s6] [(.int (own_sel b0 b1 b2 b3 ii)), (.ref ka)]))
        refine OFin.back (fun _ hr => XS.sipush X3.here hx rfl (hb hby d5_21) hr) ?_
        show OFin p e below s _ _ Q (T3.setTop (mkF m 24 #[.val (.ref ba), .val (.int st), .val (.int en), .val (.int pv), .val (.int fg), .val (.int ii), s6] [(.int (255 : Int32)), (.int (own_sel b0 b1 b2 b3 ii)), (.ref ka)]))
        refine OFin.back (fun _ hr => XS.iand X3.here hx rfl (hb hby d5_24) rfl hr) ?_
        show OFin p e below s _ _ Q (T3.setTop (mkF m 25 #[.val (.ref ba), .val (.int st), .val (.int en), .val (.int pv), .val (.int fg), .val (.int ii), s6] [(.int ((own_sel b0 b1 b2 b3 ii) &&& (255 : Int32))), (.ref ka)]))
        obtain ⟨hin5, hat5⟩ := HK ((own_sel b0 b1 b2 b3 ii) &&& (255 : Int32)) (own_m255 (own_sel b0 b1 b2 b3 ii))
        refine OFin.back (X3.baloadBytes hx (j := ((own_sel b0 b1 b2 b3 ii) &&& (255 : Int32))) (v := (.int (own_kind ((own_sel b0 b1 b2 b3 ii) &&& (255 : Int32))))) (by rw [e3]; exact Ar.1) (State.isArrayOf_alike hZ.alike Ar.2.1) Ar.2.2 hin5 hat5 (g := (mkF m 25 #[.val (.ref ba), .val (.int st), .val (.int en), .val (.int pv), .val (.int fg), .val (.int ii), s6] [(.int ((own_sel b0 b1 b2 b3 ii) &&& (255 : Int32))), (.ref ka)])) rfl rfl (hb hby d5_25)) ?_
        show OFin p e below s _ _ Q (T3.setTop (mkF m 26 #[.val (.ref ba), .val (.int st), .val (.int en), .val (.int pv), .val (.int fg), .val (.int ii), s6] [(.int (own_kind ((own_sel b0 b1 b2 b3 ii) &&& (255 : Int32))))]))
        have os6 : storeLocals #[.val (.ref ba), .val (.int st), .val (.int en), .val (.int pv), .val (.int fg), .val (.int ii), s6] 6 (.int (own_kind ((own_sel b0 b1 b2 b3 ii) &&& (255 : Int32)))) = some #[.val (.ref ba), .val (.int st), .val (.int en), .val (.int pv), .val (.int fg), .val (.int ii), .val (.int (own_kind ((own_sel b0 b1 b2 b3 ii) &&& (255 : Int32))))] := by
          rcases hs6 with rfl | ⟨w, rfl, hw⟩
          · rfl
          · cases w <;> first | rfl | (simp [Value.category] at hw)
        refine OFin.back (fun _ hr => XS.istore X3.here hx rfl (hb hby d5_26) rfl (l' := #[.val (.ref ba), .val (.int st), .val (.int en), .val (.int pv), .val (.int fg), .val (.int ii), .val (.int (own_kind ((own_sel b0 b1 b2 b3 ii) &&& (255 : Int32))))]) os6 hr) ?_
        show OFin p e below s _ _ Q (T3.setTop (mkF m 28 #[.val (.ref ba), .val (.int st), .val (.int en), .val (.int pv), .val (.int fg), .val (.int ii), .val (.int (own_kind ((own_sel b0 b1 b2 b3 ii) &&& (255 : Int32))))] []))
        refine OFin.back (fun _ hr => XS.iload X3.here hx rfl (hb hby d5_28) rfl hr) ?_
        show OFin p e below s _ _ Q (T3.setTop (mkF m 30 #[.val (.ref ba), .val (.int st), .val (.int en), .val (.int pv), .val (.int fg), .val (.int ii), .val (.int (own_kind ((own_sel b0 b1 b2 b3 ii) &&& (255 : Int32))))] [(.int (own_kind ((own_sel b0 b1 b2 b3 ii) &&& (255 : Int32))))]))
        refine OFin.back (fun _ hr => XS.iconst X3.here hx rfl (hb hby d5_30) hr) ?_
        show OFin p e below s _ _ Q (T3.setTop (mkF m 31 #[.val (.ref ba), .val (.int st), .val (.int en), .val (.int pv), .val (.int fg), .val (.int ii), .val (.int (own_kind ((own_sel b0 b1 b2 b3 ii) &&& (255 : Int32))))] [(.int (2 : Int32)), (.int (own_kind ((own_sel b0 b1 b2 b3 ii) &&& (255 : Int32))))]))
        refine OFin.back (fun _ hr => XS.iand X3.here hx rfl (hb hby d5_31) rfl hr) ?_
        show OFin p e below s _ _ Q (T3.setTop (mkF m 32 #[.val (.ref ba), .val (.int st), .val (.int en), .val (.int pv), .val (.int fg), .val (.int ii), .val (.int (own_kind ((own_sel b0 b1 b2 b3 ii) &&& (255 : Int32))))] [(.int ((own_kind ((own_sel b0 b1 b2 b3 ii) &&& (255 : Int32))) &&& (2 : Int32)))]))
        by_cases hc32_7 : ((own_kind ((own_sel b0 b1 b2 b3 ii) &&& (255 : Int32))) &&& (2 : Int32)) = (0 : Int32)
        · -- ((own_kind ((own_sel b0 b1 b2 b3 ii) &&& (255 : Int32))) &&& (2 : Int32)) = (0 : Int32)
          refine OFin.back (fun _ hr => XS.ifYes X3.here hx rfl (pc0 := 32) (pc' := 38) rfl (hb hby d5_32) rfl ((if0 _ _).trans (teq hc32_7).1) (by decide) (by decide) hr) ?_
          show OFin p e below s _ _ Q (T3.setTop (mkF m 38 #[.val (.ref ba), .val (.int st), .val (.int en), .val (.int pv), .val (.int fg), .val (.int ii), .val (.int (own_kind ((own_sel b0 b1 b2 b3 ii) &&& (255 : Int32))))] []))
          refine OFin.back (fun _ hr => XS.iload X3.here hx rfl (hb hby d5_38) rfl hr) ?_
          show OFin p e below s _ _ Q (T3.setTop (mkF m 40 #[.val (.ref ba), .val (.int st), .val (.int en), .val (.int pv), .val (.int fg), .val (.int ii), .val (.int (own_kind ((own_sel b0 b1 b2 b3 ii) &&& (255 : Int32))))] [(.int fg)]))
          refine OFin.back (fun _ hr => XS.iloadN X3.here hx rfl (hb hby d5_40) rfl hr) ?_
          show OFin p e below s _ _ Q (T3.setTop (mkF m 41 #[.val (.ref ba), .val (.int st), .val (.int en), .val (.int pv), .val (.int fg), .val (.int ii), .val (.int (own_kind ((own_sel b0 b1 b2 b3 ii) &&& (255 : Int32))))] [(.int pv), (.int fg)]))
          refine OFin.back (fun _ hr => XS.iload X3.here hx rfl (hb hby d5_41) rfl hr) ?_
          show OFin p e below s _ _ Q (T3.setTop (mkF m 43 #[.val (.ref ba), .val (.int st), .val (.int en), .val (.int pv), .val (.int fg), .val (.int ii), .val (.int (own_kind ((own_sel b0 b1 b2 b3 ii) &&& (255 : Int32))))] [(.int (own_kind ((own_sel b0 b1 b2 b3 ii) &&& (255 : Int32)))), (.int pv), (.int fg)]))
          refine OFin.back (fun _ hr => XS.iand X3.here hx rfl (hb hby d5_43) rfl hr) ?_
          show OFin p e below s _ _ Q (T3.setTop (mkF m 44 #[.val (.ref ba), .val (.int st), .val (.int en), .val (.int pv), .val (.int fg), .val (.int ii), .val (.int (own_kind ((own_sel b0 b1 b2 b3 ii) &&& (255 : Int32))))] [(.int (pv &&& (own_kind ((own_sel b0 b1 b2 b3 ii) &&& (255 : Int32))))), (.int fg)]))
          refine OFin.back (fun _ hr => XS.ior X3.here hx rfl (hb hby d5_44) rfl hr) ?_
          show OFin p e below s _ _ Q (T3.setTop (mkF m 45 #[.val (.ref ba), .val (.int st), .val (.int en), .val (.int pv), .val (.int fg), .val (.int ii), .val (.int (own_kind ((own_sel b0 b1 b2 b3 ii) &&& (255 : Int32))))] [(.int (fg ||| (pv &&& (own_kind ((own_sel b0 b1 b2 b3 ii) &&& (255 : Int32))))))]))
          refine OFin.back (fun _ hr => XS.istore X3.here hx rfl (hb hby d5_45) rfl (l' := #[.val (.ref ba), .val (.int st), .val (.int en), .val (.int pv), .val (.int (fg ||| (pv &&& (own_kind ((own_sel b0 b1 b2 b3 ii) &&& (255 : Int32)))))), .val (.int ii), .val (.int (own_kind ((own_sel b0 b1 b2 b3 ii) &&& (255 : Int32))))]) rfl hr) ?_
          show OFin p e below s _ _ Q (T3.setTop (mkF m 47 #[.val (.ref ba), .val (.int st), .val (.int en), .val (.int pv), .val (.int (fg ||| (pv &&& (own_kind ((own_sel b0 b1 b2 b3 ii) &&& (255 : Int32)))))), .val (.int ii), .val (.int (own_kind ((own_sel b0 b1 b2 b3 ii) &&& (255 : Int32))))] []))
          refine OFin.back (fun _ hr => XS.iload X3.here hx rfl (hb hby d5_47) rfl hr) ?_
          show OFin p e below s _ _ Q (T3.setTop (mkF m 49 #[.val (.ref ba), .val (.int st), .val (.int en), .val (.int pv), .val (.int (fg ||| (pv &&& (own_kind ((own_sel b0 b1 b2 b3 ii) &&& (255 : Int32)))))), .val (.int ii), .val (.int (own_kind ((own_sel b0 b1 b2 b3 ii) &&& (255 : Int32))))] [(.int (own_kind ((own_sel b0 b1 b2 b3 ii) &&& (255 : Int32))))]))
          refine OFin.back (fun _ hr => XS.istoreN X3.here hx rfl (hb hby d5_49) rfl (l' := #[.val (.ref ba), .val (.int st), .val (.int en), .val (.int (own_kind ((own_sel b0 b1 b2 b3 ii) &&& (255 : Int32)))), .val (.int (fg ||| (pv &&& (own_kind ((own_sel b0 b1 b2 b3 ii) &&& (255 : Int32)))))), .val (.int ii), .val (.int (own_kind ((own_sel b0 b1 b2 b3 ii) &&& (255 : Int32))))]) rfl hr) ?_
          show OFin p e below s _ _ Q (T3.setTop (mkF m 50 #[.val (.ref ba), .val (.int st), .val (.int en), .val (.int (own_kind ((own_sel b0 b1 b2 b3 ii) &&& (255 : Int32)))), .val (.int (fg ||| (pv &&& (own_kind ((own_sel b0 b1 b2 b3 ii) &&& (255 : Int32)))))), .val (.int ii), .val (.int (own_kind ((own_sel b0 b1 b2 b3 ii) &&& (255 : Int32))))] []))
          refine OFin.back (fun _ hr => XS.iinc X3.here hx rfl (hb hby d5_50) rfl (l' := #[.val (.ref ba), .val (.int st), .val (.int en), .val (.int (own_kind ((own_sel b0 b1 b2 b3 ii) &&& (255 : Int32)))), .val (.int (fg ||| (pv &&& (own_kind ((own_sel b0 b1 b2 b3 ii) &&& (255 : Int32)))))), .val (.int (ii + (1 : Int32))), .val (.int (own_kind ((own_sel b0 b1 b2 b3 ii) &&& (255 : Int32))))]) rfl hr) ?_
          show OFin p e below s _ _ Q (T3.setTop (mkF m 53 #[.val (.ref ba), .val (.int st), .val (.int en), .val (.int (own_kind ((own_sel b0 b1 b2 b3 ii) &&& (255 : Int32)))), .val (.int (fg ||| (pv &&& (own_kind ((own_sel b0 b1 b2 b3 ii) &&& (255 : Int32)))))), .val (.int (ii + (1 : Int32))), .val (.int (own_kind ((own_sel b0 b1 b2 b3 ii) &&& (255 : Int32))))] []))
          refine OFin.back (fun _ hr => XS.goto X3.here hx rfl (pc0 := 53) (pc' := 8) rfl (hb hby d5_53) (by decide) (by decide) hr) ?_
          show OFin p e below s _ _ Q (T3.setTop (mkF m 8 #[.val (.ref ba), .val (.int st), .val (.int en), .val (.int (own_kind ((own_sel b0 b1 b2 b3 ii) &&& (255 : Int32)))), .val (.int (fg ||| (pv &&& (own_kind ((own_sel b0 b1 b2 b3 ii) &&& (255 : Int32)))))), .val (.int (ii + (1 : Int32))), .val (.int (own_kind ((own_sel b0 b1 b2 b3 ii) &&& (255 : Int32))))] []))
          exact ih (own_kind ((own_sel b0 b1 b2 b3 ii) &&& (255 : Int32))) (fg ||| (pv &&& (own_kind ((own_sel b0 b1 b2 b3 ii) &&& (255 : Int32))))) (ii + (1 : Int32)) _ _ _ X3 e3 NJ (One.val rfl) (own_b1 hi0 hlt he4) (own_b2 hi0 hlt he4 hk) (hJ.trans (by rw [own_bneL, if_pos hc11_2, if_pos hc32_7]))
        · -- not ((own_kind ((own_sel b0 b1 b2 b3 ii) &&& (255 : Int32))) &&& (2 : Int32)) = (0 : Int32)
          refine OFin.back (fun _ hr => XS.ifNo X3.here hx rfl (hb hby d5_32) rfl ((if0 _ _).trans (feq hc32_7).1) hr) ?_
          show OFin p e below s _ _ Q (T3.setTop (mkF m 35 #[.val (.ref ba), .val (.int st), .val (.int en), .val (.int pv), .val (.int fg), .val (.int ii), .val (.int (own_kind ((own_sel b0 b1 b2 b3 ii) &&& (255 : Int32))))] []))
          refine OFin.back (fun _ hr => XS.goto X3.here hx rfl (pc0 := 35) (pc' := 56) rfl (hb hby d5_35) (by decide) (by decide) hr) ?_
          show OFin p e below s _ _ Q (T3.setTop (mkF m 56 #[.val (.ref ba), .val (.int st), .val (.int en), .val (.int pv), .val (.int fg), .val (.int ii), .val (.int (own_kind ((own_sel b0 b1 b2 b3 ii) &&& (255 : Int32))))] []))
          refine OFin.back (fun _ hr => XS.iload X3.here hx rfl (hb hby d5_56) rfl hr) ?_
          show OFin p e below s _ _ Q (T3.setTop (mkF m 58 #[.val (.ref ba), .val (.int st), .val (.int en), .val (.int pv), .val (.int fg), .val (.int ii), .val (.int (own_kind ((own_sel b0 b1 b2 b3 ii) &&& (255 : Int32))))] [(.int fg)]))
          refine OFin.back (fun _ hr => XS.iloadN X3.here hx rfl (hb hby d5_58) rfl hr) ?_
          show OFin p e below s _ _ Q (T3.setTop (mkF m 59 #[.val (.ref ba), .val (.int st), .val (.int en), .val (.int pv), .val (.int fg), .val (.int ii), .val (.int (own_kind ((own_sel b0 b1 b2 b3 ii) &&& (255 : Int32))))] [(.int pv), (.int fg)]))
          refine OFin.back (fun _ hr => XS.ior X3.here hx rfl (hb hby d5_59) rfl hr) ?_
          show OFin p e below s _ _ Q (T3.setTop (mkF m 60 #[.val (.ref ba), .val (.int st), .val (.int en), .val (.int pv), .val (.int fg), .val (.int ii), .val (.int (own_kind ((own_sel b0 b1 b2 b3 ii) &&& (255 : Int32))))] [(.int (fg ||| pv))]))
          refine OFin.back (fun _ hr => XS.iconst X3.here hx rfl (hb hby d5_60) hr) ?_
          show OFin p e below s _ _ Q (T3.setTop (mkF m 61 #[.val (.ref ba), .val (.int st), .val (.int en), .val (.int pv), .val (.int fg), .val (.int ii), .val (.int (own_kind ((own_sel b0 b1 b2 b3 ii) &&& (255 : Int32))))] [(.int (1 : Int32)), (.int (fg ||| pv))]))
          refine OFin.back (fun _ hr => XS.iand X3.here hx rfl (hb hby d5_61) rfl hr) ?_
          show OFin p e below s _ _ Q (T3.setTop (mkF m 62 #[.val (.ref ba), .val (.int st), .val (.int en), .val (.int pv), .val (.int fg), .val (.int ii), .val (.int (own_kind ((own_sel b0 b1 b2 b3 ii) &&& (255 : Int32))))] [(.int ((fg ||| pv) &&& (1 : Int32)))]))
          by_cases hc62_8 : ((fg ||| pv) &&& (1 : Int32)) = (0 : Int32)
          · -- ((fg ||| pv) &&& (1 : Int32)) = (0 : Int32)
            refine OFin.back (fun _ hr => XS.ifYes X3.here hx rfl (pc0 := 62) (pc' := 69) rfl (hb hby d5_62) rfl ((if0 _ _).trans (teq hc62_8).1) (by decide) (by decide) hr) ?_
            show OFin p e below s _ _ Q (T3.setTop (mkF m 69 #[.val (.ref ba), .val (.int st), .val (.int en), .val (.int pv), .val (.int fg), .val (.int ii), .val (.int (own_kind ((own_sel b0 b1 b2 b3 ii) &&& (255 : Int32))))] []))
            refine OFin.back (fun _ hr => XS.iload X3.here hx rfl (hb hby d5_69) rfl hr) ?_
            show OFin p e below s _ _ Q (T3.setTop (mkF m 71 #[.val (.ref ba), .val (.int st), .val (.int en), .val (.int pv), .val (.int fg), .val (.int ii), .val (.int (own_kind ((own_sel b0 b1 b2 b3 ii) &&& (255 : Int32))))] [(.int ii)]))
            exact OFin.outI X3 hx Bd.returns Bd.notSynchronized (hb hby d5_71) (by decide) (by decide) e3 (by rw [hQ]; exact ⟨by rw [hJ, own_bneL, if_pos hc11_2, if_neg hc32_7, if_pos hc62_8], NJ, rfl⟩)
          · -- not ((fg ||| pv) &&& (1 : Int32)) = (0 : Int32)
            refine OFin.back (fun _ hr => XS.ifNo X3.here hx rfl (hb hby d5_62) rfl ((if0 _ _).trans (feq hc62_8).1) hr) ?_
            show OFin p e below s _ _ Q (T3.setTop (mkF m 65 #[.val (.ref ba), .val (.int st), .val (.int en), .val (.int pv), .val (.int fg), .val (.int ii), .val (.int (own_kind ((own_sel b0 b1 b2 b3 ii) &&& (255 : Int32))))] []))
            refine OFin.back (fun _ hr => XS.iconst X3.here hx rfl (hb hby d5_65) hr) ?_
            show OFin p e below s _ _ Q (T3.setTop (mkF m 66 #[.val (.ref ba), .val (.int st), .val (.int en), .val (.int pv), .val (.int fg), .val (.int ii), .val (.int (own_kind ((own_sel b0 b1 b2 b3 ii) &&& (255 : Int32))))] [(.int (-1 : Int32))]))
            refine OFin.back (fun _ hr => XS.goto X3.here hx rfl (pc0 := 66) (pc' := 71) rfl (hb hby d5_66) (by decide) (by decide) hr) ?_
            show OFin p e below s _ _ Q (T3.setTop (mkF m 71 #[.val (.ref ba), .val (.int st), .val (.int en), .val (.int pv), .val (.int fg), .val (.int ii), .val (.int (own_kind ((own_sel b0 b1 b2 b3 ii) &&& (255 : Int32))))] [(.int (-1 : Int32))]))
            exact OFin.outI X3 hx Bd.returns Bd.notSynchronized (hb hby d5_71) (by decide) (by decide) e3 (by rw [hQ]; exact ⟨by rw [hJ, own_bneL, if_pos hc11_2, if_neg hc32_7, if_neg hc62_8], NJ, rfl⟩)
      · -- not ii < en
        refine OFin.back (fun _ hr => XS.icmpYes XJ.here hx rfl (pc0 := 11) (pc' := 56) rfl (hb hby d5_11) rfl (flt hc11_2).2.1 (by decide) (by decide) hr) ?_
        show OFin p e below s _ _ Q (TJ.setTop (mkF m 56 #[.val (.ref ba), .val (.int st), .val (.int en), .val (.int pv), .val (.int fg), .val (.int ii), s6] []))
        refine OFin.back (fun _ hr => XS.iload XJ.here hx rfl (hb hby d5_56) rfl hr) ?_
        show OFin p e below s _ _ Q (TJ.setTop (mkF m 58 #[.val (.ref ba), .val (.int st), .val (.int en), .val (.int pv), .val (.int fg), .val (.int ii), s6] [(.int fg)]))
        refine OFin.back (fun _ hr => XS.iloadN XJ.here hx rfl (hb hby d5_58) rfl hr) ?_
        show OFin p e below s _ _ Q (TJ.setTop (mkF m 59 #[.val (.ref ba), .val (.int st), .val (.int en), .val (.int pv), .val (.int fg), .val (.int ii), s6] [(.int pv), (.int fg)]))
        refine OFin.back (fun _ hr => XS.ior XJ.here hx rfl (hb hby d5_59) rfl hr) ?_
        show OFin p e below s _ _ Q (TJ.setTop (mkF m 60 #[.val (.ref ba), .val (.int st), .val (.int en), .val (.int pv), .val (.int fg), .val (.int ii), s6] [(.int (fg ||| pv))]))
        refine OFin.back (fun _ hr => XS.iconst XJ.here hx rfl (hb hby d5_60) hr) ?_
        show OFin p e below s _ _ Q (TJ.setTop (mkF m 61 #[.val (.ref ba), .val (.int st), .val (.int en), .val (.int pv), .val (.int fg), .val (.int ii), s6] [(.int (1 : Int32)), (.int (fg ||| pv))]))
        refine OFin.back (fun _ hr => XS.iand XJ.here hx rfl (hb hby d5_61) rfl hr) ?_
        show OFin p e below s _ _ Q (TJ.setTop (mkF m 62 #[.val (.ref ba), .val (.int st), .val (.int en), .val (.int pv), .val (.int fg), .val (.int ii), s6] [(.int ((fg ||| pv) &&& (1 : Int32)))]))
        by_cases hc62_9 : ((fg ||| pv) &&& (1 : Int32)) = (0 : Int32)
        · -- ((fg ||| pv) &&& (1 : Int32)) = (0 : Int32)
          refine OFin.back (fun _ hr => XS.ifYes XJ.here hx rfl (pc0 := 62) (pc' := 69) rfl (hb hby d5_62) rfl ((if0 _ _).trans (teq hc62_9).1) (by decide) (by decide) hr) ?_
          show OFin p e below s _ _ Q (TJ.setTop (mkF m 69 #[.val (.ref ba), .val (.int st), .val (.int en), .val (.int pv), .val (.int fg), .val (.int ii), s6] []))
          refine OFin.back (fun _ hr => XS.iload XJ.here hx rfl (hb hby d5_69) rfl hr) ?_
          show OFin p e below s _ _ Q (TJ.setTop (mkF m 71 #[.val (.ref ba), .val (.int st), .val (.int en), .val (.int pv), .val (.int fg), .val (.int ii), s6] [(.int ii)]))
          exact OFin.outI XJ hx Bd.returns Bd.notSynchronized (hb hby d5_71) (by decide) (by decide) eJ (by rw [hQ]; exact ⟨by rw [hJ, own_bneL, if_neg hc11_2, if_pos hc62_9], NJ, rfl⟩)
        · -- not ((fg ||| pv) &&& (1 : Int32)) = (0 : Int32)
          refine OFin.back (fun _ hr => XS.ifNo XJ.here hx rfl (hb hby d5_62) rfl ((if0 _ _).trans (feq hc62_9).1) hr) ?_
          show OFin p e below s _ _ Q (TJ.setTop (mkF m 65 #[.val (.ref ba), .val (.int st), .val (.int en), .val (.int pv), .val (.int fg), .val (.int ii), s6] []))
          refine OFin.back (fun _ hr => XS.iconst XJ.here hx rfl (hb hby d5_65) hr) ?_
          show OFin p e below s _ _ Q (TJ.setTop (mkF m 66 #[.val (.ref ba), .val (.int st), .val (.int en), .val (.int pv), .val (.int fg), .val (.int ii), s6] [(.int (-1 : Int32))]))
          refine OFin.back (fun _ hr => XS.goto XJ.here hx rfl (pc0 := 66) (pc' := 71) rfl (hb hby d5_66) (by decide) (by decide) hr) ?_
          show OFin p e below s _ _ Q (TJ.setTop (mkF m 71 #[.val (.ref ba), .val (.int st), .val (.int en), .val (.int pv), .val (.int fg), .val (.int ii), s6] [(.int (-1 : Int32))]))
          exact OFin.outI XJ hx Bd.returns Bd.notSynchronized (hb hby d5_71) (by decide) (by decide) eJ (by rw [hQ]; exact ⟨by rw [hJ, own_bneL, if_neg hc11_2, if_neg hc62_9], NJ, rfl⟩)
  exact LOOP 4 (1 : Int32) (0 : Int32) st _ _ _ X0 e0 N0 One.u hs0 (by omega) rfl
def own_selB (x0 x1 x2 x3 : Bool) (j : Int32) : Bool := if j = 0 then x0 else if j = 1 then x1 else if j = 2 then x2 else x3
def own_b2i (t : Bool) : Int32 := if t then 1 else 0
def own_bit (x : Int32) : Bool := !decide ((x &&& (1 : Int32)) = 0)
def own_hX (P F : Bool) (ii : Int32) : Int32 := if (F || P) = true then -1 else ii
def own_hL : Nat → Bool → Bool → Bool → Bool → Bool → Bool → Bool → Bool → Int32 → Bool → Bool → Int32 → Int32
  | 0, _, _, _, _, _, _, _, _, _, P, F, ii => own_hX P F ii
  | k + 1, t0, t1, t2, t3, l0, l1, l2, l3, en, P, F, ii => if ii < en then (if own_selB t0 t1 t2 t3 ii = true then own_hX P F ii else own_hL k t0 t1 t2 t3 l0 l1 l2 l3 en (own_selB l0 l1 l2 l3 ii) (F || (P && own_selB l0 l1 l2 l3 ii)) (ii + (1 : Int32))) else own_hX P F ii
theorem own_bit_eq (x : Int32) : own_bit x = x.toBitVec.getLsbD 0 := by
  have h : (x &&& (1 : Int32)).toBitVec = BitVec.setWidth 32 (BitVec.ofBool (x.toBitVec.getLsbD 0)) := by
    rw [Int32.toBitVec_and]
    exact BitVec.and_one_eq_setWidth_ofBool_getLsbD
  cases hb : x.toBitVec.getLsbD 0 with
  | false =>
    have e : (x &&& (1 : Int32)) = 0 := Int32.toBitVec_inj.mp (h.trans (by rw [hb]; rfl))
    unfold own_bit; rw [e]; rfl
  | true =>
    have e : (x &&& (1 : Int32)) = 1 := Int32.toBitVec_inj.mp (h.trans (by rw [hb]; rfl))
    unfold own_bit; rw [e]; rfl
theorem own_bit_or (x y : Int32) : own_bit (x ||| y) = (own_bit x || own_bit y) := by
  rw [own_bit_eq, own_bit_eq, own_bit_eq, Int32.toBitVec_or, BitVec.getLsbD_or]
theorem own_bit_and (x y : Int32) : own_bit (x &&& y) = (own_bit x && own_bit y) := by
  rw [own_bit_eq, own_bit_eq, own_bit_eq, Int32.toBitVec_and, BitVec.getLsbD_and]
def own_tB (b : Int32) : Bool := !decide (own_stops b = 0)
def own_lB (b : Int32) : Bool := !decide (own_slash b = 0)
theorem own_exh : ∀ n : Fin 256, (decide (((own_kind ((Int32.ofInt ((n.val : Int) - 128)) &&& (255 : Int32))) &&& (2 : Int32)) = (0 : Int32)) = !own_tB (Int32.ofInt ((n.val : Int) - 128))) ∧ own_bit (own_kind ((Int32.ofInt ((n.val : Int) - 128)) &&& (255 : Int32))) = own_lB (Int32.ofInt ((n.val : Int) - 128)) ∧ own_stops (Int32.ofInt ((n.val : Int) - 128)) = own_b2i (own_tB (Int32.ofInt ((n.val : Int) - 128))) ∧ own_slash (Int32.ofInt ((n.val : Int) - 128)) = own_b2i (own_lB (Int32.ofInt ((n.val : Int) - 128))) := by decide +kernel
theorem own_byte {b : Int32} (h : -128 ≤ b.toInt ∧ b.toInt < 128) : (decide (((own_kind (b &&& (255 : Int32))) &&& (2 : Int32)) = (0 : Int32)) = !own_tB b) ∧ own_bit (own_kind (b &&& (255 : Int32))) = own_lB b ∧ own_stops b = own_b2i (own_tB b) ∧ own_slash b = own_b2i (own_lB b) := by
  have q := own_exh ⟨(b.toInt + 128).toNat, by omega⟩
  have e : (((b.toInt + 128).toNat : Nat) : Int) - 128 = b.toInt := by omega
  have e2 : Int32.ofInt b.toInt = b := Int32.ofInt_toInt b
  simp only [e, e2] at q
  exact q
theorem own_sel4 (f : Int32 → Bool) (b0 b1 b2 b3 j : Int32) : f (own_sel b0 b1 b2 b3 j) = own_selB (f b0) (f b1) (f b2) (f b3) j := by
  unfold own_sel own_selB
  split
  · rfl
  · split
    · rfl
    · split <;> rfl
theorem own_selR (b0 b1 b2 b3 j : Int32) (P : Int32 → Prop) (h0 : P b0) (h1 : P b1) (h2 : P b2) (h3 : P b3) : P (own_sel b0 b1 b2 b3 j) := by
  unfold own_sel
  split
  · exact h0
  · split
    · exact h1
    · split
      · exact h2
      · exact h3
theorem own_hXe (pv fg ii : Int32) : (if ((fg ||| pv) &&& (1 : Int32)) = (0 : Int32) then ii else (-1 : Int32)) = own_hX (own_bit pv) (own_bit fg) ii := by
  unfold own_hX
  rw [← own_bit_or]
  unfold own_bit
  by_cases q : ((fg ||| pv) &&& (1 : Int32)) = 0
  · rw [if_pos q]; simp [q]
  · rw [if_neg q]; simp [q]
theorem own_loopB {b0 b1 b2 b3 en : Int32} (h0 : -128 ≤ b0.toInt ∧ b0.toInt < 128) (h1 : -128 ≤ b1.toInt ∧ b1.toInt < 128) (h2 : -128 ≤ b2.toInt ∧ b2.toInt < 128) (h3 : -128 ≤ b3.toInt ∧ b3.toInt < 128) (k : Nat) : ∀ pv fg ii : Int32, own_bneL k b0 b1 b2 b3 en pv fg ii = own_hL k (own_tB b0) (own_tB b1) (own_tB b2) (own_tB b3) (own_lB b0) (own_lB b1) (own_lB b2) (own_lB b3) en (own_bit pv) (own_bit fg) ii := by
  induction k with
  | zero => intro pv fg ii; rw [own_bneL, own_hL]; exact own_hXe pv fg ii
  | succ k ih =>
    intro pv fg ii
    obtain ⟨c1, c2, -, -⟩ := own_byte (own_selR b0 b1 b2 b3 ii (fun b => -128 ≤ b.toInt ∧ b.toInt < 128) h0 h1 h2 h3)
    rw [own_bneL, own_hL]
    by_cases q : ii < en
    · rw [if_pos q, if_pos q, ← own_sel4 own_tB, ← own_sel4 own_lB]
      by_cases r : ((own_kind ((own_sel b0 b1 b2 b3 ii) &&& (255 : Int32))) &&& (2 : Int32)) = (0 : Int32)
      · have r2 : own_tB (own_sel b0 b1 b2 b3 ii) = false := by simpa [r] using c1
        rw [if_pos r, if_neg (by rw [r2]; decide), ih, c2, own_bit_or, own_bit_and, c2]
      · have r2 : own_tB (own_sel b0 b1 b2 b3 ii) = true := by simpa [r] using c1
        rw [if_neg r, if_pos r2]; exact own_hXe pv fg ii
    · rw [if_neg q, if_neg q]; exact own_hXe pv fg ii
def own_s62 (p3 st en : Int32) : Int32 := if (3 : Int32) < st then en else (if (3 : Int32) < en then (if p3 = 0 then en else 3) else en)
def own_s41 (p2 p3 st en : Int32) : Int32 := if (2 : Int32) < st then own_s62 p3 st en else (if (2 : Int32) < en then (if p2 = 0 then own_s62 p3 st en else 2) else own_s62 p3 st en)
def own_s20 (p1 p2 p3 st en : Int32) : Int32 := if (1 : Int32) < st then own_s41 p2 p3 st en else (if (1 : Int32) < en then (if p1 = 0 then own_s41 p2 p3 st en else 1) else own_s41 p2 p3 st en)
def own_s0 (p0 p1 p2 p3 st en : Int32) : Int32 := if (0 : Int32) < st then own_s20 p1 p2 p3 st en else (if (0 : Int32) < en then (if p0 = 0 then own_s20 p1 p2 p3 st en else 0) else own_s20 p1 p2 p3 st en)
def own_r97 (s s2 s3 st : Int32) : Int32 := if (2 : Int32) < st then s else (if (3 : Int32) < s then (if s2 = 0 then s else (if s3 = 0 then s else -1)) else s)
def own_r67 (s s1 s2 s3 st : Int32) : Int32 := if (1 : Int32) < st then own_r97 s s2 s3 st else (if (2 : Int32) < s then (if s1 = 0 then own_r97 s s2 s3 st else (if s2 = 0 then own_r97 s s2 s3 st else -1)) else own_r97 s s2 s3 st)
def own_rG (s s0 s1 s2 s3 st : Int32) : Int32 := if s = st then -1 else (if own_sel s0 s1 s2 s3 st = 0 then (if own_sel s0 s1 s2 s3 (s - 1) = 0 then (if (0 : Int32) < st then own_r67 s s1 s2 s3 st else (if (1 : Int32) < s then (if s0 = 0 then own_r67 s s1 s2 s3 st else (if s1 = 0 then own_r67 s s1 s2 s3 st else -1)) else own_r67 s s1 s2 s3 st)) else -1) else -1)
theorem own_slSel (b0 b1 b2 b3 j : Int32) : own_slash (own_sel b0 b1 b2 b3 j) = own_sel (own_slash b0) (own_slash b1) (own_slash b2) (own_slash b3) j := by
  unfold own_sel
  split
  · rfl
  · split
    · rfl
    · split <;> rfl
theorem own_refG (b0 b1 b2 b3 st en : Int32) : own_ref b0 b1 b2 b3 st en = own_rG (own_s0 (own_stops b0) (own_stops b1) (own_stops b2) (own_stops b3) st en) (own_slash b0) (own_slash b1) (own_slash b2) (own_slash b3) st := by
  have hs : own_stop b0 b1 b2 b3 st en = own_s0 (own_stops b0) (own_stops b1) (own_stops b2) (own_stops b3) st en := rfl
  unfold own_ref own_ref67 own_ref97 own_rG own_r67 own_r97
  rw [own_slSel, own_slSel, hs]
def own_pairs : List (Int32 × Int32) := [(0, 0), (0, 1), (0, 2), (0, 3), (0, 4), (1, 1), (1, 2), (1, 3), (1, 4), (2, 2), (2, 3), (2, 4), (3, 3), (3, 4), (4, 4)]
theorem own_all : ∀ t0 t1 t2 t3 l0 l1 l2 l3 : Bool, own_pairs.all (fun q => decide (own_hL 4 t0 t1 t2 t3 l0 l1 l2 l3 q.2 true false q.1 = own_rG (own_s0 (own_b2i t0) (own_b2i t1) (own_b2i t2) (own_b2i t3) q.1 q.2) (own_b2i l0) (own_b2i l1) (own_b2i l2) (own_b2i l3) q.1)) = true := by decide +kernel
theorem own_lits {x : Int32} (h0 : 0 ≤ x.toInt) (h4 : x.toInt ≤ 4) : x = 0 ∨ x = 1 ∨ x = 2 ∨ x = 3 ∨ x = 4 := by
  have a0 : (0 : Int32).toInt = 0 := by decide
  have a1 : (1 : Int32).toInt = 1 := by decide
  have a2 : (2 : Int32).toInt = 2 := by decide
  have a3 : (3 : Int32).toInt = 3 := by decide
  have a4 : (4 : Int32).toInt = 4 := by decide
  simp only [← Int32.toInt_inj, a0, a1, a2, a3, a4]
  omega
theorem own_law {b0 b1 b2 b3 st en : Int32} (h0 : -128 ≤ b0.toInt ∧ b0.toInt < 128) (h1 : -128 ≤ b1.toInt ∧ b1.toInt < 128) (h2 : -128 ≤ b2.toInt ∧ b2.toInt < 128) (h3 : -128 ≤ b3.toInt ∧ b3.toInt < 128) (hs0 : 0 ≤ st.toInt) (hse : st.toInt ≤ en.toInt) (he4 : en.toInt ≤ 4) : own_bne b0 b1 b2 b3 st en = own_ref b0 b1 b2 b3 st en := by
  have hm : (st, en) ∈ own_pairs := by
    have a0 : (0 : Int32).toInt = 0 := by decide
    have a1 : (1 : Int32).toInt = 1 := by decide
    have a2 : (2 : Int32).toInt = 2 := by decide
    have a3 : (3 : Int32).toInt = 3 := by decide
    have a4 : (4 : Int32).toInt = 4 := by decide
    rcases own_lits hs0 (by omega) with rfl | rfl | rfl | rfl | rfl <;> rcases own_lits (by omega) he4 with rfl | rfl | rfl | rfl | rfl <;> first | decide | (exfalso; omega)
  have q := List.all_eq_true.mp (own_all (own_tB b0) (own_tB b1) (own_tB b2) (own_tB b3) (own_lB b0) (own_lB b1) (own_lB b2) (own_lB b3)) _ hm
  have q2 := of_decide_eq_true q
  rw [own_bne, own_loopB h0 h1 h2 h3, own_refG, (own_byte h0).2.2.1, (own_byte h1).2.2.1, (own_byte h2).2.2.1, (own_byte h3).2.2.1, (own_byte h0).2.2.2, (own_byte h1).2.2.2, (own_byte h2).2.2.2, (own_byte h3).2.2.2]
  exact q2
theorem pn0 : plainName "com/example/bytelore/bytelore/classfile/NamesBinaryNameEndPinLaw" = true := by first | (simp [plainName, overriddenIn]; done) | decide +kernel
theorem pd0_0 : parseMethodDescriptor "([BII)I" = some ⟨[(.array .byte), .int, .int], some .int⟩ := by decide +kernel
theorem ef0 (m : MethodId) (pk : Int32) (rg : Int32) : entryFrame m #[(.int pk), (.int rg)] maxLocals = mkF m 0 #[.val (.int pk), .val (.int rg), .unset, .unset, .unset, .unset] [] := by first | (simp [entryFrame, mkF, argsToLocals, Value.category, maxLocals]; done) | rfl
def Q0 (Z : State) (pk : Int32) (rg : Int32) (ka : Addr) (cl : Cell) (h0 : Heap) (n0 : Nat) (v : Option Value) (h : Heap) (L : List Loc) : Prop := v = some (.int 1) ∧ Fr n0 L
set_option maxRecDepth 65536 in
set_option maxHeartbeats 40000000 in
theorem rm0 (l : Launch) (Z : State) (a0 : Array Value) (hw : ∀ d ∈ tables_1, d.before a0 Z = true) (ws : List Jvm.Cond) (pk : Int32) (rg : Int32) (ka : Addr) (cl : Cell) (h0 : Heap) (n0 : Nat) (Z0 : n0 ≤ h0.size) (O0 : Old Z n0 h0) (S_KINDS : Sta Z Z.heap "com/example/bytelore/bytelore/classfile/Names" "KINDS" "[B" (.ref ka)) (Ar : Arr Z Z.heap ka cl .byte) (HK : ∀ j : Int32, ¬ j < 0 ∧ j < (256 : Int32) → ¬ (j < 0 ∨ cl.slots.size ≤ j.toNatClampNeg) ∧ cl.slots[j.toNatClampNeg]? = some (.int (own_kind j))) :
    MetFree l x (head1 (Jvm.Cond.code x code maxLocals ret :: ws) room_1) (fun ar_ U => ar_ = #[(.int pk), (.int rg)] ∧ Z.Warmed39 U.vm ∧ U.heap = h0) (fun _ _ _ _ _ => True) (fun _ U o U' => ∃ v L, o = .returned v ∧ Q0 Z pk rg ka cl h0 n0 v U'.heap L ∧ FrameEnd U o U' L room_1.cells room_1.slots) := by
  refine MetFree.of_bodySF (plainFor_of_name pn0) hisR ?_
  intro p e s m args below meth c s₁ Bd hml0 hP hK
  obtain ⟨rfl, hZ, hh⟩ := hP
  have hx := Bd.exec
  have hby := Bd.bytes
  have hml : c.maxLocals = 6 := hml0
  have hown : s.vm.findClass "com/example/bytelore/bytelore/classfile/NamesBinaryNameEndPinLaw" = some m.cls := findClass_of_methodNamed Bd.named
  have hnm := (name_of_methodNamed Bd.named Bd.method).1
  have X0 : Stand p l e room_1 s m #[(.int pk), (.int rg)] below meth c s₁ [] 0 0 := Stand.of_body Bd
  have e0 : s₁.heap = h0 := by rw [← hh, Bd.state]; rfl
  have N0 := Fr.nil n0
  show OFin p e below s _ _ (Q0 Z pk rg ka cl h0 n0) (s₁.setTop (entryFrame m #[(.int pk), (.int rg)] maxLocals))
  rw [ef0]
  obtain ⟨Q, hQ⟩ : ∃ Q, Q = Q0 Z pk rg ka cl h0 n0 := ⟨_, rfl⟩
  rw [← hQ]
  show OFin p e below s _ _ Q (s₁.setTop (mkF m 0 #[.val (.int pk), .val (.int rg), .unset, .unset, .unset, .unset] []))
  refine OFin.back (fun _ hr => XS.iconst X0.here hx rfl (hb hby at_0) hr) ?_
  show OFin p e below s _ _ Q (s₁.setTop (mkF m 1 #[.val (.int pk), .val (.int rg), .unset, .unset, .unset, .unset] [(.int (4 : Int32))]))
  obtain ⟨T1, h1, k1, X1, e1, E1, A1, st1⟩ := newP X0 hx hZ (hw _ (List.mem_of_getElem? (i := 0) rfl)) e0 (g := (mkF m 1 #[.val (.int pk), .val (.int rg), .unset, .unset, .unset, .unset] [(.int (4 : Int32))])) rfl (hb hby at_1) rfl (by decide) (cap := 4) (by decide) (by decide) (by decide) (by decide)
  obtain ⟨bq1, g1⟩ : ∃ z, z = h0.size := ⟨_, rfl⟩
  rw [← g1] at A1 st1
  have f2 := Nat.le_trans Z0 (Nat.le_of_eq g1.symm)
  have f3 := Nat.le_trans (Keep.refl h0 []).1 (Nat.le_of_eq g1.symm)
  have f4 := O0.ext E1
  have f5 := Nat.le_trans Z0 E1.1
  have f6 := (Keep.refl h0 []).ext E1
  have V1 : Arv Z h1 bq1 k1 .byte (4 : Int32) [(.int (0 : Int32)), (.int (0 : Int32)), (.int (0 : Int32)), (.int (0 : Int32))] (.int (0 : Int32)) := (Arv.new A1 (by decide)).pad (pad_rep [] (.int (0 : Int32)) 4)
  refine OFin.back st1 ?_
  show OFin p e below s _ _ Q (T1.setTop (mkF m 3 #[.val (.int pk), .val (.int rg), .unset, .unset, .unset, .unset] [(.ref bq1)]))
  refine OFin.back (fun _ hr => XS.astoreN X1.here hx rfl (hb hby at_3) rfl rfl (l' := #[.val (.int pk), .val (.int rg), .val (.ref bq1), .unset, .unset, .unset]) rfl hr) ?_
  show OFin p e below s _ _ Q (T1.setTop (mkF m 4 #[.val (.int pk), .val (.int rg), .val (.ref bq1), .unset, .unset, .unset] []))
  refine OFin.back (fun _ hr => XS.aloadN X1.here hx rfl (hb hby at_4) rfl rfl hr) ?_
  show OFin p e below s _ _ Q (T1.setTop (mkF m 5 #[.val (.int pk), .val (.int rg), .val (.ref bq1), .unset, .unset, .unset] [(.ref bq1)]))
  refine OFin.back (fun _ hr => XS.iconst X1.here hx rfl (hb hby at_5) hr) ?_
  show OFin p e below s _ _ Q (T1.setTop (mkF m 6 #[.val (.int pk), .val (.int rg), .val (.ref bq1), .unset, .unset, .unset] [(.int (0 : Int32)), (.ref bq1)]))
  refine OFin.back (fun _ hr => XS.iloadN X1.here hx rfl (hb hby at_6) rfl hr) ?_
  show OFin p e below s _ _ Q (T1.setTop (mkF m 7 #[.val (.int pk), .val (.int rg), .val (.ref bq1), .unset, .unset, .unset] [(.int pk), (.int (0 : Int32)), (.ref bq1)]))
  refine OFin.back (fun _ hr => XS.i2b X1.here hx rfl (hb hby at_7) rfl hr) ?_
  show OFin p e below s _ _ Q (T1.setTop (mkF m 8 #[.val (.int pk), .val (.int rg), .val (.ref bq1), .unset, .unset, .unset] [(.int (pk.toInt8.toInt32)), (.int (0 : Int32)), (.ref bq1)]))
  obtain ⟨cl7, Ar7, q7, S7, M7, H7, G7⟩ := id V1
  have hin7 : ¬ ((0 : Int32) < 0 ∨ cl7.slots.size ≤ ((0 : Int32)).toNatClampNeg) := inb_of S7 ⟨by decide, by decide⟩
  obtain ⟨T7, h7, X7, e7, W7, st7⟩ := stB X1 hx hZ e1 Ar7 (j := (0 : Int32)) hin7 (g := (mkF m 8 #[.val (.int pk), .val (.int rg), .val (.ref bq1), .unset, .unset, .unset] [(.int (pk.toInt8.toInt32)), (.int (0 : Int32)), (.ref bq1)])) rfl rfl (hb hby at_8)
  have V7 : Arv Z h7 bq1 k1 .byte (4 : Int32) [(.int (nar .byte (pk.toInt8.toInt32))), (.int (0 : Int32)), (.int (0 : Int32)), (.int (0 : Int32))] (.int (0 : Int32)) := Arv.set Ar7 q7 S7 M7 H7 G7 (fits_nar_byte _) W7 0 rfl (Nat.le_of_ble_eq_true rfl)
  have f8 := f4.wr W7 f2
  have f9 := Nat.le_trans f5 (Keep.of_wr W7).1
  have f10 := f6.wr W7 (Or.inr f3)
  have N7 := Fr.snoc X7 N0 f2
  refine OFin.back st7 ?_
  show OFin p e below s _ _ Q (T7.setTop (mkF m 9 #[.val (.int pk), .val (.int rg), .val (.ref bq1), .unset, .unset, .unset] []))
  refine OFin.back (fun _ hr => XS.aloadN X7.here hx rfl (hb hby at_9) rfl rfl hr) ?_
  show OFin p e below s _ _ Q (T7.setTop (mkF m 10 #[.val (.int pk), .val (.int rg), .val (.ref bq1), .unset, .unset, .unset] [(.ref bq1)]))
  refine OFin.back (fun _ hr => XS.iconst X7.here hx rfl (hb hby at_10) hr) ?_
  show OFin p e below s _ _ Q (T7.setTop (mkF m 11 #[.val (.int pk), .val (.int rg), .val (.ref bq1), .unset, .unset, .unset] [(.int (1 : Int32)), (.ref bq1)]))
  refine OFin.back (fun _ hr => XS.iloadN X7.here hx rfl (hb hby at_11) rfl hr) ?_
  show OFin p e below s _ _ Q (T7.setTop (mkF m 12 #[.val (.int pk), .val (.int rg), .val (.ref bq1), .unset, .unset, .unset] [(.int pk), (.int (1 : Int32)), (.ref bq1)]))
  refine OFin.back (fun _ hr => XS.bipush X7.here hx rfl (hb hby at_12) hr) ?_
  show OFin p e below s _ _ Q (T7.setTop (mkF m 14 #[.val (.int pk), .val (.int rg), .val (.ref bq1), .unset, .unset, .unset] [(.int (8 : Int32)), (.int pk), (.int (1 : Int32)), (.ref bq1)]))
  refine OFin.back (fun _ hr => XS.iushr X7.here hx rfl (hb hby at_14) rfl hr) ?_
  show OFin p e below s _ _ Q (T7.setTop (mkF m 15 #[.val (.int pk), .val (.int rg), .val (.ref bq1), .unset, .unset, .unset] [(.int ((pk.toUInt32 >>> ((8 : Int32) &&& 31).toUInt32).toInt32)), (.int (1 : Int32)), (.ref bq1)]))
  refine OFin.back (fun _ hr => XS.i2b X7.here hx rfl (hb hby at_15) rfl hr) ?_
  show OFin p e below s _ _ Q (T7.setTop (mkF m 16 #[.val (.int pk), .val (.int rg), .val (.ref bq1), .unset, .unset, .unset] [(.int (((pk.toUInt32 >>> ((8 : Int32) &&& 31).toUInt32).toInt32).toInt8.toInt32)), (.int (1 : Int32)), (.ref bq1)]))
  obtain ⟨cl11, Ar11, q11, S11, M11, H11, G11⟩ := id V7
  have hin11 : ¬ ((1 : Int32) < 0 ∨ cl11.slots.size ≤ ((1 : Int32)).toNatClampNeg) := inb_of S11 ⟨by decide, by decide⟩
  obtain ⟨T11, h11, X11, e11, W11, st11⟩ := stB X7 hx hZ e7 Ar11 (j := (1 : Int32)) hin11 (g := (mkF m 16 #[.val (.int pk), .val (.int rg), .val (.ref bq1), .unset, .unset, .unset] [(.int (((pk.toUInt32 >>> ((8 : Int32) &&& 31).toUInt32).toInt32).toInt8.toInt32)), (.int (1 : Int32)), (.ref bq1)])) rfl rfl (hb hby at_16)
  have V11 : Arv Z h11 bq1 k1 .byte (4 : Int32) [(.int (nar .byte (pk.toInt8.toInt32))), (.int (nar .byte (((pk.toUInt32 >>> ((8 : Int32) &&& 31).toUInt32).toInt32).toInt8.toInt32))), (.int (0 : Int32)), (.int (0 : Int32))] (.int (0 : Int32)) := Arv.set Ar11 q11 S11 M11 H11 G11 (fits_nar_byte _) W11 1 rfl (Nat.le_of_ble_eq_true rfl)
  have f12 := f8.wr W11 f2
  have f13 := Nat.le_trans f9 (Keep.of_wr W11).1
  have f14 := f10.wr W11 (Or.inr f3)
  have N11 := Fr.snoc X11 N7 f2
  refine OFin.back st11 ?_
  show OFin p e below s _ _ Q (T11.setTop (mkF m 17 #[.val (.int pk), .val (.int rg), .val (.ref bq1), .unset, .unset, .unset] []))
  refine OFin.back (fun _ hr => XS.aloadN X11.here hx rfl (hb hby at_17) rfl rfl hr) ?_
  show OFin p e below s _ _ Q (T11.setTop (mkF m 18 #[.val (.int pk), .val (.int rg), .val (.ref bq1), .unset, .unset, .unset] [(.ref bq1)]))
  refine OFin.back (fun _ hr => XS.iconst X11.here hx rfl (hb hby at_18) hr) ?_
  show OFin p e below s _ _ Q (T11.setTop (mkF m 19 #[.val (.int pk), .val (.int rg), .val (.ref bq1), .unset, .unset, .unset] [(.int (2 : Int32)), (.ref bq1)]))
  refine OFin.back (fun _ hr => XS.iloadN X11.here hx rfl (hb hby at_19) rfl hr) ?_
  show OFin p e below s _ _ Q (T11.setTop (mkF m 20 #[.val (.int pk), .val (.int rg), .val (.ref bq1), .unset, .unset, .unset] [(.int pk), (.int (2 : Int32)), (.ref bq1)]))
  refine OFin.back (fun _ hr => XS.bipush X11.here hx rfl (hb hby at_20) hr) ?_
  show OFin p e below s _ _ Q (T11.setTop (mkF m 22 #[.val (.int pk), .val (.int rg), .val (.ref bq1), .unset, .unset, .unset] [(.int (16 : Int32)), (.int pk), (.int (2 : Int32)), (.ref bq1)]))
  refine OFin.back (fun _ hr => XS.iushr X11.here hx rfl (hb hby at_22) rfl hr) ?_
  show OFin p e below s _ _ Q (T11.setTop (mkF m 23 #[.val (.int pk), .val (.int rg), .val (.ref bq1), .unset, .unset, .unset] [(.int ((pk.toUInt32 >>> ((16 : Int32) &&& 31).toUInt32).toInt32)), (.int (2 : Int32)), (.ref bq1)]))
  refine OFin.back (fun _ hr => XS.i2b X11.here hx rfl (hb hby at_23) rfl hr) ?_
  show OFin p e below s _ _ Q (T11.setTop (mkF m 24 #[.val (.int pk), .val (.int rg), .val (.ref bq1), .unset, .unset, .unset] [(.int (((pk.toUInt32 >>> ((16 : Int32) &&& 31).toUInt32).toInt32).toInt8.toInt32)), (.int (2 : Int32)), (.ref bq1)]))
  obtain ⟨cl15, Ar15, q15, S15, M15, H15, G15⟩ := id V11
  have hin15 : ¬ ((2 : Int32) < 0 ∨ cl15.slots.size ≤ ((2 : Int32)).toNatClampNeg) := inb_of S15 ⟨by decide, by decide⟩
  obtain ⟨T15, h15, X15, e15, W15, st15⟩ := stB X11 hx hZ e11 Ar15 (j := (2 : Int32)) hin15 (g := (mkF m 24 #[.val (.int pk), .val (.int rg), .val (.ref bq1), .unset, .unset, .unset] [(.int (((pk.toUInt32 >>> ((16 : Int32) &&& 31).toUInt32).toInt32).toInt8.toInt32)), (.int (2 : Int32)), (.ref bq1)])) rfl rfl (hb hby at_24)
  have V15 : Arv Z h15 bq1 k1 .byte (4 : Int32) [(.int (nar .byte (pk.toInt8.toInt32))), (.int (nar .byte (((pk.toUInt32 >>> ((8 : Int32) &&& 31).toUInt32).toInt32).toInt8.toInt32))), (.int (nar .byte (((pk.toUInt32 >>> ((16 : Int32) &&& 31).toUInt32).toInt32).toInt8.toInt32))), (.int (0 : Int32))] (.int (0 : Int32)) := Arv.set Ar15 q15 S15 M15 H15 G15 (fits_nar_byte _) W15 2 rfl (Nat.le_of_ble_eq_true rfl)
  have f16 := f12.wr W15 f2
  have f17 := Nat.le_trans f13 (Keep.of_wr W15).1
  have f18 := f14.wr W15 (Or.inr f3)
  have N15 := Fr.snoc X15 N11 f2
  refine OFin.back st15 ?_
  show OFin p e below s _ _ Q (T15.setTop (mkF m 25 #[.val (.int pk), .val (.int rg), .val (.ref bq1), .unset, .unset, .unset] []))
  refine OFin.back (fun _ hr => XS.aloadN X15.here hx rfl (hb hby at_25) rfl rfl hr) ?_
  show OFin p e below s _ _ Q (T15.setTop (mkF m 26 #[.val (.int pk), .val (.int rg), .val (.ref bq1), .unset, .unset, .unset] [(.ref bq1)]))
  refine OFin.back (fun _ hr => XS.iconst X15.here hx rfl (hb hby at_26) hr) ?_
  show OFin p e below s _ _ Q (T15.setTop (mkF m 27 #[.val (.int pk), .val (.int rg), .val (.ref bq1), .unset, .unset, .unset] [(.int (3 : Int32)), (.ref bq1)]))
  refine OFin.back (fun _ hr => XS.iloadN X15.here hx rfl (hb hby at_27) rfl hr) ?_
  show OFin p e below s _ _ Q (T15.setTop (mkF m 28 #[.val (.int pk), .val (.int rg), .val (.ref bq1), .unset, .unset, .unset] [(.int pk), (.int (3 : Int32)), (.ref bq1)]))
  refine OFin.back (fun _ hr => XS.bipush X15.here hx rfl (hb hby at_28) hr) ?_
  show OFin p e below s _ _ Q (T15.setTop (mkF m 30 #[.val (.int pk), .val (.int rg), .val (.ref bq1), .unset, .unset, .unset] [(.int (24 : Int32)), (.int pk), (.int (3 : Int32)), (.ref bq1)]))
  refine OFin.back (fun _ hr => XS.iushr X15.here hx rfl (hb hby at_30) rfl hr) ?_
  show OFin p e below s _ _ Q (T15.setTop (mkF m 31 #[.val (.int pk), .val (.int rg), .val (.ref bq1), .unset, .unset, .unset] [(.int ((pk.toUInt32 >>> ((24 : Int32) &&& 31).toUInt32).toInt32)), (.int (3 : Int32)), (.ref bq1)]))
  refine OFin.back (fun _ hr => XS.i2b X15.here hx rfl (hb hby at_31) rfl hr) ?_
  show OFin p e below s _ _ Q (T15.setTop (mkF m 32 #[.val (.int pk), .val (.int rg), .val (.ref bq1), .unset, .unset, .unset] [(.int (((pk.toUInt32 >>> ((24 : Int32) &&& 31).toUInt32).toInt32).toInt8.toInt32)), (.int (3 : Int32)), (.ref bq1)]))
  obtain ⟨cl19, Ar19, q19, S19, M19, H19, G19⟩ := id V15
  have hin19 : ¬ ((3 : Int32) < 0 ∨ cl19.slots.size ≤ ((3 : Int32)).toNatClampNeg) := inb_of S19 ⟨by decide, by decide⟩
  obtain ⟨T19, h19, X19, e19, W19, st19⟩ := stB X15 hx hZ e15 Ar19 (j := (3 : Int32)) hin19 (g := (mkF m 32 #[.val (.int pk), .val (.int rg), .val (.ref bq1), .unset, .unset, .unset] [(.int (((pk.toUInt32 >>> ((24 : Int32) &&& 31).toUInt32).toInt32).toInt8.toInt32)), (.int (3 : Int32)), (.ref bq1)])) rfl rfl (hb hby at_32)
  have V19 : Arv Z h19 bq1 k1 .byte (4 : Int32) [(.int (nar .byte (pk.toInt8.toInt32))), (.int (nar .byte (((pk.toUInt32 >>> ((8 : Int32) &&& 31).toUInt32).toInt32).toInt8.toInt32))), (.int (nar .byte (((pk.toUInt32 >>> ((16 : Int32) &&& 31).toUInt32).toInt32).toInt8.toInt32))), (.int (nar .byte (((pk.toUInt32 >>> ((24 : Int32) &&& 31).toUInt32).toInt32).toInt8.toInt32)))] (.int (0 : Int32)) := Arv.set Ar19 q19 S19 M19 H19 G19 (fits_nar_byte _) W19 3 rfl (Nat.le_of_ble_eq_true rfl)
  have f20 := f16.wr W19 f2
  have f21 := Nat.le_trans f17 (Keep.of_wr W19).1
  have f22 := f18.wr W19 (Or.inr f3)
  have N19 := Fr.snoc X19 N15 f2
  refine OFin.back st19 ?_
  show OFin p e below s _ _ Q (T19.setTop (mkF m 33 #[.val (.int pk), .val (.int rg), .val (.ref bq1), .unset, .unset, .unset] []))
  obtain ⟨b0, hb0⟩ : ∃ z, z = (nar .byte (pk.toInt8.toInt32)) := ⟨_, rfl⟩
  have hB0 : -128 ≤ b0.toInt ∧ b0.toInt < 128 := by rw [hb0]; exact own_brng _
  obtain ⟨b1, hb1⟩ : ∃ z, z = (nar .byte (((pk.toUInt32 >>> ((8 : Int32) &&& 31).toUInt32).toInt32).toInt8.toInt32)) := ⟨_, rfl⟩
  have hB1 : -128 ≤ b1.toInt ∧ b1.toInt < 128 := by rw [hb1]; exact own_brng _
  obtain ⟨b2, hb2⟩ : ∃ z, z = (nar .byte (((pk.toUInt32 >>> ((16 : Int32) &&& 31).toUInt32).toInt32).toInt8.toInt32)) := ⟨_, rfl⟩
  have hB2 : -128 ≤ b2.toInt ∧ b2.toInt < 128 := by rw [hb2]; exact own_brng _
  obtain ⟨b3, hb3⟩ : ∃ z, z = (nar .byte (((pk.toUInt32 >>> ((24 : Int32) &&& 31).toUInt32).toInt32).toInt8.toInt32)) := ⟨_, rfl⟩
  have hB3 : -128 ≤ b3.toInt ∧ b3.toInt < 128 := by rw [hb3]; exact own_brng _
  rw [← hb0, ← hb1, ← hb2, ← hb3] at V19
  refine OFin.back (fun _ hr => XS.iloadN X19.here hx rfl (hb hby at_33) rfl hr) ?_
  show OFin p e below s _ _ Q (T19.setTop (mkF m 34 #[.val (.int pk), .val (.int rg), .val (.ref bq1), .unset, .unset, .unset] [(.int rg)]))
  refine OFin.back (fun _ hr => XS.bipush X19.here hx rfl (hb hby at_34) hr) ?_
  show OFin p e below s _ _ Q (T19.setTop (mkF m 36 #[.val (.int pk), .val (.int rg), .val (.ref bq1), .unset, .unset, .unset] [(.int (7 : Int32)), (.int rg)]))
  refine OFin.back (fun _ hr => XS.iand X19.here hx rfl (hb hby at_36) rfl hr) ?_
  show OFin p e below s _ _ Q (T19.setTop (mkF m 37 #[.val (.int pk), .val (.int rg), .val (.ref bq1), .unset, .unset, .unset] [(.int (rg &&& (7 : Int32)))]))
  refine OFin.back (fun _ hr => XS.iconst X19.here hx rfl (hb hby at_37) hr) ?_
  show OFin p e below s _ _ Q (T19.setTop (mkF m 38 #[.val (.int pk), .val (.int rg), .val (.ref bq1), .unset, .unset, .unset] [(.int (5 : Int32)), (.int (rg &&& (7 : Int32)))]))
  refine OFin.back (fun _ hr => iremM (g := (mkF m 38 #[.val (.int pk), .val (.int rg), .val (.ref bq1), .unset, .unset, .unset] [(.int (5 : Int32)), (.int (rg &&& (7 : Int32)))])) X19 hx rfl (hb hby at_38) rfl (by decide) hr) ?_
  show OFin p e below s _ _ Q (T19.setTop (mkF m 39 #[.val (.int pk), .val (.int rg), .val (.ref bq1), .unset, .unset, .unset] [(.int ((rg &&& (7 : Int32)) % (5 : Int32)))]))
  refine OFin.back (fun _ hr => XS.istoreN X19.here hx rfl (hb hby at_39) rfl (l' := #[.val (.int pk), .val (.int rg), .val (.ref bq1), .val (.int ((rg &&& (7 : Int32)) % (5 : Int32))), .unset, .unset]) rfl hr) ?_
  show OFin p e below s _ _ Q (T19.setTop (mkF m 40 #[.val (.int pk), .val (.int rg), .val (.ref bq1), .val (.int ((rg &&& (7 : Int32)) % (5 : Int32))), .unset, .unset] []))
  obtain ⟨v3, hv3⟩ : ∃ z, z = ((rg &&& (7 : Int32)) % (5 : Int32)) := ⟨_, rfl⟩
  rw [← hv3]
  have hs0 : 0 ≤ v3.toInt ∧ v3.toInt ≤ 4 := by rw [hv3]; exact own_l1 rg
  have hnz : (5 : Int32) - v3 ≠ 0 := own_l2 hs0
  show OFin p e below s _ _ Q (T19.setTop (mkF m 40 #[.val (.int pk), .val (.int rg), .val (.ref bq1), .val (.int v3), .unset, .unset] []))
  refine OFin.back (fun _ hr => XS.iloadN X19.here hx rfl (hb hby at_40) rfl hr) ?_
  show OFin p e below s _ _ Q (T19.setTop (mkF m 41 #[.val (.int pk), .val (.int rg), .val (.ref bq1), .val (.int v3), .unset, .unset] [(.int v3)]))
  refine OFin.back (fun _ hr => XS.iloadN X19.here hx rfl (hb hby at_41) rfl hr) ?_
  show OFin p e below s _ _ Q (T19.setTop (mkF m 42 #[.val (.int pk), .val (.int rg), .val (.ref bq1), .val (.int v3), .unset, .unset] [(.int rg), (.int v3)]))
  refine OFin.back (fun _ hr => XS.iconst X19.here hx rfl (hb hby at_42) hr) ?_
  show OFin p e below s _ _ Q (T19.setTop (mkF m 43 #[.val (.int pk), .val (.int rg), .val (.ref bq1), .val (.int v3), .unset, .unset] [(.int (3 : Int32)), (.int rg), (.int v3)]))
  refine OFin.back (fun _ hr => XS.iushr X19.here hx rfl (hb hby at_43) rfl hr) ?_
  show OFin p e below s _ _ Q (T19.setTop (mkF m 44 #[.val (.int pk), .val (.int rg), .val (.ref bq1), .val (.int v3), .unset, .unset] [(.int ((rg.toUInt32 >>> ((3 : Int32) &&& 31).toUInt32).toInt32)), (.int v3)]))
  refine OFin.back (fun _ hr => XS.bipush X19.here hx rfl (hb hby at_44) hr) ?_
  show OFin p e below s _ _ Q (T19.setTop (mkF m 46 #[.val (.int pk), .val (.int rg), .val (.ref bq1), .val (.int v3), .unset, .unset] [(.int (7 : Int32)), (.int ((rg.toUInt32 >>> ((3 : Int32) &&& 31).toUInt32).toInt32)), (.int v3)]))
  refine OFin.back (fun _ hr => XS.iand X19.here hx rfl (hb hby at_46) rfl hr) ?_
  show OFin p e below s _ _ Q (T19.setTop (mkF m 47 #[.val (.int pk), .val (.int rg), .val (.ref bq1), .val (.int v3), .unset, .unset] [(.int (((rg.toUInt32 >>> ((3 : Int32) &&& 31).toUInt32).toInt32) &&& (7 : Int32))), (.int v3)]))
  refine OFin.back (fun _ hr => XS.iconst X19.here hx rfl (hb hby at_47) hr) ?_
  show OFin p e below s _ _ Q (T19.setTop (mkF m 48 #[.val (.int pk), .val (.int rg), .val (.ref bq1), .val (.int v3), .unset, .unset] [(.int (5 : Int32)), (.int (((rg.toUInt32 >>> ((3 : Int32) &&& 31).toUInt32).toInt32) &&& (7 : Int32))), (.int v3)]))
  refine OFin.back (fun _ hr => XS.iloadN X19.here hx rfl (hb hby at_48) rfl hr) ?_
  show OFin p e below s _ _ Q (T19.setTop (mkF m 49 #[.val (.int pk), .val (.int rg), .val (.ref bq1), .val (.int v3), .unset, .unset] [(.int v3), (.int (5 : Int32)), (.int (((rg.toUInt32 >>> ((3 : Int32) &&& 31).toUInt32).toInt32) &&& (7 : Int32))), (.int v3)]))
  refine OFin.back (fun _ hr => XS.isub X19.here hx rfl (hb hby at_49) rfl hr) ?_
  show OFin p e below s _ _ Q (T19.setTop (mkF m 50 #[.val (.int pk), .val (.int rg), .val (.ref bq1), .val (.int v3), .unset, .unset] [(.int ((5 : Int32) - v3)), (.int (((rg.toUInt32 >>> ((3 : Int32) &&& 31).toUInt32).toInt32) &&& (7 : Int32))), (.int v3)]))
  refine OFin.back (fun _ hr => iremM (g := (mkF m 50 #[.val (.int pk), .val (.int rg), .val (.ref bq1), .val (.int v3), .unset, .unset] [(.int ((5 : Int32) - v3)), (.int (((rg.toUInt32 >>> ((3 : Int32) &&& 31).toUInt32).toInt32) &&& (7 : Int32))), (.int v3)])) X19 hx rfl (hb hby at_50) rfl hnz hr) ?_
  show OFin p e below s _ _ Q (T19.setTop (mkF m 51 #[.val (.int pk), .val (.int rg), .val (.ref bq1), .val (.int v3), .unset, .unset] [(.int ((((rg.toUInt32 >>> ((3 : Int32) &&& 31).toUInt32).toInt32) &&& (7 : Int32)) % ((5 : Int32) - v3))), (.int v3)]))
  refine OFin.back (fun _ hr => XS.iadd X19.here hx rfl (hb hby at_51) rfl hr) ?_
  show OFin p e below s _ _ Q (T19.setTop (mkF m 52 #[.val (.int pk), .val (.int rg), .val (.ref bq1), .val (.int v3), .unset, .unset] [(.int (v3 + ((((rg.toUInt32 >>> ((3 : Int32) &&& 31).toUInt32).toInt32) &&& (7 : Int32)) % ((5 : Int32) - v3))))]))
  refine OFin.back (fun _ hr => XS.istore X19.here hx rfl (hb hby at_52) rfl (l' := #[.val (.int pk), .val (.int rg), .val (.ref bq1), .val (.int v3), .val (.int (v3 + ((((rg.toUInt32 >>> ((3 : Int32) &&& 31).toUInt32).toInt32) &&& (7 : Int32)) % ((5 : Int32) - v3)))), .unset]) rfl hr) ?_
  show OFin p e below s _ _ Q (T19.setTop (mkF m 54 #[.val (.int pk), .val (.int rg), .val (.ref bq1), .val (.int v3), .val (.int (v3 + ((((rg.toUInt32 >>> ((3 : Int32) &&& 31).toUInt32).toInt32) &&& (7 : Int32)) % ((5 : Int32) - v3)))), .unset] []))
  obtain ⟨v4, hv4⟩ : ∃ z, z = (v3 + ((((rg.toUInt32 >>> ((3 : Int32) &&& 31).toUInt32).toInt32) &&& (7 : Int32)) % ((5 : Int32) - v3))) := ⟨_, rfl⟩
  rw [← hv4]
  have hse : v3.toInt ≤ v4.toInt ∧ v4.toInt ≤ 4 := by rw [hv4]; exact own_l3 _ hs0
  show OFin p e below s _ _ Q (T19.setTop (mkF m 54 #[.val (.int pk), .val (.int rg), .val (.ref bq1), .val (.int v3), .val (.int v4), .unset] []))
  refine OFin.back (fun _ hr => XS.aloadN X19.here hx rfl (hb hby at_54) rfl rfl hr) ?_
  show OFin p e below s _ _ Q (T19.setTop (mkF m 55 #[.val (.int pk), .val (.int rg), .val (.ref bq1), .val (.int v3), .val (.int v4), .unset] [(.ref bq1)]))
  refine OFin.back (fun _ hr => XS.iloadN X19.here hx rfl (hb hby at_55) rfl hr) ?_
  show OFin p e below s _ _ Q (T19.setTop (mkF m 56 #[.val (.int pk), .val (.int rg), .val (.ref bq1), .val (.int v3), .val (.int v4), .unset] [(.int v3), (.ref bq1)]))
  refine OFin.back (fun _ hr => XS.iload X19.here hx rfl (hb hby at_56) rfl hr) ?_
  show OFin p e below s _ _ Q (T19.setTop (mkF m 58 #[.val (.int pk), .val (.int rg), .val (.ref bq1), .val (.int v3), .val (.int v4), .unset] [(.int v4), (.int v3), (.ref bq1)]))
  obtain ⟨_, _, ⟨T23, L23, k23, n23⟩, -, X23, ⟨Lc23, hQ23, l23, y23, z23⟩, st23⟩ := Jvm.LawKit.callS X19 hx (y := (⟨"com/example/bytelore/bytelore/classfile/NamesBinaryNameEndPinLaw", "reference", "([BII)I"⟩ : MethodName)) hown (mvT hZ (hw _ (List.mem_of_getElem? (i := 1) rfl))) (mvT hZ (hw _ (List.mem_of_getElem? (i := 2) rfl))) (mvT hZ (hw _ (List.mem_of_getElem? (i := 3) rfl))) (mvT hZ (hw _ (List.mem_of_getElem? (i := 4) rfl))) (by decide) (backOf (W := 0) (rm4 l Z a0 hw [] bq1 v3 v4 k1 b0 b1 b2 b3 (h19) n0 f21 V19 hs0.1 hse.1 hse.2) hZ (hw _ (List.mem_of_getElem? (i := 4) rfl)) (hw _ (List.mem_of_getElem? (i := 3) rfl)) (by decide) (by decide)) (g := (mkF m 58 #[.val (.int pk), .val (.int rg), .val (.ref bq1), .val (.int v3), .val (.int v4), .unset] [(.int v4), (.int v3), (.ref bq1)])) rfl (by rw [hml]; rfl) (argsL := [(.ref bq1), (.int v3), (.int v4)]) (rest := []) (lenOf pd0_0 rfl) rfl (by show 2 * 0 + _ ≤ _; exact Nat.le_of_eq rfl) (hb hby at_58) (fun _ _ => ⟨rfl, e19, (by decide : 1 + 0 ≤ _), (by decide : 4 + 0 ≤ _)⟩)
  dsimp only [Pt.U, Pt.locs, Pt.cells, Pt.slots] at X23 l23 y23 z23 st23 hQ23
  subst l23 y23 z23
  obtain ⟨rfl, N23q, e23⟩ := hQ23
  have N23 := Fr.app N19 N23q
  refine OFin.back st23 ?_
  show OFin p e below s _ _ Q (T23.setTop (mkF m 61 #[.val (.int pk), .val (.int rg), .val (.ref bq1), .val (.int v3), .val (.int v4), .unset] [(.int (own_ref b0 b1 b2 b3 v3 v4))]))
  refine OFin.back (fun _ hr => XS.istore X23.here hx rfl (hb hby at_61) rfl (l' := #[.val (.int pk), .val (.int rg), .val (.ref bq1), .val (.int v3), .val (.int v4), .val (.int (own_ref b0 b1 b2 b3 v3 v4))]) rfl hr) ?_
  show OFin p e below s _ _ Q (T23.setTop (mkF m 63 #[.val (.int pk), .val (.int rg), .val (.ref bq1), .val (.int v3), .val (.int v4), .val (.int (own_ref b0 b1 b2 b3 v3 v4))] []))
  refine OFin.back (fun _ hr => XS.aloadN X23.here hx rfl (hb hby at_63) rfl rfl hr) ?_
  show OFin p e below s _ _ Q (T23.setTop (mkF m 64 #[.val (.int pk), .val (.int rg), .val (.ref bq1), .val (.int v3), .val (.int v4), .val (.int (own_ref b0 b1 b2 b3 v3 v4))] [(.ref bq1)]))
  refine OFin.back (fun _ hr => XS.iloadN X23.here hx rfl (hb hby at_64) rfl hr) ?_
  show OFin p e below s _ _ Q (T23.setTop (mkF m 65 #[.val (.int pk), .val (.int rg), .val (.ref bq1), .val (.int v3), .val (.int v4), .val (.int (own_ref b0 b1 b2 b3 v3 v4))] [(.int v3), (.ref bq1)]))
  refine OFin.back (fun _ hr => XS.iload X23.here hx rfl (hb hby at_65) rfl hr) ?_
  show OFin p e below s _ _ Q (T23.setTop (mkF m 67 #[.val (.int pk), .val (.int rg), .val (.ref bq1), .val (.int v3), .val (.int v4), .val (.int (own_ref b0 b1 b2 b3 v3 v4))] [(.int v4), (.int v3), (.ref bq1)]))
  obtain ⟨_, _, ⟨T24, L24, k24, n24⟩, -, X24, ⟨Lc24, hQ24, l24, y24, z24⟩, st24⟩ := Jvm.LawKit.callS X23 hx (y := (⟨"com/example/bytelore/bytelore/classfile/Names", "binaryNameEnd", "([BII)I"⟩ : MethodName)) hown (mvT hZ (hw _ (List.mem_of_getElem? (i := 8) rfl))) (mvT hZ (hw _ (List.mem_of_getElem? (i := 9) rfl))) (mvT hZ (hw _ (List.mem_of_getElem? (i := 10) rfl))) (mvT hZ (hw _ (List.mem_of_getElem? (i := 11) rfl))) (by decide) (backOf (W := 0) (rm5 l Z a0 hw [] bq1 v3 v4 k1 b0 b1 b2 b3 ka cl (h19) n0 f21 V19 hs0.1 hse.1 hse.2 (own_sta S_KINDS f20) (Ar.ext f20.2) HK) hZ (hw _ (List.mem_of_getElem? (i := 11) rfl)) (hw _ (List.mem_of_getElem? (i := 10) rfl)) (by decide) (by decide)) (g := (mkF m 67 #[.val (.int pk), .val (.int rg), .val (.ref bq1), .val (.int v3), .val (.int v4), .val (.int (own_ref b0 b1 b2 b3 v3 v4))] [(.int v4), (.int v3), (.ref bq1)])) rfl (by rw [hml]; rfl) (argsL := [(.ref bq1), (.int v3), (.int v4)]) (rest := []) (lenOf pd0_0 rfl) rfl (by show 2 * 0 + _ ≤ _; exact Nat.le_of_eq rfl) (hb hby at_67) (fun _ _ => ⟨rfl, e23, (by decide : 1 + 0 ≤ _), (by decide : 4 + 0 ≤ _)⟩)
  dsimp only [Pt.U, Pt.locs, Pt.cells, Pt.slots] at X24 l24 y24 z24 st24 hQ24
  subst l24 y24 z24
  obtain ⟨rfl, N24q, e24⟩ := hQ24
  have N24 := Fr.app N23 N24q
  refine OFin.back st24 ?_
  show OFin p e below s _ _ Q (T24.setTop (mkF m 70 #[.val (.int pk), .val (.int rg), .val (.ref bq1), .val (.int v3), .val (.int v4), .val (.int (own_ref b0 b1 b2 b3 v3 v4))] [(.int (own_bne b0 b1 b2 b3 v3 v4))]))
  refine OFin.back (fun _ hr => XS.iload X24.here hx rfl (hb hby at_70) rfl hr) ?_
  show OFin p e below s _ _ Q (T24.setTop (mkF m 72 #[.val (.int pk), .val (.int rg), .val (.ref bq1), .val (.int v3), .val (.int v4), .val (.int (own_ref b0 b1 b2 b3 v3 v4))] [(.int (own_ref b0 b1 b2 b3 v3 v4)), (.int (own_bne b0 b1 b2 b3 v3 v4))]))
  have hlaw := own_law hB0 hB1 hB2 hB3 hs0.1 hse.1 hse.2
  refine OFin.back (fun _ hr => XS.icmpNo X24.here hx rfl (hb hby at_72) rfl (teq hlaw).2 hr) ?_
  show OFin p e below s _ _ Q (T24.setTop (mkF m 75 #[.val (.int pk), .val (.int rg), .val (.ref bq1), .val (.int v3), .val (.int v4), .val (.int (own_ref b0 b1 b2 b3 v3 v4))] []))
  refine OFin.back (fun _ hr => XS.iconst X24.here hx rfl (hb hby at_75) hr) ?_
  show OFin p e below s _ _ Q (T24.setTop (mkF m 76 #[.val (.int pk), .val (.int rg), .val (.ref bq1), .val (.int v3), .val (.int v4), .val (.int (own_ref b0 b1 b2 b3 v3 v4))] [(.int (1 : Int32))]))
  refine OFin.back (fun _ hr => XS.goto X24.here hx rfl (pc0 := 76) (pc' := 80) rfl (hb hby at_76) (by decide) (by decide) hr) ?_
  show OFin p e below s _ _ Q (T24.setTop (mkF m 80 #[.val (.int pk), .val (.int rg), .val (.ref bq1), .val (.int v3), .val (.int v4), .val (.int (own_ref b0 b1 b2 b3 v3 v4))] [(.int (1 : Int32))]))
  exact OFin.outN (t := .boolean) X24 hx Bd.returns (by simp) Bd.notSynchronized (hb hby at_80) (by decide) (by decide) e24 (by rw [hQ]; exact ⟨rfl, N24⟩)
set_option maxRecDepth 65536 in
set_option maxHeartbeats 40000000 in
theorem comes_1 {Post : Tables → Env → Array Value → State → Outcome → State → Prop} (hpost : ∀ tb e args s v u, (limb_1_1.after args s (.returned v) u = true ∧ limb_1_2.after args s (.returned v) u = true ∧ True) → FrameEnd s (.returned v) u (Jvm.fieldLocs frame_1_writes args s ++ Jvm.arrayLocs frame_1_arrays args s ++ Jvm.staticLocs frame_1_statics s) 16 128 → Post tb e args s (.returned v) u) :
    ArmFor flags0 classFile x code maxLocals ret World_1 tables_1 room_1 Calls_1 rest_1 Pre_1 Post := by
  intro l hfl _ _ p e ha hc hk s m args below hf hA hF happ hP
  obtain ⟨hcalls, hrest, hpre⟩ := hP
  obtain ⟨-, -, -, hnamed, -, -, -, hat⟩ := (Spec.applies_iff hf).mp happ
  obtain ⟨hg, hn⟩ := and_e (Cond.before_iff.mp (show (Jvm.Cond.and given_1 narrow_1).before args s = true from hpre))
  obtain ⟨hga, hgb⟩ := and_e hg
  obtain ⟨hgba, hgbb⟩ := and_e hgb
  obtain ⟨w0, w1, rfl⟩ : ∃ w0 w1 : Value, args = #[w0, w1] := by
    have hs : args.size = 2 := by simpa [Cond.value, given_1] using hga
    obtain ⟨L⟩ := args
    match L, hs with
    | [w0, w1], _ => exact ⟨w0, w1, rfl⟩
  have hw := fun d (hd : d ∈ tables_1) => atoms_spec (ws := Jvm.Cond.code x code maxLocals ret :: tables_1) hat d (List.mem_cons_of_mem _ hd)
  have hfit : Fit s := fun {y c} hc i hi => by
    obtain ⟨ha, rfl⟩ := Array.getElem?_eq_some_iff.mp hc
    have q := List.all_eq_true.mp ((Array.all_eq_true_iff_forall_mem.mp hF) _ (Array.getElem_mem ha)) i (List.mem_range.mpr hi)
    simpa [Array.getElem?_eq_getElem hi] using q
  obtain ⟨i0, ei0⟩ := is_v hgba
  obtain rfl : w0 = (.int i0) := Option.some.inj ei0
  obtain ⟨i1, ei1⟩ := is_v hgbb
  obtain rfl : w1 = (.int i1) := Option.some.inj ei1
  obtain ⟨hna, hnb⟩ := and_e hn
  obtain ⟨hnba, hnbb⟩ := and_e hnb
  obtain ⟨hnbba, hnbbb⟩ := and_e hnbb
  obtain ⟨hnbbba, hnbbbb⟩ := and_e hnbbb
  obtain ⟨hnbbbba, hnbbbbb⟩ := and_e hnbbbb
  obtain ⟨hnbbbbba, hnbbbbbb⟩ := and_e hnbbbbb
  obtain ⟨hnbbbbbba, hnbbbbbbb⟩ := and_e hnbbbbbb
  obtain ⟨hnbbbbbbba, hnbbbbbbbb⟩ := and_e hnbbbbbbb
  obtain ⟨hnbbbbbbbba, hnbbbbbbbbb⟩ := and_e hnbbbbbbbb
  obtain ⟨hnbbbbbbbbba, hnbbbbbbbbbb⟩ := and_e hnbbbbbbbbb
  obtain ⟨hnbbbbbbbbbba, hnbbbbbbbbbbb⟩ := and_e hnbbbbbbbbbb
  obtain ⟨hnbbbbbbbbbbba, hnbbbbbbbbbbbb⟩ := and_e hnbbbbbbbbbbb
  obtain ⟨hnbbbbbbbbbbbba, hnbbbbbbbbbbbbb⟩ := and_e hnbbbbbbbbbbbb
  obtain ⟨hnbbbbbbbbbbbbba, hnbbbbbbbbbbbbbb⟩ := and_e hnbbbbbbbbbbbbb
  obtain ⟨hnbbbbbbbbbbbbbba, hnbbbbbbbbbbbbbbb⟩ := and_e hnbbbbbbbbbbbbbb
  obtain ⟨hnbbbbbbbbbbbbbbba, hnbbbbbbbbbbbbbbbb⟩ := and_e hnbbbbbbbbbbbbbbb
  obtain ⟨hnbbbbbbbbbbbbbbbba, hnbbbbbbbbbbbbbbbbb⟩ := and_e hnbbbbbbbbbbbbbbbb
  obtain ⟨hnbbbbbbbbbbbbbbbbba, hnbbbbbbbbbbbbbbbbbb⟩ := and_e hnbbbbbbbbbbbbbbbbb
  obtain ⟨hnbbbbbbbbbbbbbbbbbba, hnbbbbbbbbbbbbbbbbbbb⟩ := and_e hnbbbbbbbbbbbbbbbbbb
  obtain ⟨hnbbbbbbbbbbbbbbbbbbba, hnbbbbbbbbbbbbbbbbbbbb⟩ := and_e hnbbbbbbbbbbbbbbbbbbb
  obtain ⟨ka, evk⟩ := arr_v hna
  have S_KINDS := Sta.start evk (Or.inr ⟨(hw _ (List.mem_of_getElem? (i := 10) rfl)), (hw _ (List.mem_of_getElem? (i := 19) rfl))⟩)
  obtain ⟨cl, Ar⟩ := Arr.start evk hna
  have et : ∀ idx, (Jvm.Term.static "com/example/bytelore/bytelore/classfile/Names" "KINDS" "[B").eval #[(.int i0), (.int i1)] s none idx s = some (.ref ka) := fun _ => evk
  have harr := Ar.fin (Vm.Alike.refl _)
  obtain ⟨z1, z2⟩ := own_len evk harr (eqv_i (F := Jvm.Term.int (256 : Int32)) rfl hnba)
  have hsz : cl.slots.size = 256 := own_256 z1 z2
  have HK : ∀ j : Int32, ¬ j < 0 ∧ j < (256 : Int32) → ¬ (j < 0 ∨ cl.slots.size ≤ j.toNatClampNeg) ∧ cl.slots[j.toNatClampNeg]? = some (.int (own_kind j)) := by
    intro j hj
    have hnat := nat_of hj.1
    have a1 : (256 : Int32).toInt = 256 := by decide
    have h2 := hj.2
    rw [Int32.lt_iff_toInt_lt, a1] at h2
    have hlt : j.toNatClampNeg < cl.slots.size := by rw [hsz]; omega
    refine ⟨fun q => q.elim hj.1 (fun q => absurd hlt (Nat.not_lt.mpr q)), ?_⟩
    unfold own_kind
    by_cases q0 : j.toInt = 0
    · rw [if_pos q0]; exact own_el et harr (by decide) hnbba (q0.trans (by decide))
    rw [if_neg q0]
    by_cases q1 : j.toInt < 32
    · rw [if_pos q1]
      rcases own_all3 et harr hnbbba hj.1 hlt with q | q | q
      · exfalso; have b1 : (1 : Int32).toInt = 1 := by decide
        omega
      · exfalso; have b1 : (32 : Int32).toInt = 32 := by decide
        omega
      · exact q
    rw [if_neg q1]
    by_cases q32 : j.toInt < 46
    · rw [if_pos q32]
      rcases own_all3 et harr hnbbbba hj.1 hlt with q | q | q
      · exfalso; have b1 : (32 : Int32).toInt = 32 := by decide
        omega
      · exfalso; have b1 : (46 : Int32).toInt = 46 := by decide
        omega
      · exact q
    rw [if_neg q32]
    by_cases q46 : j.toInt = 46
    · rw [if_pos q46]; exact own_el et harr (by decide) hnbbbbba (q46.trans (by decide))
    rw [if_neg q46]
    by_cases q47 : j.toInt = 47
    · rw [if_pos q47]; exact own_el et harr (by decide) hnbbbbbba (q47.trans (by decide))
    rw [if_neg q47]
    by_cases q48 : j.toInt < 58
    · rw [if_pos q48]
      rcases own_all3 et harr hnbbbbbbba hj.1 hlt with q | q | q
      · exfalso; have b1 : (48 : Int32).toInt = 48 := by decide
        omega
      · exfalso; have b1 : (58 : Int32).toInt = 58 := by decide
        omega
      · exact q
    rw [if_neg q48]
    by_cases q58 : j.toInt = 58
    · rw [if_pos q58]; exact own_el et harr (by decide) hnbbbbbbbba (q58.trans (by decide))
    rw [if_neg q58]
    by_cases q59 : j.toInt = 59
    · rw [if_pos q59]; exact own_el et harr (by decide) hnbbbbbbbbba (q59.trans (by decide))
    rw [if_neg q59]
    by_cases q60 : j.toInt = 60
    · rw [if_pos q60]; exact own_el et harr (by decide) hnbbbbbbbbbba (q60.trans (by decide))
    rw [if_neg q60]
    by_cases q61 : j.toInt = 61
    · rw [if_pos q61]; exact own_el et harr (by decide) hnbbbbbbbbbbba (q61.trans (by decide))
    rw [if_neg q61]
    by_cases q62 : j.toInt = 62
    · rw [if_pos q62]; exact own_el et harr (by decide) hnbbbbbbbbbbbba (q62.trans (by decide))
    rw [if_neg q62]
    by_cases q63 : j.toInt = 63
    · rw [if_pos q63]; exact own_el et harr (by decide) hnbbbbbbbbbbbbba (q63.trans (by decide))
    rw [if_neg q63]
    by_cases q64 : j.toInt = 64
    · rw [if_pos q64]; exact own_el et harr (by decide) hnbbbbbbbbbbbbbba (q64.trans (by decide))
    rw [if_neg q64]
    by_cases q65 : j.toInt < 91
    · rw [if_pos q65]
      rcases own_all3 et harr hnbbbbbbbbbbbbbbba hj.1 hlt with q | q | q
      · exfalso; have b1 : (65 : Int32).toInt = 65 := by decide
        omega
      · exfalso; have b1 : (91 : Int32).toInt = 91 := by decide
        omega
      · exact q
    rw [if_neg q65]
    by_cases q91 : j.toInt = 91
    · rw [if_pos q91]; exact own_el et harr (by decide) hnbbbbbbbbbbbbbbbba (q91.trans (by decide))
    rw [if_neg q91]
    by_cases q92 : j.toInt = 92
    · rw [if_pos q92]; exact own_el et harr (by decide) hnbbbbbbbbbbbbbbbbba (q92.trans (by decide))
    rw [if_neg q92]
    by_cases q93 : j.toInt < 192
    · rw [if_pos q93]
      rcases own_all3 et harr hnbbbbbbbbbbbbbbbbbba hj.1 hlt with q | q | q
      · exfalso; have b1 : (93 : Int32).toInt = 93 := by decide
        omega
      · exfalso; have b1 : (192 : Int32).toInt = 192 := by decide
        omega
      · exact q
    rw [if_neg q93]
    by_cases q192 : j.toInt = 192
    · rw [if_pos q192]; exact own_el et harr (by decide) hnbbbbbbbbbbbbbbbbbbba (q192.trans (by decide))
    rw [if_neg q192]
    rcases own_all2 et harr hnbbbbbbbbbbbbbbbbbbbb hj.1 hlt with q | q
    · exfalso; have b1 : (193 : Int32).toInt = 193 := by decide
      omega
    · exact q
  obtain ⟨n, o, h1, h2, h3, _, L, rfl, ⟨rfl, N⟩, hq⟩ := rm0 l s _ hw tables_1 i0 i1 ka cl s.heap s.heap.size (Nat.le_refl _) (Old.start s) S_KINDS Ar HK p e ha hc hk s m _ below hf ((Spec.applies_iff_loose hf).mp happ).1 ⟨rfl, State.Warmed39.refl s, rfl⟩ trivial
  refine ⟨n, _, h1, h2, h3, hpost _ _ _ _ _ _ ⟨Cond.after_iff.mpr rfl, Cond.after_iff.mpr (eq_i res_at (Term.int_eval (1)) rfl), trivial⟩ ⟨hq.1, hq.2.1, (hq.2.2.sift fun y hy => Or.inr (N y hy)).mono (by decide) (by decide)⟩⟩
theorem main_1_1 : Claimed_1_1 := comes_1 fun _ _ _ _ _ _ h hF => ⟨h.1, hF⟩
theorem main_1_2 : Claimed_1_2 := comes_1 fun _ _ _ _ _ _ h hF => ⟨h.2.1, hF⟩
end Jvm.Pilot.@@N@@
namespace Jvm.Pilot.@@N@@
open Jvm Jvm.ClassFile Sem Op Lib Jvm.Free Jvm.Stand Jvm.Pilot.@@N@@.Jvm.D
/-! MADE BY PROGRAM (witnessworld.py) out of the Statement's table words and the real class files: 9 classes; the members and pool entries that the words name. The judged class is class 1, her method 1. -/
namespace start1
open Jvm.ClassFile
def u (s : String) : CpInfo := .utf8 (stringToUtf16 s)
/-- a pool by its gaps: so many unusable entries, then the entry; so many at the end -/
def gap : Nat → List CpInfo → List CpInfo
  | 0, r => r
  | n + 1, r => .unusable :: gap n r
def poolList (es : List (Nat × CpInfo)) (last : Nat) : List CpInfo := es.foldr (fun e r => gap e.1 (e.2 :: r)) (gap last [])
def pool (es : List (Nat × CpInfo)) (last : Nat) : Array CpInfo := ⟨poolList es last⟩
def fileOf (pool : Array CpInfo) (this : Nat) (attrs : Array Attribute := #[]) (ms : Array MethodInfo := #[]) (fl : Nat := 33) (sup : Nat := 0) (ifs : Array Nat := #[]) (fds : Array FieldInfo := #[]) : ClassFile where
  minorVersion := 0
  majorVersion := 65
  constantPool := pool
  accessFlags := fl
  thisClass := this
  superClass := sup
  interfaces := ifs
  fields := fds
  methods := ms
  attributes := attrs
def plain (name : String) (sup : Option ClassId) : Class where
  name := name
  kind := .ordinary
  loader := none
  accessFlags := 33
  super := sup
  interfaces := #[]
  cf := none
  fields := #[]
  methods := #[]
  instanceTypes := #[]
  staticTypes := #[]
  resolved := #[]
  callSites := []
  init := .initialized
  statics := none
  mirror := none

def pool0 : Array CpInfo := pool [(5, u "<init>"), (0, u "()V"), (1, .class_ 10), (1, u "java/lang/Object")] 113

def k0m0 : Method := { name := "<init>", desc := "()V", sig := { parameters := [], returnType := none }, accessFlags := 1, code := none }
/-- java/lang/Object -/
def k0 : Class := { plain "java/lang/Object" none with
  accessFlags := 33
  interfaces := #[]
  cf := some (fileOf pool0 8 #[] #[{ accessFlags := 1, nameIndex := 5, descriptorIndex := 6, attributes := #[] }] 33 0 #[] #[])
  fields := #[]
  methods := #[k0m0]
  instanceTypes := #[]
  staticTypes := #[]
  resolved := Array.replicate 124 none
  statics := none }

def pool1 : Array CpInfo := pool [(2, .class_ 4), (1, u "java/lang/Object"), (0, u "<init>"), (0, u "()V"), (0, .methodref 8 9), (0, .class_ 10), (0, .nameAndType 11 12), (0, u "com/example/bytelore/bytelore/classfile/NamesBinaryNameEndPinLaw"), (0, u "reference"), (0, u "([BII)I"), (0, .methodref 14 15), (0, .class_ 16), (0, .nameAndType 17 12), (0, u "com/example/bytelore/bytelore/classfile/Names"), (0, u "binaryNameEnd"), (0, .methodref 8 19), (0, .nameAndType 20 21), (0, u "stops"), (0, u "(B)Z"), (0, .methodref 8 23), (0, .nameAndType 24 12), (0, u "stop"), (0, .methodref 8 26), (0, .nameAndType 27 21), (0, u "slash"), (2, u "law"), (0, u "(II)Z")] 5

def k1m0 : Method := { name := "<init>", desc := "()V", sig := { parameters := [], returnType := none }, accessFlags := 1, code := none }
def k1c1 : Code := { maxStack := 4, maxLocals := 6, code := code, exceptionTable := #[], attributes := #[] }
def k1m1 : Method := { name := "law", desc := "(II)Z", sig := { parameters := [.int, .int], returnType := some .boolean }, accessFlags := 9, code := some k1c1 }
def k1c2 : Code := { maxStack := 2, maxLocals := 1, code := method_3_code, exceptionTable := #[], attributes := #[] }
def k1m2 : Method := { name := "stops", desc := "(B)Z", sig := { parameters := [.byte], returnType := some .boolean }, accessFlags := 10, code := some k1c2 }
def k1c3 : Code := { maxStack := 2, maxLocals := 1, code := method_4_code, exceptionTable := #[], attributes := #[] }
def k1m3 : Method := { name := "slash", desc := "(B)Z", sig := { parameters := [.byte], returnType := some .boolean }, accessFlags := 10, code := some k1c3 }
def k1c4 : Code := { maxStack := 2, maxLocals := 3, code := method_5_code, exceptionTable := #[], attributes := #[] }
def k1m4 : Method := { name := "stop", desc := "([BII)I", sig := { parameters := [(.array .byte), .int, .int], returnType := some .int }, accessFlags := 10, code := some k1c4 }
def k1c5 : Code := { maxStack := 3, maxLocals := 4, code := method_6_code, exceptionTable := #[], attributes := #[] }
def k1m5 : Method := { name := "reference", desc := "([BII)I", sig := { parameters := [(.array .byte), .int, .int], returnType := some .int }, accessFlags := 10, code := some k1c5 }
/-- com/example/bytelore/bytelore/classfile/NamesBinaryNameEndPinLaw -/
def k1 : Class := { plain "com/example/bytelore/bytelore/classfile/NamesBinaryNameEndPinLaw" (some 0) with
  accessFlags := 49
  interfaces := #[]
  cf := some (fileOf pool1 8 #[] #[{ accessFlags := 1, nameIndex := 5, descriptorIndex := 6, attributes := #[] }, { accessFlags := 9, nameIndex := 30, descriptorIndex := 31, attributes := #[] }, { accessFlags := 10, nameIndex := 20, descriptorIndex := 21, attributes := #[] }, { accessFlags := 10, nameIndex := 27, descriptorIndex := 21, attributes := #[] }, { accessFlags := 10, nameIndex := 24, descriptorIndex := 12, attributes := #[] }, { accessFlags := 10, nameIndex := 11, descriptorIndex := 12, attributes := #[] }] 49 2 #[] #[])
  fields := #[]
  methods := #[k1m0, k1m1, k1m2, k1m3, k1m4, k1m5]
  instanceTypes := #[]
  staticTypes := #[]
  resolved := Array.replicate 37 none
  statics := none }

def pool2 : Array CpInfo := pool [(2, .class_ 4), (1, u "java/lang/Object"), (0, u "<init>"), (0, u "()V"), (1, .class_ 10), (1, u "com/example/bytelore/bytelore/classfile/Names"), (0, u "binaryNameEnd"), (0, u "([BII)I"), (0, .fieldref 8 14), (0, .nameAndType 15 16), (0, u "KINDS"), (0, u "[B"), (0, u "CONSTRUCTOR"), (0, u "Ljava/lang/String;"), (2, u "CLASS_INITIALIZER"), (2, u "OBJECT"), (1, u "MODULE_INFO"), (2, u "SLASH"), (0, u "I"), (1, u "ENDS_BINARY_NAME"), (1, u "NOT_UNQUALIFIED"), (1, u "NOT_IN_METHOD_NAME"), (1, u "NOT_IN_MODULE_NAME"), (1, u "BACKSLASH")] 13

def k2m0 : Method := { name := "<init>", desc := "()V", sig := { parameters := [], returnType := none }, accessFlags := 2, code := none }
def k2c1 : Code := { maxStack := 3, maxLocals := 7, code := prog_107_method_3_code, exceptionTable := #[], attributes := #[] }
def k2m1 : Method := { name := "binaryNameEnd", desc := "([BII)I", sig := { parameters := [(.array .byte), .int, .int], returnType := some .int }, accessFlags := 8, code := some k2c1 }
/-- com/example/bytelore/bytelore/classfile/Names -/
def k2 : Class := { plain "com/example/bytelore/bytelore/classfile/Names" (some 0) with
  accessFlags := 48
  interfaces := #[]
  cf := some (fileOf pool2 8 #[] #[{ accessFlags := 2, nameIndex := 5, descriptorIndex := 6, attributes := #[] }, { accessFlags := 8, nameIndex := 11, descriptorIndex := 12, attributes := #[] }] 48 2 #[] #[{ accessFlags := 24, nameIndex := 17, descriptorIndex := 18, attributes := #[] }, { accessFlags := 24, nameIndex := 21, descriptorIndex := 18, attributes := #[] }, { accessFlags := 24, nameIndex := 24, descriptorIndex := 18, attributes := #[] }, { accessFlags := 24, nameIndex := 26, descriptorIndex := 18, attributes := #[] }, { accessFlags := 26, nameIndex := 29, descriptorIndex := 30, attributes := #[] }, { accessFlags := 26, nameIndex := 32, descriptorIndex := 30, attributes := #[] }, { accessFlags := 26, nameIndex := 34, descriptorIndex := 30, attributes := #[] }, { accessFlags := 26, nameIndex := 36, descriptorIndex := 30, attributes := #[] }, { accessFlags := 26, nameIndex := 38, descriptorIndex := 30, attributes := #[] }, { accessFlags := 26, nameIndex := 40, descriptorIndex := 30, attributes := #[] }, { accessFlags := 26, nameIndex := 15, descriptorIndex := 16, attributes := #[] }])
  fields := #[{ name := "CONSTRUCTOR", type := (.object "java/lang/String"), accessFlags := 24, slot := 0, constantValue := 0 }, { name := "CLASS_INITIALIZER", type := (.object "java/lang/String"), accessFlags := 24, slot := 1, constantValue := 0 }, { name := "OBJECT", type := (.object "java/lang/String"), accessFlags := 24, slot := 2, constantValue := 0 }, { name := "MODULE_INFO", type := (.object "java/lang/String"), accessFlags := 24, slot := 3, constantValue := 0 }, { name := "SLASH", type := .int, accessFlags := 26, slot := 4, constantValue := 0 }, { name := "ENDS_BINARY_NAME", type := .int, accessFlags := 26, slot := 5, constantValue := 0 }, { name := "NOT_UNQUALIFIED", type := .int, accessFlags := 26, slot := 6, constantValue := 0 }, { name := "NOT_IN_METHOD_NAME", type := .int, accessFlags := 26, slot := 7, constantValue := 0 }, { name := "NOT_IN_MODULE_NAME", type := .int, accessFlags := 26, slot := 8, constantValue := 0 }, { name := "BACKSLASH", type := .int, accessFlags := 26, slot := 9, constantValue := 0 }, { name := "KINDS", type := (.array .byte), accessFlags := 26, slot := 10, constantValue := 0 }]
  methods := #[k2m0, k2m1]
  instanceTypes := #[]
  staticTypes := #[(.object "java/lang/String"), (.object "java/lang/String"), (.object "java/lang/String"), (.object "java/lang/String"), .int, .int, .int, .int, .int, .int, (.array .byte)]
  resolved := Array.replicate 54 none
  statics := some 0 }

def pool3 : Array CpInfo := pool [(1, u "java/lang/Cloneable"), (0, .class_ 1), (0, u "java/lang/Object"), (0, .class_ 3)] 3

/-- java/lang/Cloneable -/
def k3 : Class := { plain "java/lang/Cloneable" (some 0) with
  accessFlags := 1537
  interfaces := #[]
  cf := some (fileOf pool3 2 #[] #[] 1537 4 #[] #[])
  fields := #[]
  methods := #[]
  instanceTypes := #[]
  staticTypes := #[]
  resolved := Array.replicate 8 none
  statics := none }

def pool4 : Array CpInfo := pool [(1, u "java/io/Serializable"), (0, .class_ 1), (0, u "java/lang/Object"), (0, .class_ 3)] 3

/-- java/io/Serializable -/
def k4 : Class := { plain "java/io/Serializable" (some 0) with
  accessFlags := 1537
  interfaces := #[]
  cf := some (fileOf pool4 2 #[] #[] 1537 4 #[] #[])
  fields := #[]
  methods := #[]
  instanceTypes := #[]
  staticTypes := #[]
  resolved := Array.replicate 8 none
  statics := none }

/-- the primitive byte -/
def k5 : Class := { plain "byte" none with kind := .primitive 'B', accessFlags := 0x411 }
/-- [B -/
def k6 : Class := { plain "[B" (some 0) with kind := .array 5 .byte, interfaces := #[3, 4], accessFlags := 1041 }

/-- the primitive int -/
def k7 : Class := { plain "int" none with kind := .primitive 'I', accessFlags := 0x411 }
/-- [I -/
def k8 : Class := { plain "[I" (some 0) with kind := .array 7 .int, interfaces := #[3, 4], accessFlags := 1041 }

def heap : Heap := #[{ cls := 2, slots := #[.null, .null, .null, .null, .int 0, .int 0, .int 0, .int 0, .int 0, .int 0, .ref 1], vm := .statics 2 },
  { cls := 6, slots := #[.int 0, .int 16, .int 16, .int 16, .int 16, .int 16, .int 16, .int 16, .int 16, .int 16, .int 16, .int 16, .int 16, .int 16, .int 16, .int 16, .int 16, .int 16, .int 16, .int 16, .int 16, .int 16, .int 16, .int 16, .int 16, .int 16, .int 16, .int 16, .int 16, .int 16, .int 16, .int 16, .int 0, .int 0, .int 0, .int 0, .int 0, .int 0, .int 0, .int 0, .int 0, .int 0, .int 0, .int 0, .int 0, .int 0, .int 6, .int 5, .int 0, .int 0, .int 0, .int 0, .int 0, .int 0, .int 0, .int 0, .int 0, .int 0, .int 16, .int 6, .int 8, .int 0, .int 8, .int 0, .int 16, .int 0, .int 0, .int 0, .int 0, .int 0, .int 0, .int 0, .int 0, .int 0, .int 0, .int 0, .int 0, .int 0, .int 0, .int 0, .int 0, .int 0, .int 0, .int 0, .int 0, .int 0, .int 0, .int 0, .int 0, .int 0, .int 0, .int 6, .int 32, .int 0, .int 0, .int 0, .int 0, .int 0, .int 0, .int 0, .int 0, .int 0, .int 0, .int 0, .int 0, .int 0, .int 0, .int 0, .int 0, .int 0, .int 0, .int 0, .int 0, .int 0, .int 0, .int 0, .int 0, .int 0, .int 0, .int 0, .int 0, .int 0, .int 0, .int 0, .int 0, .int 0, .int 0, .int 0, .int 0, .int 0, .int 0, .int 0, .int 0, .int 0, .int 0, .int 0, .int 0, .int 0, .int 0, .int 0, .int 0, .int 0, .int 0, .int 0, .int 0, .int 0, .int 0, .int 0, .int 0, .int 0, .int 0, .int 0, .int 0, .int 0, .int 0, .int 0, .int 0, .int 0, .int 0, .int 0, .int 0, .int 0, .int 0, .int 0, .int 0, .int 0, .int 0, .int 0, .int 0, .int 0, .int 0, .int 0, .int 0, .int 0, .int 0, .int 0, .int 0, .int 0, .int 0, .int 0, .int 0, .int 0, .int 0, .int 0, .int 0, .int 0, .int 0, .int 0, .int 0, .int 0, .int 0, .int 0, .int 16, .int 0, .int 0, .int 0, .int 0, .int 0, .int 0, .int 0, .int 0, .int 0, .int 0, .int 0, .int 0, .int 0, .int 0, .int 0, .int 0, .int 0, .int 0, .int 0, .int 0, .int 0, .int 0, .int 0, .int 0, .int 0, .int 0, .int 0, .int 0, .int 0, .int 0, .int 0, .int 0, .int 0, .int 0, .int 0, .int 0, .int 0, .int 0, .int 0, .int 0, .int 0, .int 0, .int 0, .int 0, .int 0, .int 0, .int 0, .int 0, .int 0, .int 0, .int 0, .int 0, .int 0, .int 0, .int 0, .int 0, .int 0, .int 0, .int 0, .int 0, .int 0, .int 0, .int 0], vm := .none }]
def classes : Array Class := #[k0, k1, k2, k3, k4, k5, k6, k7, k8]
def interned : List (Array UInt16 × Addr) := []
def slotsUsed : Nat := 267
def theMethod : MethodId := ⟨1, 1⟩
def args0 : Array Value := #[.int 1633771873, .int 24]
def aboutOver (below : List Frame) : State where
  vm := { classes := classes, interned := interned.toArray }
  heap := heap
  slotsUsed := slotsUsed
  threads := #[{ frames := .invoking theMethod args0 :: below }]
def below0 : List Frame := [.native { method := ⟨0, 0⟩, args := #[] }]
def about1 : State := aboutOver below0
def p0 : Program := .bare "" "" ""
def e0 : Env := launch0.env 0 0 0
theorem w_frames : about1.frames = Frame.invoking theMethod args0 :: below0 := rfl
set_option maxRecDepth 65536 in
theorem w_args : argsFit about1.vm theMethod args0 = true := by decide +kernel
set_option maxRecDepth 65536 in
theorem w_heap : heapFits about1 = true := by decide +kernel
set_option maxRecDepth 65536 in
theorem w_runnable : about1.curStatus? = some .runnable := by decide +kernel
set_option maxRecDepth 65536 in
theorem w_alone : about1.alone = true := by decide +kernel
set_option maxRecDepth 65536 in
theorem w_named : about1.methodNamed? x = some theMethod := by decide +kernel
set_option maxRecDepth 65536 in
theorem w_hears : about1.hears theMethod below0 = true := by decide +kernel
set_option maxRecDepth 65536 in
theorem w_ripe : about1.ripe theMethod args0 below0 = true := by decide +kernel
theorem w_running : about1.status = .running := rfl
set_option maxRecDepth 65536 in
theorem w_room : about1.hasRoom e0.platform room_1 = true :=
  launch0.hasRoom_least _ room_1 (by decide +kernel) (by decide +kernel) (by decide +kernel) (by decide +kernel) (by decide +kernel) (by decide +kernel)
theorem allAtoms_all (ts : List Jvm.Cond) (a : Array Jvm.Value) (st : Jvm.State) : (allAtoms ts).before a st = ts.all (fun c => c.before a st) := by
  induction ts with
  | nil => rfl
  | cons c t ih =>
    show (Jvm.Cond.and c (allAtoms t)).before a st = _
    rw [Jvm.Cond.before_and, ih, List.all_cons]
def words1 : List Jvm.Cond := Jvm.Cond.code x code maxLocals ret :: tables_1
/-- a 'code' word, met by the world's own term for the bytes: nothing is compared byte by byte -/
theorem code_word {y : MethodName} {bytes : ByteArray} {mx : Nat} {rt : Option FieldType} {a : Array Value} {s : State} {m : MethodId} {meth : Method} {c : Code} (h1 : s.methodNamed? y = some m) (h2 : s.vm.method? m = some meth) (h3 : meth.code = some c) (h4 : c.code = bytes)
    (h5 : (c.maxLocals == mx && c.exceptionTable.isEmpty && decide (c.maxStack ≤ mostOperands) && decide (meth.sig.returnType = rt) && !meth.locks && decide (parseMethodDescriptor y.desc = some meth.sig)) = true) : (Jvm.Cond.code y bytes mx rt).before a s = true := by
  simp only [Bool.and_eq_true, beq_iff_eq, Bool.not_eq_true', decide_eq_true_eq] at h5
  obtain ⟨⟨⟨⟨⟨g1, g2⟩, g3⟩, g4⟩, g5⟩, g6⟩ := h5
  simp [Cond.before, Cond.holds, Cond.value, h1, h2, h3, h4, g1, g2, g3, g4, g5, g6]
def isCode : Jvm.Cond → Bool
  | .code _ _ _ _ => true
  | _ => false
theorem all_split {L : List Jvm.Cond} {P : Jvm.Cond → Bool} (h1 : L.all (fun c => isCode c || P c) = true) (h2 : ∀ c ∈ L.filter isCode, P c = true) : L.all P = true := by
  refine List.all_eq_true.mpr fun c hc => ?_
  have h := List.all_eq_true.mp h1 c hc
  rcases Bool.eq_false_or_eq_true (isCode c) with hi | hi
  · exact h2 c (List.mem_filter.mpr ⟨hc, hi⟩)
  · simpa [hi] using h
set_option maxRecDepth 65536 in
theorem w_c0 : (Jvm.Cond.code x code maxLocals ret).before args0 about1 = true := code_word (m := ⟨1, 1⟩) (meth := k1m1) (c := k1c1) (by decide +kernel) rfl rfl rfl (by decide +kernel)
set_option maxRecDepth 65536 in
theorem w_c1 : (Jvm.Cond.code ({ cls := "com/example/bytelore/bytelore/classfile/NamesBinaryNameEndPinLaw", name := "reference", desc := "([BII)I" } : Jvm.MethodName) method_6_code (4 : Nat) (Option.some Jvm.ClassFile.FieldType.int)).before args0 about1 = true := code_word (m := ⟨1, 5⟩) (meth := k1m5) (c := k1c5) (by decide +kernel) rfl rfl rfl (by decide +kernel)
set_option maxRecDepth 65536 in
theorem w_c2 : (Jvm.Cond.code ({ cls := "com/example/bytelore/bytelore/classfile/NamesBinaryNameEndPinLaw", name := "stop", desc := "([BII)I" } : Jvm.MethodName) method_5_code (3 : Nat) (Option.some Jvm.ClassFile.FieldType.int)).before args0 about1 = true := code_word (m := ⟨1, 4⟩) (meth := k1m4) (c := k1c4) (by decide +kernel) rfl rfl rfl (by decide +kernel)
set_option maxRecDepth 65536 in
theorem w_c3 : (Jvm.Cond.code ({ cls := "com/example/bytelore/bytelore/classfile/Names", name := "binaryNameEnd", desc := "([BII)I" } : Jvm.MethodName) prog_107_method_3_code (7 : Nat) (Option.some Jvm.ClassFile.FieldType.int)).before args0 about1 = true := code_word (m := ⟨2, 1⟩) (meth := k2m1) (c := k2c1) (by decide +kernel) rfl rfl rfl (by decide +kernel)
set_option maxRecDepth 65536 in
theorem w_c4 : (Jvm.Cond.code ({ cls := "com/example/bytelore/bytelore/classfile/NamesBinaryNameEndPinLaw", name := "stops", desc := "(B)Z" } : Jvm.MethodName) method_3_code (1 : Nat) (Option.some Jvm.ClassFile.FieldType.boolean)).before args0 about1 = true := code_word (m := ⟨1, 2⟩) (meth := k1m2) (c := k1c2) (by decide +kernel) rfl rfl rfl (by decide +kernel)
set_option maxRecDepth 65536 in
theorem w_c5 : (Jvm.Cond.code ({ cls := "com/example/bytelore/bytelore/classfile/NamesBinaryNameEndPinLaw", name := "slash", desc := "(B)Z" } : Jvm.MethodName) method_4_code (1 : Nat) (Option.some Jvm.ClassFile.FieldType.boolean)).before args0 about1 = true := code_word (m := ⟨1, 3⟩) (meth := k1m3) (c := k1c3) (by decide +kernel) rfl rfl rfl (by decide +kernel)
def codes1 : List Jvm.Cond := [Jvm.Cond.code x code maxLocals ret, Jvm.Cond.code ({ cls := "com/example/bytelore/bytelore/classfile/NamesBinaryNameEndPinLaw", name := "reference", desc := "([BII)I" } : Jvm.MethodName) method_6_code (4 : Nat) (Option.some Jvm.ClassFile.FieldType.int), Jvm.Cond.code ({ cls := "com/example/bytelore/bytelore/classfile/NamesBinaryNameEndPinLaw", name := "stop", desc := "([BII)I" } : Jvm.MethodName) method_5_code (3 : Nat) (Option.some Jvm.ClassFile.FieldType.int), Jvm.Cond.code ({ cls := "com/example/bytelore/bytelore/classfile/Names", name := "binaryNameEnd", desc := "([BII)I" } : Jvm.MethodName) prog_107_method_3_code (7 : Nat) (Option.some Jvm.ClassFile.FieldType.int), Jvm.Cond.code ({ cls := "com/example/bytelore/bytelore/classfile/NamesBinaryNameEndPinLaw", name := "stops", desc := "(B)Z" } : Jvm.MethodName) method_3_code (1 : Nat) (Option.some Jvm.ClassFile.FieldType.boolean), Jvm.Cond.code ({ cls := "com/example/bytelore/bytelore/classfile/NamesBinaryNameEndPinLaw", name := "slash", desc := "(B)Z" } : Jvm.MethodName) method_4_code (1 : Nat) (Option.some Jvm.ClassFile.FieldType.boolean)]
set_option maxRecDepth 65536 in
theorem codes_eq : words1.filter isCode = codes1 := rfl
theorem w_codes : ∀ c ∈ words1.filter isCode, c.before args0 about1 = true := by
  rw [codes_eq]
  intro c hc
  simp only [codes1, List.mem_cons, List.not_mem_nil, or_false] at hc
  rcases hc with rfl | rfl | rfl | rfl | rfl | rfl
  · exact w_c0
  · exact w_c1
  · exact w_c2
  · exact w_c3
  · exact w_c4
  · exact w_c5
set_option maxRecDepth 65536 in
theorem w_t1 : words1.all (fun c => isCode c || c.before args0 about1) = true := by decide +kernel
theorem w_tables : (allAtoms (Jvm.Cond.code x code maxLocals ret :: tables_1)).before args0 about1 = true := by
  rw [allAtoms_all]
  show words1.all (fun c => c.before args0 about1) = true
  refine all_split ?_ w_codes
  rw [w_t1]
set_option maxRecDepth 65536 in
theorem w_case : (Jvm.Cond.and given_1 narrow_1).before args0 about1 = true := by decide +kernel
theorem w_applies : (headSpec (Jvm.Cond.code x code maxLocals ret :: tables_1) room_1).applies x e0.platform about1 = true :=
  (Spec.applies_iff w_frames).mpr ⟨w_running, w_runnable, w_alone, w_named, w_hears, w_ripe, w_room, w_tables⟩
theorem atStart : AtStart classFile x code maxLocals ret World_1 tables_1 room_1 Calls_1 rest_1 Pre_1 launch0 p0 e0 about1 theMethod args0 below0 :=
  ⟨lists_1, trivial, launch0.admits_env _ _ _, launch0.least_env, fairChoices_fair.cas, fairChoices_fair.clock, w_frames, w_args, w_heap, w_applies, trivial, trivial, w_case⟩
end start1
theorem witness_1 : WitnessClaimed_1 := ⟨start1.p0, start1.e0, start1.about1, start1.theMethod, start1.args0, start1.below0, start1.atStart⟩
end Jvm.Pilot.@@N@@
