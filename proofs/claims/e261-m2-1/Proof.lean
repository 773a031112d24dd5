import JvmDerived
import JvmDerived.Pilot.@@N@@Statement
import JvmDerived.Pilot.@@N@@Code
set_option linter.unusedVariables false
set_option linter.unusedSimpArgs false
namespace Jvm.RoadKit
open Sem ClassFile Op Lib Jvm.Stand Jvm.Free Jvm.LawKit
section New
variable {p : Program} {l : Launch} {e : Env} {R : Room} {s : State} {m : MethodId} {args : Array Value} {below : List Frame} {meth : Method} {c : Code} {T : State} {locs : List Loc} {cells slots : Nat}
theorem retI (X : Stand p l e R s m args below meth c T locs cells slots) (hx : p.tables.exec = Jvm.exec) {pc : Nat} {Ls : Array Slot} {z : Int32} {rest : List Value} (hret : meth.sig.returnType = some .int) (hd : decode c.code pc = .ok (.ireturn, 1)) {fs : List Frame}
    (hl : ∀ (f : JFrame) (acts : List Action), f.method = m → f.locked = none → f.entered = [] → (doReturn e (T.setTop f) acts (some (.int z))).1 = T.setFrames fs) : Steps p.tables e below (T.setTop (mkF m pc Ls (.int z :: rest))) (T.setFrames fs) := by
  have hm' : T.vm.method? m = some meth := X.method'
  have hn : narrow .int (.int z) = .int z := rfl
  show Steps p.tables e below (T.setTop { method := m, pc := pc, locals := Ls, stack := _ :: rest, locked := none }) _
  jvm_step X.here [X.here.top, hx, hd, hm', hret, hn]
  first | (intro acts; rw [hl _ acts rfl rfl rfl]) | rw [hl _ _ rfl rfl rfl]
  exact Steps.refl _
/-- from S the invocation comes to its end, and Q says what it returned, the heap, the places written -/
def OFin (p : Program) (e : Env) (below : List Frame) (s : State) (k n : Nat) (Q : Option Value → Heap → List Loc → Prop) (S : State) : Prop :=
  ∃ t o, Steps p.tables e below S t ∧ t.status = .running ∧ Ended t below o ∧ ∃ v L, o = .returned v ∧ Q v t.heap L ∧ FrameEnd s o t L k n
variable {k n : Nat} {Q : Option Value → Heap → List Loc → Prop} {S S' : State}
theorem OFin.back (h : ∀ t, Steps p.tables e below S' t → Steps p.tables e below S t) (g : OFin p e below s k n Q S') : OFin p e below s k n Q S := by
  obtain ⟨t, o, h1, h2⟩ := g
  exact ⟨t, o, h t h1, h2⟩
theorem OFin.via (h : Steps p.tables e below S S') (g : OFin p e below s k n Q S') : OFin p e below s k n Q S := by
  obtain ⟨t, o, h1, h2⟩ := g
  exact ⟨t, o, h.trans h1, h2⟩
variable {h : Heap} {pc : Nat} {Ls : Array Slot} {z : Int32} {rest : List Value}
theorem OFin.outI (X : Stand p l e R s m args below meth c T locs cells slots) (hx : p.tables.exec = Jvm.exec) (hret : meth.sig.returnType = some .int) (hk : meth.locks = false) (hd : decode c.code pc = .ok (.ireturn, 1)) (hc : cells ≤ k) (hs : slots ≤ n) (eT : T.heap = h) (hq : Q (some (.int z)) h locs) :
    OFin p e below s k n Q (T.setTop (mkF m pc Ls (.int z :: rest))) := by
  obtain ⟨fs, hr, hrun, hended, hW, hsame⟩ := X.leave (v := some (.int z)) (fun h => by rw [hret] at h; cases h) hk
  exact ⟨_, _, retI X hx hret hd hr, hrun, hended, _, _, rfl, by show Q _ T.heap _; rw [eT]; exact hq, ⟨_, rfl⟩, hW, hsame.mono hc hs⟩
theorem OFin.outN {t : FieldType} (X : Stand p l e R s m args below meth c T locs cells slots) (hx : p.tables.exec = Jvm.exec) (hret : meth.sig.returnType = some t) (ht : t = .boolean ∨ t = .byte ∨ t = .char ∨ t = .short) (hk : meth.locks = false) (hd : decode c.code pc = .ok (.ireturn, 1)) (hc : cells ≤ k) (hs : slots ≤ n) (eT : T.heap = h) (hq : Q (some (.int (nar t z))) h locs) :
    OFin p e below s k n Q (T.setTop (mkF m pc Ls (.int z :: rest))) := by
  obtain ⟨fs, hr, hrun, hended, hW, hsame⟩ := X.leave (v := some (.int (nar t z))) (fun h => by rw [hret] at h; cases h) hk
  exact ⟨_, _, retN X hx hret ht hd hr, hrun, hended, _, _, rfl, by show Q _ T.heap _; rw [eT]; exact hq, ⟨_, rfl⟩, hW, hsame.mono hc hs⟩
theorem OFin.outA {t : FieldType} {w : Value} (X : Stand p l e R s m args below meth c T locs cells slots) (hx : p.tables.exec = Jvm.exec) (hret : meth.sig.returnType = some t) (ht : t.isReference = true) (hn : narrow t w = w) (hw : w.isRef = true) (hk : meth.locks = false) (hd : decode c.code pc = .ok (.areturn, 1)) (hc : cells ≤ k) (hs : slots ≤ n) (eT : T.heap = h) (hq : Q (some w) h locs) :
    OFin p e below s k n Q (T.setTop (mkF m pc Ls (w :: rest))) := by
  obtain ⟨fs, hr, hrun, hended, hW, hsame⟩ := X.leave (v := some w) (fun h => by rw [hret] at h; cases h) hk
  exact ⟨_, _, retOut X hx hret hn (Or.inr (Or.inr (Or.inr (Or.inr ⟨rfl, ht, hw⟩)))) hd hr, hrun, hended, _, _, rfl, by show Q _ T.heap _; rw [eT]; exact hq, ⟨_, rfl⟩, hW, hsame.mono hc hs⟩
theorem OFin.outJ {w : Int64} (X : Stand p l e R s m args below meth c T locs cells slots) (hx : p.tables.exec = Jvm.exec) (hret : meth.sig.returnType = some .long) (hk : meth.locks = false) (hd : decode c.code pc = .ok (.lreturn, 1)) (hc : cells ≤ k) (hs : slots ≤ n) (eT : T.heap = h) (hq : Q (some (.long w)) h locs) :
    OFin p e below s k n Q (T.setTop (mkF m pc Ls (.long w :: rest))) := by
  obtain ⟨fs, hr, hrun, hended, hW, hsame⟩ := X.leave (v := some (.long w)) (fun h => by rw [hret] at h; cases h) hk
  exact ⟨_, _, retOut X hx hret rfl (Or.inr (Or.inl ⟨rfl, rfl, _, rfl⟩)) hd hr, hrun, hended, _, _, rfl, by show Q _ T.heap _; rw [eT]; exact hq, ⟨_, rfl⟩, hW, hsame.mono hc hs⟩
theorem OFin.outV (X : Stand p l e R s m args below meth c T locs cells slots) (hx : p.tables.exec = Jvm.exec) (hret : meth.sig.returnType = none) (hk : meth.locks = false) (hd : decode c.code pc = .ok (.return_, 1)) (hc : cells ≤ k) (hs : slots ≤ n) (eT : T.heap = h) (hq : Q none h locs) :
    OFin p e below s k n Q (T.setTop (mkF m pc Ls [])) := by
  obtain ⟨fs, hr, hrun, hended, hW, hsame⟩ := X.leave (v := none) (fun _ => rfl) hk
  exact ⟨_, _, X.returnOut hx hret hd hr, hrun, hended, _, _, rfl, by show Q _ T.heap _; rw [eT]; exact hq, ⟨_, rfl⟩, hW, hsame.mono hc hs⟩
end New
end Jvm.RoadKit
namespace Jvm.Pilot.@@N@@
open Jvm Jvm.ClassFile Sem Op Lib Jvm.Free Jvm.Stand Jvm.LawKit Jvm.RoadKit Bundle Jvm.Pilot.@@N@@.Jvm.D

theorem own_fldI {Z : State} {args : Array Value} {t : Term} {a : Addr} {C n d : String} {k : Int32} (ht : t.eval args Z none [] Z = some (.ref a)) (h : (Jvm.Cond.eq (Jvm.Term.field t C n d) (Jvm.Term.int k)).value args Z none Z [] = some true) : Fld Z Z.heap a C n d (.int k) := by
  exact Fld.start ((fld_at ht).symm.trans (eqv_i (F := Jvm.Term.int k) rfl h))

theorem own_ne {a b n : Nat} (h : a < n) (g : b = n) : a ≠ b := by omega
theorem own_sta {Z : State} {C n d : String} {v : Value} {k : Nat} {h : Heap} (S : Sta Z Z.heap C n d v) (O : Old Z k h) : Sta Z h C n d v := S.ext O.2
theorem own_len {s : State} {args : Array Value} {t : Term} {a : Addr} {cl : Cell} {n : Int32} (ht : t.eval args s none [] s = some (.ref a)) (ha : s.arrayAt? a = some cl) (h : (Jvm.Term.length t).eval args s none [] s = some (.int n)) : cl.slots.size < 2 ^ 31 ∧ cl.slots.size.toInt32 = n := by
  by_cases q : cl.slots.size < 2 ^ 31
  · rw [len_f ht ha q] at h
    exact ⟨q, Value.int.inj (Option.some.inj h)⟩
  · simp [Term.eval, ht, ha, q] at h
theorem own_or {args : Array Value} {Z : State} {idx : List Nat} {G X : Jvm.Cond} {P : Prop} [Decidable P] (hG : G.value args Z none Z idx = some (decide P)) (h : (Jvm.Cond.or G X).value args Z none Z idx = some true) : P ∨ X.value args Z none Z idx = some true := by
  by_cases q : P
  · exact Or.inl q
  · right
    simpa [Cond.value, hG, q] using h
theorem own_all3 {args : Array Value} {Z : State} {t : Term} {a : Addr} {cl : Cell} {lo hi c : Int32} (et : ∀ idx, t.eval args Z none idx Z = some (.ref a)) (ha : Z.arrayAt? a = some cl) (h : (Jvm.Cond.all t (Jvm.Cond.or (Jvm.Cond.lt (Jvm.Term.index 0) (Jvm.Term.int lo)) (Jvm.Cond.or (Jvm.Cond.le (Jvm.Term.int hi) (Jvm.Term.index 0)) (Jvm.Cond.eq (Jvm.Term.elem t (Jvm.Term.index 0)) (Jvm.Term.int c))))).value args Z none Z [] = some true)
    {j : Int32} (nn : ¬ j < 0) (hj : j.toNatClampNeg < cl.slots.size) : j.toInt < lo.toInt ∨ hi.toInt ≤ j.toInt ∨ cl.slots[j.toNatClampNeg]? = some (.int c) := by
  have u := Cond.all_elim (et []) ha h _ hj
  rcases own_or (Cond.lt_ints (idx_at nn) rfl) u with q | u
  · exact Or.inl (Int32.lt_iff_toInt_lt.mp q)
  rcases own_or (Cond.le_ints rfl (idx_at nn)) u with q | u
  · exact Or.inr (Or.inl (Int32.le_iff_toInt_le.mp q))
  · right; right
    rw [← elem_f (et _) (idx_at nn) ha nn]
    exact eqv_i rfl u
theorem own_all2 {args : Array Value} {Z : State} {t : Term} {a : Addr} {cl : Cell} {lo c : Int32} (et : ∀ idx, t.eval args Z none idx Z = some (.ref a)) (ha : Z.arrayAt? a = some cl) (h : (Jvm.Cond.all t (Jvm.Cond.or (Jvm.Cond.lt (Jvm.Term.index 0) (Jvm.Term.int lo)) (Jvm.Cond.eq (Jvm.Term.elem t (Jvm.Term.index 0)) (Jvm.Term.int c)))).value args Z none Z [] = some true)
    {j : Int32} (nn : ¬ j < 0) (hj : j.toNatClampNeg < cl.slots.size) : j.toInt < lo.toInt ∨ cl.slots[j.toNatClampNeg]? = some (.int c) := by
  have u := Cond.all_elim (et []) ha h _ hj
  rcases own_or (Cond.lt_ints (idx_at nn) rfl) u with q | u
  · exact Or.inl (Int32.lt_iff_toInt_lt.mp q)
  · right
    rw [← elem_f (et _) (idx_at nn) ha nn]
    exact eqv_i rfl u
theorem own_el {args : Array Value} {Z : State} {t : Term} {a : Addr} {cl : Cell} {k c : Int32} (et : ∀ idx, t.eval args Z none idx Z = some (.ref a)) (ha : Z.arrayAt? a = some cl) (nn : ¬ k < 0) (h : (Jvm.Cond.eq (Jvm.Term.elem t (Jvm.Term.int k)) (Jvm.Term.int c)).value args Z none Z [] = some true) {j : Int32} (e : j.toInt = k.toInt) : cl.slots[j.toNatClampNeg]? = some (.int c) := by
  rw [Int32.toInt_inj.mp e, ← elem_f (t := t) (a := Jvm.Term.int k) (et _) rfl ha nn]
  exact eqv_i rfl h
theorem own_m255 (x : Int32) : ¬ (x &&& (255 : Int32)) < 0 ∧ (x &&& (255 : Int32)) < 256 := by
  have h := c_mask x 255 8 (by decide) (by decide)
  have a1 : (0 : Int32).toInt = 0 := by decide
  have a2 : (256 : Int32).toInt = 256 := by decide
  rw [Int32.lt_iff_toInt_lt, Int32.lt_iff_toInt_lt, a1, a2]
  omega
def own_sel (x0 x1 x2 x3 j : Int32) : Int32 := if j = 0 then x0 else if j = 1 then x1 else if j = 2 then x2 else x3
theorem own_selAt {x0 x1 x2 x3 j : Int32} (h : ¬ j < 0 ∧ j < (4 : Int32)) : [Value.int x0, .int x1, .int x2, .int x3].getD j.toNatClampNeg (.int 0) = .int (own_sel x0 x1 x2 x3 j) := by
  have a1 : (0 : Int32).toInt = 0 := by decide
  have a4 : (4 : Int32).toInt = 4 := by decide
  have h1 := nat_of h.1
  have h2 := h.2
  rw [Int32.lt_iff_toInt_lt, a4] at h2
  have hc : j = 0 ∨ j = 1 ∨ j = 2 ∨ j = 3 := by
    have b1 : (1 : Int32).toInt = 1 := by decide
    have b2 : (2 : Int32).toInt = 2 := by decide
    have b3 : (3 : Int32).toInt = 3 := by decide
    rw [← Int32.toInt_inj, ← Int32.toInt_inj, ← Int32.toInt_inj, ← Int32.toInt_inj, a1, b1, b2, b3]
    omega
  rcases hc with rfl | rfl | rfl | rfl <;> rfl
theorem own_256 {n : Nat} (h : n < 2 ^ 31) (e : n.toInt32 = 256) : n = 256 := by
  have h1 := len_toInt h
  rw [e] at h1
  have a2 : (256 : Int32).toInt = 256 := by decide
  omega
def own_kind (j : Int32) : Int32 := if j.toInt = 0 then 0 else if j.toInt < 32 then 16 else if j.toInt < 46 then 0 else if j.toInt = 46 then 6 else if j.toInt = 47 then 5 else if j.toInt < 58 then 0 else if j.toInt = 58 then 16 else if j.toInt = 59 then 6 else if j.toInt = 60 then 8 else if j.toInt = 61 then 0 else if j.toInt = 62 then 8 else if j.toInt = 63 then 0 else if j.toInt = 64 then 16 else if j.toInt < 91 then 0 else if j.toInt = 91 then 6 else if j.toInt = 92 then 32 else if j.toInt < 192 then 0 else if j.toInt = 192 then 16 else 0
theorem own_brng (x : Int32) : -128 ≤ (nar .byte x).toInt ∧ (nar .byte x).toInt < 128 := (c_i2b x).2
theorem own_b1 {i en : Int32} (h0 : 0 ≤ i.toInt) (h : i < en) (h4 : en.toInt ≤ 4) : 0 ≤ (i + (1 : Int32)).toInt := by
  have h2 := c_iadd i 1
  have h3 := rng32 (i + 1)
  have a1 : (1 : Int32).toInt = 1 := by decide
  rw [Int32.lt_iff_toInt_lt] at h
  omega
theorem own_b2 {i en : Int32} {k : Nat} (h0 : 0 ≤ i.toInt) (h : i < en) (h4 : en.toInt ≤ 4) (hk : en.toInt - i.toInt ≤ ((k + 1 : Nat) : Int)) : en.toInt - (i + (1 : Int32)).toInt ≤ (k : Int) := by
  have h2 := c_iadd i 1
  have h3 := rng32 (i + 1)
  have a1 : (1 : Int32).toInt = 1 := by decide
  rw [Int32.lt_iff_toInt_lt] at h
  omega
theorem own_b3 {i en : Int32} (h0 : 0 ≤ i.toInt) (h : i < en) (h4 : en.toInt ≤ 4) : ¬ i < 0 ∧ i < (4 : Int32) := by
  have a0 : (0 : Int32).toInt = 0 := by decide
  have a4 : (4 : Int32).toInt = 4 := by decide
  rw [Int32.lt_iff_toInt_lt] at h
  rw [Int32.lt_iff_toInt_lt, Int32.lt_iff_toInt_lt, a0, a4]
  omega
theorem own_l5 (x : Int32) : 0 ≤ ((x &&& (2147483647 : Int32)) % (5 : Int32)).toInt ∧ ((x &&& (2147483647 : Int32)) % (5 : Int32)).toInt ≤ 4 := by
  have h := c_mask x 2147483647 31 (by decide) (by decide)
  have h2 : ((x &&& (2147483647 : Int32)) % (5 : Int32)).toInt = (x &&& (2147483647 : Int32)).toInt.tmod (5 : Int32).toInt := Int32.toInt_mod _ _
  have h3 : (5 : Int32).toInt = 5 := by decide
  have h7 : 0 ≤ (x &&& (2147483647 : Int32)).toInt := by rw [h]; omega
  rw [h3, Int.tmod_eq_emod_of_nonneg h7] at h2
  omega
theorem own_e0 {i : Int32} (h : 0 ≤ i.toInt ∧ i.toInt ≤ 3) : ¬ i < 0 ∧ i < (4 : Int32) := by
  have a0 : (0 : Int32).toInt = 0 := by decide
  have a4 : (4 : Int32).toInt = 4 := by decide
  rw [Int32.lt_iff_toInt_lt, Int32.lt_iff_toInt_lt, a0, a4]
  omega
theorem own_e1 {i st k : Int32} (hk : 0 ≤ k.toInt ∧ k.toInt ≤ 3) (hs : 0 ≤ st.toInt) (h : 0 ≤ i.toInt ∧ i.toInt ≤ 3) (hc : ¬ (i - k) < st) : ¬ (i - k) < 0 ∧ (i - k) < (4 : Int32) := by
  have a0 : (0 : Int32).toInt = 0 := by decide
  have a4 : (4 : Int32).toInt = 4 := by decide
  have h2 := c_isub i k
  have h3 := rng32 (i - k)
  rw [Int32.lt_iff_toInt_lt] at hc
  rw [Int32.lt_iff_toInt_lt, Int32.lt_iff_toInt_lt, a0, a4]
  omega
theorem own_b2' {i en : Int32} {k : Nat} (h0 : 0 ≤ i.toInt) (h : i < en) (h' : (i + (1 : Int32)) < en) (h4 : en.toInt ≤ 4) (hk : en.toInt - i.toInt ≤ ((k + 1 : Nat) : Int)) : en.toInt - ((i + (1 : Int32)) + (1 : Int32)).toInt ≤ (k : Int) := by
  have g1 := own_b1 h0 h h4
  have g2 := own_b2 (k := k) h0 h h4 hk
  have h2 := c_iadd (i + 1) 1
  have h3 := rng32 ((i + 1) + 1)
  have a1 : (1 : Int32).toInt = 1 := by decide
  rw [Int32.lt_iff_toInt_lt] at h'
  omega
theorem d1_0 : decode method_3_code 0 = .ok (.aload_n 0, 1) := by decide +kernel
theorem d1_1 : decode method_3_code 1 = .ok (.iload_n 1, 1) := by decide +kernel
theorem d1_2 : decode method_3_code 2 = .ok (.baload, 1) := by decide +kernel
theorem d1_3 : decode method_3_code 3 = .ok (.sipush 255, 3) := by decide +kernel
theorem d1_6 : decode method_3_code 6 = .ok (.iand, 1) := by decide +kernel
theorem d1_7 : decode method_3_code 7 = .ok (.bipush 92, 2) := by decide +kernel
theorem d1_9 : decode method_3_code 9 = .ok (.if_icmp .ne 7, 3) := by decide +kernel
theorem d1_12 : decode method_3_code 12 = .ok (.iconst 1, 1) := by decide +kernel
theorem d1_13 : decode method_3_code 13 = .ok (.goto 4, 3) := by decide +kernel
theorem d1_16 : decode method_3_code 16 = .ok (.iconst 0, 1) := by decide +kernel
theorem d1_17 : decode method_3_code 17 = .ok (.ireturn, 1) := by decide +kernel
theorem pn1 : plainName "com/example/bytelore/bytelore/classfile/NamesIsModuleNamePinLaw" = true := by first | (simp [plainName, overriddenIn]; done) | decide +kernel
theorem ef1 (m : MethodId) (ba : Addr) (jx : Int32) : entryFrame m #[(.ref ba), (.int jx)] 2 = mkF m 0 #[.val (.ref ba), .val (.int jx)] [] := by first | (simp [entryFrame, mkF, argsToLocals, Value.category]; done) | rfl
def own_isb (b0 : Int32) (b1 : Int32) (b2 : Int32) (b3 : Int32) (jx : Int32) : Int32 := (if ((own_sel b0 b1 b2 b3 jx) &&& (255 : Int32)) = (92 : Int32) then (1 : Int32) else (0 : Int32))
def Q1 (Z : State) (ba : Addr) (jx : Int32) (kb : ClassId) (b0 : Int32) (b1 : Int32) (b2 : Int32) (b3 : Int32) (h0 : Heap) (n0 : Nat) (v : Option Value) (h : Heap) (L : List Loc) : Prop := v = some (.int (own_isb b0 b1 b2 b3 jx)) ∧ Fr n0 L ∧ h = h0
set_option maxRecDepth 65536 in
set_option maxHeartbeats 40000000 in
theorem rm1 (l : Launch) (Z : State) (a0 : Array Value) (hw : ∀ d ∈ tables_1, d.before a0 Z = true) (ws : List Jvm.Cond) (ba : Addr) (jx : Int32) (kb : ClassId) (b0 : Int32) (b1 : Int32) (b2 : Int32) (b3 : Int32) (h0 : Heap) (n0 : Nat) (Z0 : n0 ≤ h0.size) (V0 : Arv Z h0 ba kb .byte (4 : Int32) [(.int b0), (.int b1), (.int b2), (.int b3)] (.int (0 : Int32))) (hj : ¬ jx < 0 ∧ jx < (4 : Int32)) :
    MetFree l (⟨"com/example/bytelore/bytelore/classfile/NamesIsModuleNamePinLaw", "isBackslash", "([BI)Z"⟩ : MethodName) (head1 (Jvm.Cond.code (⟨"com/example/bytelore/bytelore/classfile/NamesIsModuleNamePinLaw", "isBackslash", "([BI)Z"⟩ : MethodName) method_3_code 2 (some .boolean) :: ws) ({ frames := 0, cells := 0, slots := 0, locals := 0 } : Room)) (fun ar_ U => ar_ = #[(.ref ba), (.int jx)] ∧ Z.Warmed39 U.vm ∧ U.heap = h0) (fun _ _ _ _ _ => True) (fun _ U o U' => ∃ v L, o = .returned v ∧ Q1 Z ba jx kb b0 b1 b2 b3 h0 n0 v U'.heap L ∧ FrameEnd U o U' L ({ frames := 0, cells := 0, slots := 0, locals := 0 } : Room).cells ({ frames := 0, cells := 0, slots := 0, locals := 0 } : Room).slots) := by
  refine MetFree.of_bodySF (plainFor_of_name pn1) hisR ?_
  intro p e s m args below meth c s₁ Bd hml0 hP hK
  obtain ⟨rfl, hZ, hh⟩ := hP
  have hx := Bd.exec
  have hby := Bd.bytes
  have hml : c.maxLocals = 2 := hml0
  have hown : s.vm.findClass "com/example/bytelore/bytelore/classfile/NamesIsModuleNamePinLaw" = some m.cls := findClass_of_methodNamed Bd.named
  have hnm := (name_of_methodNamed Bd.named Bd.method).1
  have X0 : Stand p l e ({ frames := 0, cells := 0, slots := 0, locals := 0 } : Room) s m #[(.ref ba), (.int jx)] below meth c s₁ [] 0 0 := Stand.of_body Bd
  have e0 : s₁.heap = h0 := by rw [← hh, Bd.state]; rfl
  have N0 := Fr.nil n0
  show OFin p e below s _ _ (Q1 Z ba jx kb b0 b1 b2 b3 h0 n0) (s₁.setTop (entryFrame m #[(.ref ba), (.int jx)] 2))
  rw [ef1]
  obtain ⟨Q, hQ⟩ : ∃ Q, Q = Q1 Z ba jx kb b0 b1 b2 b3 h0 n0 := ⟨_, rfl⟩
  rw [← hQ]
  show OFin p e below s _ _ Q (s₁.setTop (mkF m 0 #[.val (.ref ba), .val (.int jx)] []))
  refine OFin.back (fun _ hr => XS.aloadN X0.here hx rfl (hb hby d1_0) rfl rfl hr) ?_
  show OFin p e below s _ _ Q (s₁.setTop (mkF m 1 #[.val (.ref ba), .val (.int jx)] [(.ref ba)]))
  refine OFin.back (fun _ hr => XS.iloadN X0.here hx rfl (hb hby d1_1) rfl hr) ?_
  show OFin p e below s _ _ Q (s₁.setTop (mkF m 2 #[.val (.ref ba), .val (.int jx)] [(.int jx), (.ref ba)]))
  obtain ⟨cl1, Ar1, q1, S1, M1, H1, G1⟩ := id V0
  have hin1 : ¬ (jx < 0 ∨ cl1.slots.size ≤ (jx).toNatClampNeg) := inb_of S1 hj
  refine OFin.back (X0.baloadBytes hx (j := jx) (v := (.int (own_sel b0 b1 b2 b3 jx))) (by rw [e0]; exact Ar1.1) (State.isArrayOf_alike hZ.alike Ar1.2.1) Ar1.2.2 hin1 (H1.at hin1 (own_selAt hj)) (g := (mkF m 2 #[.val (.ref ba), .val (.int jx)] [(.int jx), (.ref ba)])) rfl rfl (hb hby d1_2)) ?_
  show OFin p e below s _ _ Q (s₁.setTop (mkF m 3 #[.val (.ref ba), .val (.int jx)] [(.int (own_sel b0 b1 b2 b3 jx))]))
  refine OFin.back (fun _ hr => XS.sipush X0.here hx rfl (hb hby d1_3) hr) ?_
  show OFin p e below s _ _ Q (s₁.setTop (mkF m 6 #[.val (.ref ba), .val (.int jx)] [(.int (255 : Int32)), (.int (own_sel b0 b1 b2 b3 jx))]))
  refine OFin.back (fun _ hr => XS.iand X0.here hx rfl (hb hby d1_6) rfl hr) ?_
  show OFin p e below s _ _ Q (s₁.setTop (mkF m 7 #[.val (.ref ba), .val (.int jx)] [(.int ((own_sel b0 b1 b2 b3 jx) &&& (255 : Int32)))]))
  refine OFin.back (fun _ hr => XS.bipush X0.here hx rfl (hb hby d1_7) hr) ?_
  show OFin p e below s _ _ Q (s₁.setTop (mkF m 9 #[.val (.ref ba), .val (.int jx)] [(.int (92 : Int32)), (.int ((own_sel b0 b1 b2 b3 jx) &&& (255 : Int32)))]))
  by_cases hc9_2 : ((own_sel b0 b1 b2 b3 jx) &&& (255 : Int32)) = (92 : Int32)
  · -- ((own_sel b0 b1 b2 b3 jx) &&& (255 : Int32)) = (92 : Int32)
    refine OFin.back (fun _ hr => XS.icmpNo X0.here hx rfl (hb hby d1_9) rfl (teq hc9_2).2 hr) ?_
    show OFin p e below s _ _ Q (s₁.setTop (mkF m 12 #[.val (.ref ba), .val (.int jx)] []))
    refine OFin.back (fun _ hr => XS.iconst X0.here hx rfl (hb hby d1_12) hr) ?_
    show OFin p e below s _ _ Q (s₁.setTop (mkF m 13 #[.val (.ref ba), .val (.int jx)] [(.int (1 : Int32))]))
    refine OFin.back (fun _ hr => XS.goto X0.here hx rfl (pc0 := 13) (pc' := 17) rfl (hb hby d1_13) (by decide) (by decide) hr) ?_
    show OFin p e below s _ _ Q (s₁.setTop (mkF m 17 #[.val (.ref ba), .val (.int jx)] [(.int (1 : Int32))]))
    exact OFin.outN (t := .boolean) X0 hx Bd.returns (by simp) Bd.notSynchronized (hb hby d1_17) (by decide) (by decide) e0 (by rw [hQ]; exact ⟨by rw [own_isb, if_pos hc9_2]; try rfl, N0, rfl⟩)
  · -- not ((own_sel b0 b1 b2 b3 jx) &&& (255 : Int32)) = (92 : Int32)
    refine OFin.back (fun _ hr => XS.icmpYes X0.here hx rfl (pc0 := 9) (pc' := 16) rfl (hb hby d1_9) rfl (feq hc9_2).2 (by decide) (by decide) hr) ?_
    show OFin p e below s _ _ Q (s₁.setTop (mkF m 16 #[.val (.ref ba), .val (.int jx)] []))
    refine OFin.back (fun _ hr => XS.iconst X0.here hx rfl (hb hby d1_16) hr) ?_
    show OFin p e below s _ _ Q (s₁.setTop (mkF m 17 #[.val (.ref ba), .val (.int jx)] [(.int (0 : Int32))]))
    exact OFin.outN (t := .boolean) X0 hx Bd.returns (by simp) Bd.notSynchronized (hb hby d1_17) (by decide) (by decide) e0 (by rw [hQ]; exact ⟨by rw [own_isb, if_neg hc9_2]; try rfl, N0, rfl⟩)
theorem d2_0 : decode method_4_code 0 = .ok (.iconst 0, 1) := by decide +kernel
theorem d2_1 : decode method_4_code 1 = .ok (.istore_n 3, 1) := by decide +kernel
theorem d2_2 : decode method_4_code 2 = .ok (.iload_n 2, 1) := by decide +kernel
theorem d2_3 : decode method_4_code 3 = .ok (.iconst 1, 1) := by decide +kernel
theorem d2_4 : decode method_4_code 4 = .ok (.isub, 1) := by decide +kernel
theorem d2_5 : decode method_4_code 5 = .ok (.iload_n 1, 1) := by decide +kernel
theorem d2_6 : decode method_4_code 6 = .ok (.if_icmp .lt 53, 3) := by decide +kernel
theorem d2_9 : decode method_4_code 9 = .ok (.aload_n 0, 1) := by decide +kernel
theorem d2_10 : decode method_4_code 10 = .ok (.iload_n 2, 1) := by decide +kernel
theorem d2_11 : decode method_4_code 11 = .ok (.iconst 1, 1) := by decide +kernel
theorem d2_12 : decode method_4_code 12 = .ok (.isub, 1) := by decide +kernel
theorem d2_13 : decode method_4_code 13 = .ok (.invokestatic 20, 3) := by decide +kernel
theorem d2_16 : decode method_4_code 16 = .ok (.ifCond .eq 43, 3) := by decide +kernel
theorem d2_19 : decode method_4_code 19 = .ok (.iconst 1, 1) := by decide +kernel
theorem d2_20 : decode method_4_code 20 = .ok (.istore_n 3, 1) := by decide +kernel
theorem d2_21 : decode method_4_code 21 = .ok (.iload_n 2, 1) := by decide +kernel
theorem d2_22 : decode method_4_code 22 = .ok (.iconst 2, 1) := by decide +kernel
theorem d2_23 : decode method_4_code 23 = .ok (.isub, 1) := by decide +kernel
theorem d2_24 : decode method_4_code 24 = .ok (.iload_n 1, 1) := by decide +kernel
theorem d2_25 : decode method_4_code 25 = .ok (.if_icmp .lt 34, 3) := by decide +kernel
theorem d2_28 : decode method_4_code 28 = .ok (.aload_n 0, 1) := by decide +kernel
theorem d2_29 : decode method_4_code 29 = .ok (.iload_n 2, 1) := by decide +kernel
theorem d2_30 : decode method_4_code 30 = .ok (.iconst 2, 1) := by decide +kernel
theorem d2_31 : decode method_4_code 31 = .ok (.isub, 1) := by decide +kernel
theorem d2_32 : decode method_4_code 32 = .ok (.invokestatic 20, 3) := by decide +kernel
theorem d2_35 : decode method_4_code 35 = .ok (.ifCond .eq 24, 3) := by decide +kernel
theorem d2_38 : decode method_4_code 38 = .ok (.iconst 2, 1) := by decide +kernel
theorem d2_39 : decode method_4_code 39 = .ok (.istore_n 3, 1) := by decide +kernel
theorem d2_40 : decode method_4_code 40 = .ok (.iload_n 2, 1) := by decide +kernel
theorem d2_41 : decode method_4_code 41 = .ok (.iconst 3, 1) := by decide +kernel
theorem d2_42 : decode method_4_code 42 = .ok (.isub, 1) := by decide +kernel
theorem d2_43 : decode method_4_code 43 = .ok (.iload_n 1, 1) := by decide +kernel
theorem d2_44 : decode method_4_code 44 = .ok (.if_icmp .lt 15, 3) := by decide +kernel
theorem d2_47 : decode method_4_code 47 = .ok (.aload_n 0, 1) := by decide +kernel
theorem d2_48 : decode method_4_code 48 = .ok (.iload_n 2, 1) := by decide +kernel
theorem d2_49 : decode method_4_code 49 = .ok (.iconst 3, 1) := by decide +kernel
theorem d2_50 : decode method_4_code 50 = .ok (.isub, 1) := by decide +kernel
theorem d2_51 : decode method_4_code 51 = .ok (.invokestatic 20, 3) := by decide +kernel
theorem d2_54 : decode method_4_code 54 = .ok (.ifCond .eq 5, 3) := by decide +kernel
theorem d2_57 : decode method_4_code 57 = .ok (.iconst 3, 1) := by decide +kernel
theorem d2_58 : decode method_4_code 58 = .ok (.istore_n 3, 1) := by decide +kernel
theorem d2_59 : decode method_4_code 59 = .ok (.iload_n 3, 1) := by decide +kernel
theorem d2_60 : decode method_4_code 60 = .ok (.iconst 1, 1) := by decide +kernel
theorem d2_61 : decode method_4_code 61 = .ok (.iand, 1) := by decide +kernel
theorem d2_62 : decode method_4_code 62 = .ok (.ifCond .eq 7, 3) := by decide +kernel
theorem d2_65 : decode method_4_code 65 = .ok (.iconst 1, 1) := by decide +kernel
theorem d2_66 : decode method_4_code 66 = .ok (.goto 4, 3) := by decide +kernel
theorem d2_69 : decode method_4_code 69 = .ok (.iconst 0, 1) := by decide +kernel
theorem d2_70 : decode method_4_code 70 = .ok (.ireturn, 1) := by decide +kernel
theorem pn2 : plainName "com/example/bytelore/bytelore/classfile/NamesIsModuleNamePinLaw" = true := by first | (simp [plainName, overriddenIn]; done) | decide +kernel
theorem pd2_0 : parseMethodDescriptor "([BI)Z" = some ⟨[(.array .byte), .int], some .boolean⟩ := by decide +kernel
theorem ef2 (m : MethodId) (ba : Addr) (st : Int32) (ix : Int32) : entryFrame m #[(.ref ba), (.int st), (.int ix)] 4 = mkF m 0 #[.val (.ref ba), .val (.int st), .val (.int ix), .unset] [] := by first | (simp [entryFrame, mkF, argsToLocals, Value.category]; done) | rfl
def own_esc59 (b0 : Int32) (b1 : Int32) (b2 : Int32) (b3 : Int32) (st : Int32) (ix : Int32) (nn : Int32) : Int32 := (if (nn &&& (1 : Int32)) = (0 : Int32) then (0 : Int32) else (1 : Int32))
def own_esc (b0 : Int32) (b1 : Int32) (b2 : Int32) (b3 : Int32) (st : Int32) (ix : Int32) : Int32 := (if (ix - (1 : Int32)) < st then (own_esc59 b0 b1 b2 b3 st ix (0 : Int32)) else (if (own_isb b0 b1 b2 b3 (ix - (1 : Int32))) = (0 : Int32) then (own_esc59 b0 b1 b2 b3 st ix (0 : Int32)) else (if (ix - (2 : Int32)) < st then (own_esc59 b0 b1 b2 b3 st ix (1 : Int32)) else (if (own_isb b0 b1 b2 b3 (ix - (2 : Int32))) = (0 : Int32) then (own_esc59 b0 b1 b2 b3 st ix (1 : Int32)) else (if (ix - (3 : Int32)) < st then (own_esc59 b0 b1 b2 b3 st ix (2 : Int32)) else (if (own_isb b0 b1 b2 b3 (ix - (3 : Int32))) = (0 : Int32) then (own_esc59 b0 b1 b2 b3 st ix (2 : Int32)) else (own_esc59 b0 b1 b2 b3 st ix (3 : Int32))))))))
def Q2 (Z : State) (ba : Addr) (st : Int32) (ix : Int32) (kb : ClassId) (b0 : Int32) (b1 : Int32) (b2 : Int32) (b3 : Int32) (h0 : Heap) (n0 : Nat) (v : Option Value) (h : Heap) (L : List Loc) : Prop := v = some (.int (own_esc b0 b1 b2 b3 st ix)) ∧ Fr n0 L ∧ h = h0
set_option maxRecDepth 65536 in
set_option maxHeartbeats 40000000 in
theorem rm2 (l : Launch) (Z : State) (a0 : Array Value) (hw : ∀ d ∈ tables_1, d.before a0 Z = true) (ws : List Jvm.Cond) (ba : Addr) (st : Int32) (ix : Int32) (kb : ClassId) (b0 : Int32) (b1 : Int32) (b2 : Int32) (b3 : Int32) (h0 : Heap) (n0 : Nat) (Z0 : n0 ≤ h0.size) (V0 : Arv Z h0 ba kb .byte (4 : Int32) [(.int b0), (.int b1), (.int b2), (.int b3)] (.int (0 : Int32))) (hs0 : 0 ≤ st.toInt) (hi : 0 ≤ ix.toInt ∧ ix.toInt ≤ 3) :
    MetFree l (⟨"com/example/bytelore/bytelore/classfile/NamesIsModuleNamePinLaw", "escaped", "([BII)Z"⟩ : MethodName) (head1 (Jvm.Cond.code (⟨"com/example/bytelore/bytelore/classfile/NamesIsModuleNamePinLaw", "escaped", "([BII)Z"⟩ : MethodName) method_4_code 4 (some .boolean) :: ws) ({ frames := 1, cells := 0, slots := 0, locals := 13 } : Room)) (fun ar_ U => ar_ = #[(.ref ba), (.int st), (.int ix)] ∧ Z.Warmed39 U.vm ∧ U.heap = h0) (fun _ _ _ _ _ => True) (fun _ U o U' => ∃ v L, o = .returned v ∧ Q2 Z ba st ix kb b0 b1 b2 b3 h0 n0 v U'.heap L ∧ FrameEnd U o U' L ({ frames := 1, cells := 0, slots := 0, locals := 13 } : Room).cells ({ frames := 1, cells := 0, slots := 0, locals := 13 } : Room).slots) := by
  refine MetFree.of_bodySF (plainFor_of_name pn2) hisR ?_
  intro p e s m args below meth c s₁ Bd hml0 hP hK
  obtain ⟨rfl, hZ, hh⟩ := hP
  have hx := Bd.exec
  have hby := Bd.bytes
  have hml : c.maxLocals = 4 := hml0
  have hown : s.vm.findClass "com/example/bytelore/bytelore/classfile/NamesIsModuleNamePinLaw" = some m.cls := findClass_of_methodNamed Bd.named
  have hnm := (name_of_methodNamed Bd.named Bd.method).1
  have X0 : Stand p l e ({ frames := 1, cells := 0, slots := 0, locals := 13 } : Room) s m #[(.ref ba), (.int st), (.int ix)] below meth c s₁ [] 0 0 := Stand.of_body Bd
  have e0 : s₁.heap = h0 := by rw [← hh, Bd.state]; rfl
  have N0 := Fr.nil n0
  show OFin p e below s _ _ (Q2 Z ba st ix kb b0 b1 b2 b3 h0 n0) (s₁.setTop (entryFrame m #[(.ref ba), (.int st), (.int ix)] 4))
  rw [ef2]
  obtain ⟨Q, hQ⟩ : ∃ Q, Q = Q2 Z ba st ix kb b0 b1 b2 b3 h0 n0 := ⟨_, rfl⟩
  rw [← hQ]
  show OFin p e below s _ _ Q (s₁.setTop (mkF m 0 #[.val (.ref ba), .val (.int st), .val (.int ix), .unset] []))
  have J59 : ∀ (TJ59 : State) (lJ59 : List Loc) (nn : Int32), Stand p l e ({ frames := 1, cells := 0, slots := 0, locals := 13 } : Room) s m #[(.ref ba), (.int st), (.int ix)] below meth c TJ59 lJ59 0 0 → TJ59.heap = h0 → Fr n0 lJ59 → own_esc b0 b1 b2 b3 st ix = own_esc59 b0 b1 b2 b3 st ix nn → OFin p e below s ({ frames := 1, cells := 0, slots := 0, locals := 13 } : Room).cells ({ frames := 1, cells := 0, slots := 0, locals := 13 } : Room).slots Q (TJ59.setTop (mkF m 59 #[.val (.ref ba), .val (.int st), .val (.int ix), .val (.int nn)] [])) := by
    intro TJ59 lJ59 nn XJ59 eJ59 NJ59 hJ59
    show OFin p e below s _ _ Q (TJ59.setTop (mkF m 59 #[.val (.ref ba), .val (.int st), .val (.int ix), .val (.int nn)] []))
    refine OFin.back (fun _ hr => XS.iloadN XJ59.here hx rfl (hb hby d2_59) rfl hr) ?_
    show OFin p e below s _ _ Q (TJ59.setTop (mkF m 60 #[.val (.ref ba), .val (.int st), .val (.int ix), .val (.int nn)] [(.int nn)]))
    refine OFin.back (fun _ hr => XS.iconst XJ59.here hx rfl (hb hby d2_60) hr) ?_
    show OFin p e below s _ _ Q (TJ59.setTop (mkF m 61 #[.val (.ref ba), .val (.int st), .val (.int ix), .val (.int nn)] [(.int (1 : Int32)), (.int nn)]))
    refine OFin.back (fun _ hr => XS.iand XJ59.here hx rfl (hb hby d2_61) rfl hr) ?_
    show OFin p e below s _ _ Q (TJ59.setTop (mkF m 62 #[.val (.ref ba), .val (.int st), .val (.int ix), .val (.int nn)] [(.int (nn &&& (1 : Int32)))]))
    by_cases hc62_1 : (nn &&& (1 : Int32)) = (0 : Int32)
    · -- (nn &&& (1 : Int32)) = (0 : Int32)
      refine OFin.back (fun _ hr => XS.ifYes XJ59.here hx rfl (pc0 := 62) (pc' := 69) rfl (hb hby d2_62) rfl ((if0 _ _).trans (teq hc62_1).1) (by decide) (by decide) hr) ?_
      show OFin p e below s _ _ Q (TJ59.setTop (mkF m 69 #[.val (.ref ba), .val (.int st), .val (.int ix), .val (.int nn)] []))
      refine OFin.back (fun _ hr => XS.iconst XJ59.here hx rfl (hb hby d2_69) hr) ?_
      show OFin p e below s _ _ Q (TJ59.setTop (mkF m 70 #[.val (.ref ba), .val (.int st), .val (.int ix), .val (.int nn)] [(.int (0 : Int32))]))
      exact OFin.outN (t := .boolean) XJ59 hx Bd.returns (by simp) Bd.notSynchronized (hb hby d2_70) (by decide) (by decide) eJ59 (by rw [hQ]; exact ⟨by rw [hJ59, own_esc59, if_pos hc62_1]; try rfl, NJ59, rfl⟩)
    · -- not (nn &&& (1 : Int32)) = (0 : Int32)
      refine OFin.back (fun _ hr => XS.ifNo XJ59.here hx rfl (hb hby d2_62) rfl ((if0 _ _).trans (feq hc62_1).1) hr) ?_
      show OFin p e below s _ _ Q (TJ59.setTop (mkF m 65 #[.val (.ref ba), .val (.int st), .val (.int ix), .val (.int nn)] []))
      refine OFin.back (fun _ hr => XS.iconst XJ59.here hx rfl (hb hby d2_65) hr) ?_
      show OFin p e below s _ _ Q (TJ59.setTop (mkF m 66 #[.val (.ref ba), .val (.int st), .val (.int ix), .val (.int nn)] [(.int (1 : Int32))]))
      refine OFin.back (fun _ hr => XS.goto XJ59.here hx rfl (pc0 := 66) (pc' := 70) rfl (hb hby d2_66) (by decide) (by decide) hr) ?_
      show OFin p e below s _ _ Q (TJ59.setTop (mkF m 70 #[.val (.ref ba), .val (.int st), .val (.int ix), .val (.int nn)] [(.int (1 : Int32))]))
      exact OFin.outN (t := .boolean) XJ59 hx Bd.returns (by simp) Bd.notSynchronized (hb hby d2_70) (by decide) (by decide) eJ59 (by rw [hQ]; exact ⟨by rw [hJ59, own_esc59, if_neg hc62_1]; try rfl, NJ59, rfl⟩)
  refine OFin.back (fun _ hr => XS.iconst X0.here hx rfl (hb hby d2_0) hr) ?_
  show OFin p e below s _ _ Q (s₁.setTop (mkF m 1 #[.val (.ref ba), .val (.int st), .val (.int ix), .unset] [(.int (0 : Int32))]))
  refine OFin.back (fun _ hr => XS.istoreN X0.here hx rfl (hb hby d2_1) rfl (l' := #[.val (.ref ba), .val (.int st), .val (.int ix), .val (.int (0 : Int32))]) rfl hr) ?_
  show OFin p e below s _ _ Q (s₁.setTop (mkF m 2 #[.val (.ref ba), .val (.int st), .val (.int ix), .val (.int (0 : Int32))] []))
  refine OFin.back (fun _ hr => XS.iloadN X0.here hx rfl (hb hby d2_2) rfl hr) ?_
  show OFin p e below s _ _ Q (s₁.setTop (mkF m 3 #[.val (.ref ba), .val (.int st), .val (.int ix), .val (.int (0 : Int32))] [(.int ix)]))
  refine OFin.back (fun _ hr => XS.iconst X0.here hx rfl (hb hby d2_3) hr) ?_
  show OFin p e below s _ _ Q (s₁.setTop (mkF m 4 #[.val (.ref ba), .val (.int st), .val (.int ix), .val (.int (0 : Int32))] [(.int (1 : Int32)), (.int ix)]))
  refine OFin.back (fun _ hr => XS.isub X0.here hx rfl (hb hby d2_4) rfl hr) ?_
  show OFin p e below s _ _ Q (s₁.setTop (mkF m 5 #[.val (.ref ba), .val (.int st), .val (.int ix), .val (.int (0 : Int32))] [(.int (ix - (1 : Int32)))]))
  refine OFin.back (fun _ hr => XS.iloadN X0.here hx rfl (hb hby d2_5) rfl hr) ?_
  show OFin p e below s _ _ Q (s₁.setTop (mkF m 6 #[.val (.ref ba), .val (.int st), .val (.int ix), .val (.int (0 : Int32))] [(.int st), (.int (ix - (1 : Int32)))]))
  by_cases hc6_2 : (ix - (1 : Int32)) < st
  · -- (ix - (1 : Int32)) < st
    refine OFin.back (fun _ hr => XS.icmpYes X0.here hx rfl (pc0 := 6) (pc' := 59) rfl (hb hby d2_6) rfl (tlt hc6_2).1 (by decide) (by decide) hr) ?_
    show OFin p e below s _ _ Q (s₁.setTop (mkF m 59 #[.val (.ref ba), .val (.int st), .val (.int ix), .val (.int (0 : Int32))] []))
    exact J59 _ _ (0 : Int32) X0 e0 N0 (by rw [own_esc, if_pos hc6_2])
  · -- not (ix - (1 : Int32)) < st
    refine OFin.back (fun _ hr => XS.icmpNo X0.here hx rfl (hb hby d2_6) rfl (flt hc6_2).1 hr) ?_
    show OFin p e below s _ _ Q (s₁.setTop (mkF m 9 #[.val (.ref ba), .val (.int st), .val (.int ix), .val (.int (0 : Int32))] []))
    have x3 := own_e1 (k := 1) (by decide) hs0 hi hc6_2
    refine OFin.back (fun _ hr => XS.aloadN X0.here hx rfl (hb hby d2_9) rfl rfl hr) ?_
    show OFin p e below s _ _ Q (s₁.setTop (mkF m 10 #[.val (.ref ba), .val (.int st), .val (.int ix), .val (.int (0 : Int32))] [(.ref ba)]))
    refine OFin.back (fun _ hr => XS.iloadN X0.here hx rfl (hb hby d2_10) rfl hr) ?_
    show OFin p e below s _ _ Q (s₁.setTop (mkF m 11 #[.val (.ref ba), .val (.int st), .val (.int ix), .val (.int (0 : Int32))] [(.int ix), (.ref ba)]))
    refine OFin.back (fun _ hr => XS.iconst X0.here hx rfl (hb hby d2_11) hr) ?_
    show OFin p e below s _ _ Q (s₁.setTop (mkF m 12 #[.val (.ref ba), .val (.int st), .val (.int ix), .val (.int (0 : Int32))] [(.int (1 : Int32)), (.int ix), (.ref ba)]))
    refine OFin.back (fun _ hr => XS.isub X0.here hx rfl (hb hby d2_12) rfl hr) ?_
    show OFin p e below s _ _ Q (s₁.setTop (mkF m 13 #[.val (.ref ba), .val (.int st), .val (.int ix), .val (.int (0 : Int32))] [(.int (ix - (1 : Int32))), (.ref ba)]))
    obtain ⟨_, _, ⟨T4, L4, k4, n4⟩, -, X4, ⟨Lc4, hQ4, l4, y4, z4⟩, st4⟩ := Jvm.LawKit.callS X0 hx (y := (⟨"com/example/bytelore/bytelore/classfile/NamesIsModuleNamePinLaw", "isBackslash", "([BI)Z"⟩ : MethodName)) hown (mvT hZ (hw _ (List.mem_of_getElem? (i := 13) rfl))) (mvT hZ (hw _ (List.mem_of_getElem? (i := 14) rfl))) (mvT hZ (hw _ (List.mem_of_getElem? (i := 4) rfl))) (mvT hZ (hw _ (List.mem_of_getElem? (i := 15) rfl))) (by decide) (backOf (W := 0) (rm1 l Z a0 hw [] ba (ix - (1 : Int32)) kb b0 b1 b2 b3 (h0) n0 Z0 V0 x3) hZ (hw _ (List.mem_of_getElem? (i := 15) rfl)) (hw _ (List.mem_of_getElem? (i := 4) rfl)) (by decide) (by decide)) (g := (mkF m 13 #[.val (.ref ba), .val (.int st), .val (.int ix), .val (.int (0 : Int32))] [(.int (ix - (1 : Int32))), (.ref ba)])) rfl (by rw [hml]; rfl) (argsL := [(.ref ba), (.int (ix - (1 : Int32)))]) (rest := []) (lenOf pd2_0 rfl) rfl (by show 2 * 0 + _ ≤ _; exact Nat.le_of_eq rfl) (hb hby d2_13) (fun _ _ => ⟨rfl, e0, (by decide : 0 + 0 ≤ _), (by decide : 0 + 0 ≤ _)⟩)
    dsimp only [Pt.U, Pt.locs, Pt.cells, Pt.slots] at X4 l4 y4 z4 st4 hQ4
    subst l4 y4 z4
    obtain ⟨rfl, N4q, e4⟩ := hQ4
    have N4 := Fr.app N0 N4q
    refine OFin.back st4 ?_
    show OFin p e below s _ _ Q (T4.setTop (mkF m 16 #[.val (.ref ba), .val (.int st), .val (.int ix), .val (.int (0 : Int32))] [(.int (own_isb b0 b1 b2 b3 (ix - (1 : Int32))))]))
    by_cases hc16_5 : (own_isb b0 b1 b2 b3 (ix - (1 : Int32))) = (0 : Int32)
    · -- (own_isb b0 b1 b2 b3 (ix - (1 : Int32))) = (0 : Int32)
      refine OFin.back (fun _ hr => XS.ifYes X4.here hx rfl (pc0 := 16) (pc' := 59) rfl (hb hby d2_16) rfl ((if0 _ _).trans (teq hc16_5).1) (by decide) (by decide) hr) ?_
      show OFin p e below s _ _ Q (T4.setTop (mkF m 59 #[.val (.ref ba), .val (.int st), .val (.int ix), .val (.int (0 : Int32))] []))
      exact J59 _ _ (0 : Int32) X4 e4 N4 (by rw [own_esc, if_neg hc6_2, if_pos hc16_5])
    · -- not (own_isb b0 b1 b2 b3 (ix - (1 : Int32))) = (0 : Int32)
      refine OFin.back (fun _ hr => XS.ifNo X4.here hx rfl (hb hby d2_16) rfl ((if0 _ _).trans (feq hc16_5).1) hr) ?_
      show OFin p e below s _ _ Q (T4.setTop (mkF m 19 #[.val (.ref ba), .val (.int st), .val (.int ix), .val (.int (0 : Int32))] []))
      refine OFin.back (fun _ hr => XS.iconst X4.here hx rfl (hb hby d2_19) hr) ?_
      show OFin p e below s _ _ Q (T4.setTop (mkF m 20 #[.val (.ref ba), .val (.int st), .val (.int ix), .val (.int (0 : Int32))] [(.int (1 : Int32))]))
      refine OFin.back (fun _ hr => XS.istoreN X4.here hx rfl (hb hby d2_20) rfl (l' := #[.val (.ref ba), .val (.int st), .val (.int ix), .val (.int (1 : Int32))]) rfl hr) ?_
      show OFin p e below s _ _ Q (T4.setTop (mkF m 21 #[.val (.ref ba), .val (.int st), .val (.int ix), .val (.int (1 : Int32))] []))
      refine OFin.back (fun _ hr => XS.iloadN X4.here hx rfl (hb hby d2_21) rfl hr) ?_
      show OFin p e below s _ _ Q (T4.setTop (mkF m 22 #[.val (.ref ba), .val (.int st), .val (.int ix), .val (.int (1 : Int32))] [(.int ix)]))
      refine OFin.back (fun _ hr => XS.iconst X4.here hx rfl (hb hby d2_22) hr) ?_
      show OFin p e below s _ _ Q (T4.setTop (mkF m 23 #[.val (.ref ba), .val (.int st), .val (.int ix), .val (.int (1 : Int32))] [(.int (2 : Int32)), (.int ix)]))
      refine OFin.back (fun _ hr => XS.isub X4.here hx rfl (hb hby d2_23) rfl hr) ?_
      show OFin p e below s _ _ Q (T4.setTop (mkF m 24 #[.val (.ref ba), .val (.int st), .val (.int ix), .val (.int (1 : Int32))] [(.int (ix - (2 : Int32)))]))
      refine OFin.back (fun _ hr => XS.iloadN X4.here hx rfl (hb hby d2_24) rfl hr) ?_
      show OFin p e below s _ _ Q (T4.setTop (mkF m 25 #[.val (.ref ba), .val (.int st), .val (.int ix), .val (.int (1 : Int32))] [(.int st), (.int (ix - (2 : Int32)))]))
      by_cases hc25_6 : (ix - (2 : Int32)) < st
      · -- (ix - (2 : Int32)) < st
        refine OFin.back (fun _ hr => XS.icmpYes X4.here hx rfl (pc0 := 25) (pc' := 59) rfl (hb hby d2_25) rfl (tlt hc25_6).1 (by decide) (by decide) hr) ?_
        show OFin p e below s _ _ Q (T4.setTop (mkF m 59 #[.val (.ref ba), .val (.int st), .val (.int ix), .val (.int (1 : Int32))] []))
        exact J59 _ _ (1 : Int32) X4 e4 N4 (by rw [own_esc, if_neg hc6_2, if_neg hc16_5, if_pos hc25_6])
      · -- not (ix - (2 : Int32)) < st
        refine OFin.back (fun _ hr => XS.icmpNo X4.here hx rfl (hb hby d2_25) rfl (flt hc25_6).1 hr) ?_
        show OFin p e below s _ _ Q (T4.setTop (mkF m 28 #[.val (.ref ba), .val (.int st), .val (.int ix), .val (.int (1 : Int32))] []))
        have x7 := own_e1 (k := 2) (by decide) hs0 hi hc25_6
        refine OFin.back (fun _ hr => XS.aloadN X4.here hx rfl (hb hby d2_28) rfl rfl hr) ?_
        show OFin p e below s _ _ Q (T4.setTop (mkF m 29 #[.val (.ref ba), .val (.int st), .val (.int ix), .val (.int (1 : Int32))] [(.ref ba)]))
        refine OFin.back (fun _ hr => XS.iloadN X4.here hx rfl (hb hby d2_29) rfl hr) ?_
        show OFin p e below s _ _ Q (T4.setTop (mkF m 30 #[.val (.ref ba), .val (.int st), .val (.int ix), .val (.int (1 : Int32))] [(.int ix), (.ref ba)]))
        refine OFin.back (fun _ hr => XS.iconst X4.here hx rfl (hb hby d2_30) hr) ?_
        show OFin p e below s _ _ Q (T4.setTop (mkF m 31 #[.val (.ref ba), .val (.int st), .val (.int ix), .val (.int (1 : Int32))] [(.int (2 : Int32)), (.int ix), (.ref ba)]))
        refine OFin.back (fun _ hr => XS.isub X4.here hx rfl (hb hby d2_31) rfl hr) ?_
        show OFin p e below s _ _ Q (T4.setTop (mkF m 32 #[.val (.ref ba), .val (.int st), .val (.int ix), .val (.int (1 : Int32))] [(.int (ix - (2 : Int32))), (.ref ba)]))
        obtain ⟨_, _, ⟨T8, L8, k8, n8⟩, -, X8, ⟨Lc8, hQ8, l8, y8, z8⟩, st8⟩ := Jvm.LawKit.callS X4 hx (y := (⟨"com/example/bytelore/bytelore/classfile/NamesIsModuleNamePinLaw", "isBackslash", "([BI)Z"⟩ : MethodName)) hown (mvT hZ (hw _ (List.mem_of_getElem? (i := 13) rfl))) (mvT hZ (hw _ (List.mem_of_getElem? (i := 14) rfl))) (mvT hZ (hw _ (List.mem_of_getElem? (i := 4) rfl))) (mvT hZ (hw _ (List.mem_of_getElem? (i := 15) rfl))) (by decide) (backOf (W := 0) (rm1 l Z a0 hw [] ba (ix - (2 : Int32)) kb b0 b1 b2 b3 (h0) n0 Z0 V0 x7) hZ (hw _ (List.mem_of_getElem? (i := 15) rfl)) (hw _ (List.mem_of_getElem? (i := 4) rfl)) (by decide) (by decide)) (g := (mkF m 32 #[.val (.ref ba), .val (.int st), .val (.int ix), .val (.int (1 : Int32))] [(.int (ix - (2 : Int32))), (.ref ba)])) rfl (by rw [hml]; rfl) (argsL := [(.ref ba), (.int (ix - (2 : Int32)))]) (rest := []) (lenOf pd2_0 rfl) rfl (by show 2 * 0 + _ ≤ _; exact Nat.le_of_eq rfl) (hb hby d2_32) (fun _ _ => ⟨rfl, e4, (by decide : 0 + 0 ≤ _), (by decide : 0 + 0 ≤ _)⟩)
        dsimp only [Pt.U, Pt.locs, Pt.cells, Pt.slots] at X8 l8 y8 z8 st8 hQ8
        subst l8 y8 z8
        obtain ⟨rfl, N8q, e8⟩ := hQ8
        have N8 := Fr.app N4 N8q
        refine OFin.back st8 ?_
        show OFin p e below s _ _ Q (T8.setTop (mkF m 35 #[.val (.ref ba), .val (.int st), .val (.int ix), .val (.int (1 : Int32))] [(.int (own_isb b0 b1 b2 b3 (ix - (2 : Int32))))]))
        by_cases hc35_9 : (own_isb b0 b1 b2 b3 (ix - (2 : Int32))) = (0 : Int32)
        · -- (own_isb b0 b1 b2 b3 (ix - (2 : Int32))) = (0 : Int32)
          refine OFin.back (fun _ hr => XS.ifYes X8.here hx rfl (pc0 := 35) (pc' := 59) rfl (hb hby d2_35) rfl ((if0 _ _).trans (teq hc35_9).1) (by decide) (by decide) hr) ?_
          show OFin p e below s _ _ Q (T8.setTop (mkF m 59 #[.val (.ref ba), .val (.int st), .val (.int ix), .val (.int (1 : Int32))] []))
          exact J59 _ _ (1 : Int32) X8 e8 N8 (by rw [own_esc, if_neg hc6_2, if_neg hc16_5, if_neg hc25_6, if_pos hc35_9])
        · -- not (own_isb b0 b1 b2 b3 (ix - (2 : Int32))) = (0 : Int32)
          refine OFin.back (fun _ hr => XS.ifNo X8.here hx rfl (hb hby d2_35) rfl ((if0 _ _).trans (feq hc35_9).1) hr) ?_
          show OFin p e below s _ _ Q (T8.setTop (mkF m 38 #[.val (.ref ba), .val (.int st), .val (.int ix), .val (.int (1 : Int32))] []))
          refine OFin.back (fun _ hr => XS.iconst X8.here hx rfl (hb hby d2_38) hr) ?_
          show OFin p e below s _ _ Q (T8.setTop (mkF m 39 #[.val (.ref ba), .val (.int st), .val (.int ix), .val (.int (1 : Int32))] [(.int (2 : Int32))]))
          refine OFin.back (fun _ hr => XS.istoreN X8.here hx rfl (hb hby d2_39) rfl (l' := #[.val (.ref ba), .val (.int st), .val (.int ix), .val (.int (2 : Int32))]) rfl hr) ?_
          show OFin p e below s _ _ Q (T8.setTop (mkF m 40 #[.val (.ref ba), .val (.int st), .val (.int ix), .val (.int (2 : Int32))] []))
          refine OFin.back (fun _ hr => XS.iloadN X8.here hx rfl (hb hby d2_40) rfl hr) ?_
          show OFin p e below s _ _ Q (T8.setTop (mkF m 41 #[.val (.ref ba), .val (.int st), .val (.int ix), .val (.int (2 : Int32))] [(.int ix)]))
          refine OFin.back (fun _ hr => XS.iconst X8.here hx rfl (hb hby d2_41) hr) ?_
          show OFin p e below s _ _ Q (T8.setTop (mkF m 42 #[.val (.ref ba), .val (.int st), .val (.int ix), .val (.int (2 : Int32))] [(.int (3 : Int32)), (.int ix)]))
          refine OFin.back (fun _ hr => XS.isub X8.here hx rfl (hb hby d2_42) rfl hr) ?_
          show OFin p e below s _ _ Q (T8.setTop (mkF m 43 #[.val (.ref ba), .val (.int st), .val (.int ix), .val (.int (2 : Int32))] [(.int (ix - (3 : Int32)))]))
          refine OFin.back (fun _ hr => XS.iloadN X8.here hx rfl (hb hby d2_43) rfl hr) ?_
          show OFin p e below s _ _ Q (T8.setTop (mkF m 44 #[.val (.ref ba), .val (.int st), .val (.int ix), .val (.int (2 : Int32))] [(.int st), (.int (ix - (3 : Int32)))]))
          by_cases hc44_10 : (ix - (3 : Int32)) < st
          · -- (ix - (3 : Int32)) < st
            refine OFin.back (fun _ hr => XS.icmpYes X8.here hx rfl (pc0 := 44) (pc' := 59) rfl (hb hby d2_44) rfl (tlt hc44_10).1 (by decide) (by decide) hr) ?_
            show OFin p e below s _ _ Q (T8.setTop (mkF m 59 #[.val (.ref ba), .val (.int st), .val (.int ix), .val (.int (2 : Int32))] []))
            exact J59 _ _ (2 : Int32) X8 e8 N8 (by rw [own_esc, if_neg hc6_2, if_neg hc16_5, if_neg hc25_6, if_neg hc35_9, if_pos hc44_10])
          · -- not (ix - (3 : Int32)) < st
            refine OFin.back (fun _ hr => XS.icmpNo X8.here hx rfl (hb hby d2_44) rfl (flt hc44_10).1 hr) ?_
            show OFin p e below s _ _ Q (T8.setTop (mkF m 47 #[.val (.ref ba), .val (.int st), .val (.int ix), .val (.int (2 : Int32))] []))
            have x11 := own_e1 (k := 3) (by decide) hs0 hi hc44_10
            refine OFin.back (fun _ hr => XS.aloadN X8.here hx rfl (hb hby d2_47) rfl rfl hr) ?_
            show OFin p e below s _ _ Q (T8.setTop (mkF m 48 #[.val (.ref ba), .val (.int st), .val (.int ix), .val (.int (2 : Int32))] [(.ref ba)]))
            refine OFin.back (fun _ hr => XS.iloadN X8.here hx rfl (hb hby d2_48) rfl hr) ?_
            show OFin p e below s _ _ Q (T8.setTop (mkF m 49 #[.val (.ref ba), .val (.int st), .val (.int ix), .val (.int (2 : Int32))] [(.int ix), (.ref ba)]))
            refine OFin.back (fun _ hr => XS.iconst X8.here hx rfl (hb hby d2_49) hr) ?_
            show OFin p e below s _ _ Q (T8.setTop (mkF m 50 #[.val (.ref ba), .val (.int st), .val (.int ix), .val (.int (2 : Int32))] [(.int (3 : Int32)), (.int ix), (.ref ba)]))
            refine OFin.back (fun _ hr => XS.isub X8.here hx rfl (hb hby d2_50) rfl hr) ?_
            show OFin p e below s _ _ Q (T8.setTop (mkF m 51 #[.val (.ref ba), .val (.int st), .val (.int ix), .val (.int (2 : Int32))] [(.int (ix - (3 : Int32))), (.ref ba)]))
            obtain ⟨_, _, ⟨T12, L12, k12, n12⟩, -, X12, ⟨Lc12, hQ12, l12, y12, z12⟩, st12⟩ := Jvm.LawKit.callS X8 hx (y := (⟨"com/example/bytelore/bytelore/classfile/NamesIsModuleNamePinLaw", "isBackslash", "([BI)Z"⟩ : MethodName)) hown (mvT hZ (hw _ (List.mem_of_getElem? (i := 13) rfl))) (mvT hZ (hw _ (List.mem_of_getElem? (i := 14) rfl))) (mvT hZ (hw _ (List.mem_of_getElem? (i := 4) rfl))) (mvT hZ (hw _ (List.mem_of_getElem? (i := 15) rfl))) (by decide) (backOf (W := 0) (rm1 l Z a0 hw [] ba (ix - (3 : Int32)) kb b0 b1 b2 b3 (h0) n0 Z0 V0 x11) hZ (hw _ (List.mem_of_getElem? (i := 15) rfl)) (hw _ (List.mem_of_getElem? (i := 4) rfl)) (by decide) (by decide)) (g := (mkF m 51 #[.val (.ref ba), .val (.int st), .val (.int ix), .val (.int (2 : Int32))] [(.int (ix - (3 : Int32))), (.ref ba)])) rfl (by rw [hml]; rfl) (argsL := [(.ref ba), (.int (ix - (3 : Int32)))]) (rest := []) (lenOf pd2_0 rfl) rfl (by show 2 * 0 + _ ≤ _; exact Nat.le_of_eq rfl) (hb hby d2_51) (fun _ _ => ⟨rfl, e8, (by decide : 0 + 0 ≤ _), (by decide : 0 + 0 ≤ _)⟩)
            dsimp only [Pt.U, Pt.locs, Pt.cells, Pt.slots] at X12 l12 y12 z12 st12 hQ12
            subst l12 y12 z12
            obtain ⟨rfl, N12q, e12⟩ := hQ12
            have N12 := Fr.app N8 N12q
            refine OFin.back st12 ?_
            show OFin p e below s _ _ Q (T12.setTop (mkF m 54 #[.val (.ref ba), .val (.int st), .val (.int ix), .val (.int (2 : Int32))] [(.int (own_isb b0 b1 b2 b3 (ix - (3 : Int32))))]))
            by_cases hc54_13 : (own_isb b0 b1 b2 b3 (ix - (3 : Int32))) = (0 : Int32)
            · -- (own_isb b0 b1 b2 b3 (ix - (3 : Int32))) = (0 : Int32)
              refine OFin.back (fun _ hr => XS.ifYes X12.here hx rfl (pc0 := 54) (pc' := 59) rfl (hb hby d2_54) rfl ((if0 _ _).trans (teq hc54_13).1) (by decide) (by decide) hr) ?_
              show OFin p e below s _ _ Q (T12.setTop (mkF m 59 #[.val (.ref ba), .val (.int st), .val (.int ix), .val (.int (2 : Int32))] []))
              exact J59 _ _ (2 : Int32) X12 e12 N12 (by rw [own_esc, if_neg hc6_2, if_neg hc16_5, if_neg hc25_6, if_neg hc35_9, if_neg hc44_10, if_pos hc54_13])
            · -- not (own_isb b0 b1 b2 b3 (ix - (3 : Int32))) = (0 : Int32)
              refine OFin.back (fun _ hr => XS.ifNo X12.here hx rfl (hb hby d2_54) rfl ((if0 _ _).trans (feq hc54_13).1) hr) ?_
              show OFin p e below s _ _ Q (T12.setTop (mkF m 57 #[.val (.ref ba), .val (.int st), .val (.int ix), .val (.int (2 : Int32))] []))
              refine OFin.back (fun _ hr => XS.iconst X12.here hx rfl (hb hby d2_57) hr) ?_
              show OFin p e below s _ _ Q (T12.setTop (mkF m 58 #[.val (.ref ba), .val (.int st), .val (.int ix), .val (.int (2 : Int32))] [(.int (3 : Int32))]))
              refine OFin.back (fun _ hr => XS.istoreN X12.here hx rfl (hb hby d2_58) rfl (l' := #[.val (.ref ba), .val (.int st), .val (.int ix), .val (.int (3 : Int32))]) rfl hr) ?_
              show OFin p e below s _ _ Q (T12.setTop (mkF m 59 #[.val (.ref ba), .val (.int st), .val (.int ix), .val (.int (3 : Int32))] []))
              exact J59 _ _ (3 : Int32) X12 e12 N12 (by rw [own_esc, if_neg hc6_2, if_neg hc16_5, if_neg hc25_6, if_neg hc35_9, if_neg hc44_10, if_neg hc54_13])
theorem d3_0 : decode method_5_code 0 = .ok (.iload_n 3, 1) := by decide +kernel
theorem d3_1 : decode method_5_code 1 = .ok (.iload_n 1, 1) := by decide +kernel
theorem d3_2 : decode method_5_code 2 = .ok (.if_icmp .lt 8, 3) := by decide +kernel
theorem d3_5 : decode method_5_code 5 = .ok (.iload_n 3, 1) := by decide +kernel
theorem d3_6 : decode method_5_code 6 = .ok (.iload_n 2, 1) := by decide +kernel
theorem d3_7 : decode method_5_code 7 = .ok (.if_icmp .lt 5, 3) := by decide +kernel
theorem d3_10 : decode method_5_code 10 = .ok (.iconst 1, 1) := by decide +kernel
theorem d3_11 : decode method_5_code 11 = .ok (.ireturn, 1) := by decide +kernel
theorem d3_12 : decode method_5_code 12 = .ok (.aload_n 0, 1) := by decide +kernel
theorem d3_13 : decode method_5_code 13 = .ok (.iload_n 3, 1) := by decide +kernel
theorem d3_14 : decode method_5_code 14 = .ok (.baload, 1) := by decide +kernel
theorem d3_15 : decode method_5_code 15 = .ok (.sipush 255, 3) := by decide +kernel
theorem d3_18 : decode method_5_code 18 = .ok (.iand, 1) := by decide +kernel
theorem d3_19 : decode method_5_code 19 = .ok (.istore 4, 2) := by decide +kernel
theorem d3_21 : decode method_5_code 21 = .ok (.aload_n 0, 1) := by decide +kernel
theorem d3_22 : decode method_5_code 22 = .ok (.iload_n 1, 1) := by decide +kernel
theorem d3_23 : decode method_5_code 23 = .ok (.iload_n 3, 1) := by decide +kernel
theorem d3_24 : decode method_5_code 24 = .ok (.invokestatic 24, 3) := by decide +kernel
theorem d3_27 : decode method_5_code 27 = .ok (.ifCond .eq 30, 3) := by decide +kernel
theorem d3_30 : decode method_5_code 30 = .ok (.iload 4, 2) := by decide +kernel
theorem d3_32 : decode method_5_code 32 = .ok (.bipush 92, 2) := by decide +kernel
theorem d3_34 : decode method_5_code 34 = .ok (.if_icmp .eq 17, 3) := by decide +kernel
theorem d3_37 : decode method_5_code 37 = .ok (.iload 4, 2) := by decide +kernel
theorem d3_39 : decode method_5_code 39 = .ok (.bipush 58, 2) := by decide +kernel
theorem d3_41 : decode method_5_code 41 = .ok (.if_icmp .eq 10, 3) := by decide +kernel
theorem d3_44 : decode method_5_code 44 = .ok (.iload 4, 2) := by decide +kernel
theorem d3_46 : decode method_5_code 46 = .ok (.bipush 64, 2) := by decide +kernel
theorem d3_48 : decode method_5_code 48 = .ok (.if_icmp .ne 7, 3) := by decide +kernel
theorem d3_51 : decode method_5_code 51 = .ok (.iconst 1, 1) := by decide +kernel
theorem d3_52 : decode method_5_code 52 = .ok (.goto 4, 3) := by decide +kernel
theorem d3_55 : decode method_5_code 55 = .ok (.iconst 0, 1) := by decide +kernel
theorem d3_56 : decode method_5_code 56 = .ok (.ireturn, 1) := by decide +kernel
theorem d3_57 : decode method_5_code 57 = .ok (.iload 4, 2) := by decide +kernel
theorem d3_59 : decode method_5_code 59 = .ok (.bipush 92, 2) := by decide +kernel
theorem d3_61 : decode method_5_code 61 = .ok (.if_icmp .ne 16, 3) := by decide +kernel
theorem d3_64 : decode method_5_code 64 = .ok (.iload_n 3, 1) := by decide +kernel
theorem d3_65 : decode method_5_code 65 = .ok (.iconst 1, 1) := by decide +kernel
theorem d3_66 : decode method_5_code 66 = .ok (.iadd, 1) := by decide +kernel
theorem d3_67 : decode method_5_code 67 = .ok (.iload_n 2, 1) := by decide +kernel
theorem d3_68 : decode method_5_code 68 = .ok (.if_icmp .ge 7, 3) := by decide +kernel
theorem d3_71 : decode method_5_code 71 = .ok (.iconst 1, 1) := by decide +kernel
theorem d3_72 : decode method_5_code 72 = .ok (.goto 4, 3) := by decide +kernel
theorem d3_75 : decode method_5_code 75 = .ok (.iconst 0, 1) := by decide +kernel
theorem d3_76 : decode method_5_code 76 = .ok (.ireturn, 1) := by decide +kernel
theorem d3_77 : decode method_5_code 77 = .ok (.iload 4, 2) := by decide +kernel
theorem d3_79 : decode method_5_code 79 = .ok (.iconst 1, 1) := by decide +kernel
theorem d3_80 : decode method_5_code 80 = .ok (.if_icmp .lt 10, 3) := by decide +kernel
theorem d3_83 : decode method_5_code 83 = .ok (.iload 4, 2) := by decide +kernel
theorem d3_85 : decode method_5_code 85 = .ok (.bipush 31, 2) := by decide +kernel
theorem d3_87 : decode method_5_code 87 = .ok (.if_icmp .le 25, 3) := by decide +kernel
theorem d3_90 : decode method_5_code 90 = .ok (.iload 4, 2) := by decide +kernel
theorem d3_92 : decode method_5_code 92 = .ok (.sipush 192, 3) := by decide +kernel
theorem d3_95 : decode method_5_code 95 = .ok (.if_icmp .eq 17, 3) := by decide +kernel
theorem d3_98 : decode method_5_code 98 = .ok (.iload 4, 2) := by decide +kernel
theorem d3_100 : decode method_5_code 100 = .ok (.bipush 58, 2) := by decide +kernel
theorem d3_102 : decode method_5_code 102 = .ok (.if_icmp .eq 10, 3) := by decide +kernel
theorem d3_105 : decode method_5_code 105 = .ok (.iload 4, 2) := by decide +kernel
theorem d3_107 : decode method_5_code 107 = .ok (.bipush 64, 2) := by decide +kernel
theorem d3_109 : decode method_5_code 109 = .ok (.if_icmp .ne 7, 3) := by decide +kernel
theorem d3_112 : decode method_5_code 112 = .ok (.iconst 1, 1) := by decide +kernel
theorem d3_113 : decode method_5_code 113 = .ok (.goto 4, 3) := by decide +kernel
theorem d3_116 : decode method_5_code 116 = .ok (.iconst 0, 1) := by decide +kernel
theorem d3_117 : decode method_5_code 117 = .ok (.istore 5, 2) := by decide +kernel
theorem d3_119 : decode method_5_code 119 = .ok (.iload 5, 2) := by decide +kernel
theorem d3_121 : decode method_5_code 121 = .ok (.ifCond .ne 7, 3) := by decide +kernel
theorem d3_124 : decode method_5_code 124 = .ok (.iconst 1, 1) := by decide +kernel
theorem d3_125 : decode method_5_code 125 = .ok (.goto 4, 3) := by decide +kernel
theorem d3_128 : decode method_5_code 128 = .ok (.iconst 0, 1) := by decide +kernel
theorem d3_129 : decode method_5_code 129 = .ok (.ireturn, 1) := by decide +kernel
theorem pn3 : plainName "com/example/bytelore/bytelore/classfile/NamesIsModuleNamePinLaw" = true := by first | (simp [plainName, overriddenIn]; done) | decide +kernel
theorem pd3_0 : parseMethodDescriptor "([BII)Z" = some ⟨[(.array .byte), .int, .int], some .boolean⟩ := by decide +kernel
theorem ef3 (m : MethodId) (ba : Addr) (st : Int32) (en : Int32) (ix : Int32) : entryFrame m #[(.ref ba), (.int st), (.int en), (.int ix)] 6 = mkF m 0 #[.val (.ref ba), .val (.int st), .val (.int en), .val (.int ix), .unset, .unset] [] := by first | (simp [entryFrame, mkF, argsToLocals, Value.category]; done) | rfl
def own_pos (b0 : Int32) (b1 : Int32) (b2 : Int32) (b3 : Int32) (st : Int32) (en : Int32) (ix : Int32) : Int32 := (if ix < st then (1 : Int32) else (if ix < en then (if (own_esc b0 b1 b2 b3 st ix) = (0 : Int32) then (if ((own_sel b0 b1 b2 b3 ix) &&& (255 : Int32)) = (92 : Int32) then (if (ix + (1 : Int32)) < en then (1 : Int32) else (0 : Int32)) else (if ((own_sel b0 b1 b2 b3 ix) &&& (255 : Int32)) < (1 : Int32) then (if ((own_sel b0 b1 b2 b3 ix) &&& (255 : Int32)) = (192 : Int32) then (0 : Int32) else (if ((own_sel b0 b1 b2 b3 ix) &&& (255 : Int32)) = (58 : Int32) then (0 : Int32) else (if ((own_sel b0 b1 b2 b3 ix) &&& (255 : Int32)) = (64 : Int32) then (0 : Int32) else (1 : Int32)))) else (if (31 : Int32) < ((own_sel b0 b1 b2 b3 ix) &&& (255 : Int32)) then (if ((own_sel b0 b1 b2 b3 ix) &&& (255 : Int32)) = (192 : Int32) then (0 : Int32) else (if ((own_sel b0 b1 b2 b3 ix) &&& (255 : Int32)) = (58 : Int32) then (0 : Int32) else (if ((own_sel b0 b1 b2 b3 ix) &&& (255 : Int32)) = (64 : Int32) then (0 : Int32) else (1 : Int32)))) else (0 : Int32)))) else (if ((own_sel b0 b1 b2 b3 ix) &&& (255 : Int32)) = (92 : Int32) then (1 : Int32) else (if ((own_sel b0 b1 b2 b3 ix) &&& (255 : Int32)) = (58 : Int32) then (1 : Int32) else (if ((own_sel b0 b1 b2 b3 ix) &&& (255 : Int32)) = (64 : Int32) then (1 : Int32) else (0 : Int32))))) else (1 : Int32)))
def Q3 (Z : State) (ba : Addr) (st : Int32) (en : Int32) (ix : Int32) (kb : ClassId) (b0 : Int32) (b1 : Int32) (b2 : Int32) (b3 : Int32) (h0 : Heap) (n0 : Nat) (v : Option Value) (h : Heap) (L : List Loc) : Prop := v = some (.int (own_pos b0 b1 b2 b3 st en ix)) ∧ Fr n0 L ∧ h = h0
set_option maxRecDepth 65536 in
set_option maxHeartbeats 40000000 in
theorem rm3 (l : Launch) (Z : State) (a0 : Array Value) (hw : ∀ d ∈ tables_1, d.before a0 Z = true) (ws : List Jvm.Cond) (ba : Addr) (st : Int32) (en : Int32) (ix : Int32) (kb : ClassId) (b0 : Int32) (b1 : Int32) (b2 : Int32) (b3 : Int32) (h0 : Heap) (n0 : Nat) (Z0 : n0 ≤ h0.size) (V0 : Arv Z h0 ba kb .byte (4 : Int32) [(.int b0), (.int b1), (.int b2), (.int b3)] (.int (0 : Int32))) (hs0 : 0 ≤ st.toInt) (hi : 0 ≤ ix.toInt ∧ ix.toInt ≤ 3) :
    MetFree l (⟨"com/example/bytelore/bytelore/classfile/NamesIsModuleNamePinLaw", "posOk", "([BIII)Z"⟩ : MethodName) (head1 (Jvm.Cond.code (⟨"com/example/bytelore/bytelore/classfile/NamesIsModuleNamePinLaw", "posOk", "([BIII)Z"⟩ : MethodName) method_5_code 6 (some .boolean) :: ws) ({ frames := 2, cells := 0, slots := 0, locals := 28 } : Room)) (fun ar_ U => ar_ = #[(.ref ba), (.int st), (.int en), (.int ix)] ∧ Z.Warmed39 U.vm ∧ U.heap = h0) (fun _ _ _ _ _ => True) (fun _ U o U' => ∃ v L, o = .returned v ∧ Q3 Z ba st en ix kb b0 b1 b2 b3 h0 n0 v U'.heap L ∧ FrameEnd U o U' L ({ frames := 2, cells := 0, slots := 0, locals := 28 } : Room).cells ({ frames := 2, cells := 0, slots := 0, locals := 28 } : Room).slots) := by
  refine MetFree.of_bodySF (plainFor_of_name pn3) hisR ?_
  intro p e s m args below meth c s₁ Bd hml0 hP hK
  obtain ⟨rfl, hZ, hh⟩ := hP
  have hx := Bd.exec
  have hby := Bd.bytes
  have hml : c.maxLocals = 6 := hml0
  have hown : s.vm.findClass "com/example/bytelore/bytelore/classfile/NamesIsModuleNamePinLaw" = some m.cls := findClass_of_methodNamed Bd.named
  have hnm := (name_of_methodNamed Bd.named Bd.method).1
  have X0 : Stand p l e ({ frames := 2, cells := 0, slots := 0, locals := 28 } : Room) s m #[(.ref ba), (.int st), (.int en), (.int ix)] below meth c s₁ [] 0 0 := Stand.of_body Bd
  have e0 : s₁.heap = h0 := by rw [← hh, Bd.state]; rfl
  have N0 := Fr.nil n0
  show OFin p e below s _ _ (Q3 Z ba st en ix kb b0 b1 b2 b3 h0 n0) (s₁.setTop (entryFrame m #[(.ref ba), (.int st), (.int en), (.int ix)] 6))
  rw [ef3]
  obtain ⟨Q, hQ⟩ : ∃ Q, Q = Q3 Z ba st en ix kb b0 b1 b2 b3 h0 n0 := ⟨_, rfl⟩
  rw [← hQ]
  show OFin p e below s _ _ Q (s₁.setTop (mkF m 0 #[.val (.ref ba), .val (.int st), .val (.int en), .val (.int ix), .unset, .unset] []))
  refine OFin.back (fun _ hr => XS.iloadN X0.here hx rfl (hb hby d3_0) rfl hr) ?_
  show OFin p e below s _ _ Q (s₁.setTop (mkF m 1 #[.val (.ref ba), .val (.int st), .val (.int en), .val (.int ix), .unset, .unset] [(.int ix)]))
  refine OFin.back (fun _ hr => XS.iloadN X0.here hx rfl (hb hby d3_1) rfl hr) ?_
  show OFin p e below s _ _ Q (s₁.setTop (mkF m 2 #[.val (.ref ba), .val (.int st), .val (.int en), .val (.int ix), .unset, .unset] [(.int st), (.int ix)]))
  by_cases hc2_1 : ix < st
  · -- ix < st
    refine OFin.back (fun _ hr => XS.icmpYes X0.here hx rfl (pc0 := 2) (pc' := 10) rfl (hb hby d3_2) rfl (tlt hc2_1).1 (by decide) (by decide) hr) ?_
    show OFin p e below s _ _ Q (s₁.setTop (mkF m 10 #[.val (.ref ba), .val (.int st), .val (.int en), .val (.int ix), .unset, .unset] []))
    refine OFin.back (fun _ hr => XS.iconst X0.here hx rfl (hb hby d3_10) hr) ?_
    show OFin p e below s _ _ Q (s₁.setTop (mkF m 11 #[.val (.ref ba), .val (.int st), .val (.int en), .val (.int ix), .unset, .unset] [(.int (1 : Int32))]))
    exact OFin.outN (t := .boolean) X0 hx Bd.returns (by simp) Bd.notSynchronized (hb hby d3_11) (by decide) (by decide) e0 (by rw [hQ]; exact ⟨by rw [own_pos, if_pos hc2_1]; try rfl, N0, rfl⟩)
  · -- not ix < st
    refine OFin.back (fun _ hr => XS.icmpNo X0.here hx rfl (hb hby d3_2) rfl (flt hc2_1).1 hr) ?_
    show OFin p e below s _ _ Q (s₁.setTop (mkF m 5 #[.val (.ref ba), .val (.int st), .val (.int en), .val (.int ix), .unset, .unset] []))
    refine OFin.back (fun _ hr => XS.iloadN X0.here hx rfl (hb hby d3_5) rfl hr) ?_
    show OFin p e below s _ _ Q (s₁.setTop (mkF m 6 #[.val (.ref ba), .val (.int st), .val (.int en), .val (.int ix), .unset, .unset] [(.int ix)]))
    refine OFin.back (fun _ hr => XS.iloadN X0.here hx rfl (hb hby d3_6) rfl hr) ?_
    show OFin p e below s _ _ Q (s₁.setTop (mkF m 7 #[.val (.ref ba), .val (.int st), .val (.int en), .val (.int ix), .unset, .unset] [(.int en), (.int ix)]))
    by_cases hc7_2 : ix < en
    · -- ix < en
      refine OFin.back (fun _ hr => XS.icmpYes X0.here hx rfl (pc0 := 7) (pc' := 12) rfl (hb hby d3_7) rfl (tlt hc7_2).1 (by decide) (by decide) hr) ?_
      show OFin p e below s _ _ Q (s₁.setTop (mkF m 12 #[.val (.ref ba), .val (.int st), .val (.int en), .val (.int ix), .unset, .unset] []))
      have xi := own_e0 hi
      refine OFin.back (fun _ hr => XS.aloadN X0.here hx rfl (hb hby d3_12) rfl rfl hr) ?_
      show OFin p e below s _ _ Q (s₁.setTop (mkF m 13 #[.val (.ref ba), .val (.int st), .val (.int en), .val (.int ix), .unset, .unset] [(.ref ba)]))
      refine OFin.back (fun _ hr => XS.iloadN X0.here hx rfl (hb hby d3_13) rfl hr) ?_
      show OFin p e below s _ _ Q (s₁.setTop (mkF m 14 #[.val (.ref ba), .val (.int st), .val (.int en), .val (.int ix), .unset, .unset] [(.int ix), (.ref ba)]))
      obtain ⟨cl3, Ar3, q3, S3, M3, H3, G3⟩ := id V0
      have hin3 : ¬ (ix < 0 ∨ cl3.slots.size ≤ (ix).toNatClampNeg) := inb_of S3 xi
      refine OFin.back (X0.baloadBytes hx (j := ix) (v := (.int (own_sel b0 b1 b2 b3 ix))) (by rw [e0]; exact Ar3.1) (State.isArrayOf_alike hZ.alike Ar3.2.1) Ar3.2.2 hin3 (H3.at hin3 (own_selAt xi)) (g := (mkF m 14 #[.val (.ref ba), .val (.int st), .val (.int en), .val (.int ix), .unset, .unset] [(.int ix), (.ref ba)])) rfl rfl (hb hby d3_14)) ?_
      show OFin p e below s _ _ Q (s₁.setTop (mkF m 15 #[.val (.ref ba), .val (.int st), .val (.int en), .val (.int ix), .unset, .unset] [(.int (own_sel b0 b1 b2 b3 ix))]))
      refine OFin.back (fun _ hr => XS.sipush X0.here hx rfl (hb hby d3_15) hr) ?_
      show OFin p e below s _ _ Q (s₁.setTop (mkF m 18 #[.val (.ref ba), .val (.int st), .val (.int en), .val (.int ix), .unset, .unset] [(.int (255 : Int32)), (.int (own_sel b0 b1 b2 b3 ix))]))
      refine OFin.back (fun _ hr => XS.iand X0.here hx rfl (hb hby d3_18) rfl hr) ?_
      show OFin p e below s _ _ Q (s₁.setTop (mkF m 19 #[.val (.ref ba), .val (.int st), .val (.int en), .val (.int ix), .unset, .unset] [(.int ((own_sel b0 b1 b2 b3 ix) &&& (255 : Int32)))]))
      refine OFin.back (fun _ hr => XS.istore X0.here hx rfl (hb hby d3_19) rfl (l' := #[.val (.ref ba), .val (.int st), .val (.int en), .val (.int ix), .val (.int ((own_sel b0 b1 b2 b3 ix) &&& (255 : Int32))), .unset]) rfl hr) ?_
      show OFin p e below s _ _ Q (s₁.setTop (mkF m 21 #[.val (.ref ba), .val (.int st), .val (.int en), .val (.int ix), .val (.int ((own_sel b0 b1 b2 b3 ix) &&& (255 : Int32))), .unset] []))
      refine OFin.back (fun _ hr => XS.aloadN X0.here hx rfl (hb hby d3_21) rfl rfl hr) ?_
      show OFin p e below s _ _ Q (s₁.setTop (mkF m 22 #[.val (.ref ba), .val (.int st), .val (.int en), .val (.int ix), .val (.int ((own_sel b0 b1 b2 b3 ix) &&& (255 : Int32))), .unset] [(.ref ba)]))
      refine OFin.back (fun _ hr => XS.iloadN X0.here hx rfl (hb hby d3_22) rfl hr) ?_
      show OFin p e below s _ _ Q (s₁.setTop (mkF m 23 #[.val (.ref ba), .val (.int st), .val (.int en), .val (.int ix), .val (.int ((own_sel b0 b1 b2 b3 ix) &&& (255 : Int32))), .unset] [(.int st), (.ref ba)]))
      refine OFin.back (fun _ hr => XS.iloadN X0.here hx rfl (hb hby d3_23) rfl hr) ?_
      show OFin p e below s _ _ Q (s₁.setTop (mkF m 24 #[.val (.ref ba), .val (.int st), .val (.int en), .val (.int ix), .val (.int ((own_sel b0 b1 b2 b3 ix) &&& (255 : Int32))), .unset] [(.int ix), (.int st), (.ref ba)]))
      obtain ⟨_, _, ⟨T4, L4, k4, n4⟩, -, X4, ⟨Lc4, hQ4, l4, y4, z4⟩, st4⟩ := Jvm.LawKit.callS X0 hx (y := (⟨"com/example/bytelore/bytelore/classfile/NamesIsModuleNamePinLaw", "escaped", "([BII)Z"⟩ : MethodName)) hown (mvT hZ (hw _ (List.mem_of_getElem? (i := 10) rfl))) (mvT hZ (hw _ (List.mem_of_getElem? (i := 11) rfl))) (mvT hZ (hw _ (List.mem_of_getElem? (i := 4) rfl))) (mvT hZ (hw _ (List.mem_of_getElem? (i := 12) rfl))) (by decide) (backOf (W := 0) (rm2 l Z a0 hw [] ba st ix kb b0 b1 b2 b3 (h0) n0 Z0 V0 hs0 hi) hZ (hw _ (List.mem_of_getElem? (i := 12) rfl)) (hw _ (List.mem_of_getElem? (i := 4) rfl)) (by decide) (by decide)) (g := (mkF m 24 #[.val (.ref ba), .val (.int st), .val (.int en), .val (.int ix), .val (.int ((own_sel b0 b1 b2 b3 ix) &&& (255 : Int32))), .unset] [(.int ix), (.int st), (.ref ba)])) rfl (by rw [hml]; rfl) (argsL := [(.ref ba), (.int st), (.int ix)]) (rest := []) (lenOf pd3_0 rfl) rfl (by show 2 * 0 + _ ≤ _; exact Nat.le_of_eq rfl) (hb hby d3_24) (fun _ _ => ⟨rfl, e0, (by decide : 0 + 0 ≤ _), (by decide : 0 + 0 ≤ _)⟩)
      dsimp only [Pt.U, Pt.locs, Pt.cells, Pt.slots] at X4 l4 y4 z4 st4 hQ4
      subst l4 y4 z4
      obtain ⟨rfl, N4q, e4⟩ := hQ4
      have N4 := Fr.app N0 N4q
      refine OFin.back st4 ?_
      show OFin p e below s _ _ Q (T4.setTop (mkF m 27 #[.val (.ref ba), .val (.int st), .val (.int en), .val (.int ix), .val (.int ((own_sel b0 b1 b2 b3 ix) &&& (255 : Int32))), .unset] [(.int (own_esc b0 b1 b2 b3 st ix))]))
      by_cases hc27_5 : (own_esc b0 b1 b2 b3 st ix) = (0 : Int32)
      · -- (own_esc b0 b1 b2 b3 st ix) = (0 : Int32)
        refine OFin.back (fun _ hr => XS.ifYes X4.here hx rfl (pc0 := 27) (pc' := 57) rfl (hb hby d3_27) rfl ((if0 _ _).trans (teq hc27_5).1) (by decide) (by decide) hr) ?_
        show OFin p e below s _ _ Q (T4.setTop (mkF m 57 #[.val (.ref ba), .val (.int st), .val (.int en), .val (.int ix), .val (.int ((own_sel b0 b1 b2 b3 ix) &&& (255 : Int32))), .unset] []))
        refine OFin.back (fun _ hr => XS.iload X4.here hx rfl (hb hby d3_57) rfl hr) ?_
        show OFin p e below s _ _ Q (T4.setTop (mkF m 59 #[.val (.ref ba), .val (.int st), .val (.int en), .val (.int ix), .val (.int ((own_sel b0 b1 b2 b3 ix) &&& (255 : Int32))), .unset] [(.int ((own_sel b0 b1 b2 b3 ix) &&& (255 : Int32)))]))
        refine OFin.back (fun _ hr => XS.bipush X4.here hx rfl (hb hby d3_59) hr) ?_
        show OFin p e below s _ _ Q (T4.setTop (mkF m 61 #[.val (.ref ba), .val (.int st), .val (.int en), .val (.int ix), .val (.int ((own_sel b0 b1 b2 b3 ix) &&& (255 : Int32))), .unset] [(.int (92 : Int32)), (.int ((own_sel b0 b1 b2 b3 ix) &&& (255 : Int32)))]))
        by_cases hc61_6 : ((own_sel b0 b1 b2 b3 ix) &&& (255 : Int32)) = (92 : Int32)
        · -- ((own_sel b0 b1 b2 b3 ix) &&& (255 : Int32)) = (92 : Int32)
          refine OFin.back (fun _ hr => XS.icmpNo X4.here hx rfl (hb hby d3_61) rfl (teq hc61_6).2 hr) ?_
          show OFin p e below s _ _ Q (T4.setTop (mkF m 64 #[.val (.ref ba), .val (.int st), .val (.int en), .val (.int ix), .val (.int ((own_sel b0 b1 b2 b3 ix) &&& (255 : Int32))), .unset] []))
          refine OFin.back (fun _ hr => XS.iloadN X4.here hx rfl (hb hby d3_64) rfl hr) ?_
          show OFin p e below s _ _ Q (T4.setTop (mkF m 65 #[.val (.ref ba), .val (.int st), .val (.int en), .val (.int ix), .val (.int ((own_sel b0 b1 b2 b3 ix) &&& (255 : Int32))), .unset] [(.int ix)]))
          refine OFin.back (fun _ hr => XS.iconst X4.here hx rfl (hb hby d3_65) hr) ?_
          show OFin p e below s _ _ Q (T4.setTop (mkF m 66 #[.val (.ref ba), .val (.int st), .val (.int en), .val (.int ix), .val (.int ((own_sel b0 b1 b2 b3 ix) &&& (255 : Int32))), .unset] [(.int (1 : Int32)), (.int ix)]))
          refine OFin.back (fun _ hr => XS.iadd X4.here hx rfl (hb hby d3_66) rfl hr) ?_
          show OFin p e below s _ _ Q (T4.setTop (mkF m 67 #[.val (.ref ba), .val (.int st), .val (.int en), .val (.int ix), .val (.int ((own_sel b0 b1 b2 b3 ix) &&& (255 : Int32))), .unset] [(.int (ix + (1 : Int32)))]))
          refine OFin.back (fun _ hr => XS.iloadN X4.here hx rfl (hb hby d3_67) rfl hr) ?_
          show OFin p e below s _ _ Q (T4.setTop (mkF m 68 #[.val (.ref ba), .val (.int st), .val (.int en), .val (.int ix), .val (.int ((own_sel b0 b1 b2 b3 ix) &&& (255 : Int32))), .unset] [(.int en), (.int (ix + (1 : Int32)))]))
          by_cases hc68_7 : (ix + (1 : Int32)) < en
          · -- (ix + (1 : Int32)) < en
            refine OFin.back (fun _ hr => XS.icmpNo X4.here hx rfl (hb hby d3_68) rfl (tlt hc68_7).2.1 hr) ?_
            show OFin p e below s _ _ Q (T4.setTop (mkF m 71 #[.val (.ref ba), .val (.int st), .val (.int en), .val (.int ix), .val (.int ((own_sel b0 b1 b2 b3 ix) &&& (255 : Int32))), .unset] []))
            refine OFin.back (fun _ hr => XS.iconst X4.here hx rfl (hb hby d3_71) hr) ?_
            show OFin p e below s _ _ Q (T4.setTop (mkF m 72 #[.val (.ref ba), .val (.int st), .val (.int en), .val (.int ix), .val (.int ((own_sel b0 b1 b2 b3 ix) &&& (255 : Int32))), .unset] [(.int (1 : Int32))]))
            refine OFin.back (fun _ hr => XS.goto X4.here hx rfl (pc0 := 72) (pc' := 76) rfl (hb hby d3_72) (by decide) (by decide) hr) ?_
            show OFin p e below s _ _ Q (T4.setTop (mkF m 76 #[.val (.ref ba), .val (.int st), .val (.int en), .val (.int ix), .val (.int ((own_sel b0 b1 b2 b3 ix) &&& (255 : Int32))), .unset] [(.int (1 : Int32))]))
            exact OFin.outN (t := .boolean) X4 hx Bd.returns (by simp) Bd.notSynchronized (hb hby d3_76) (by decide) (by decide) e4 (by rw [hQ]; exact ⟨by rw [own_pos, if_neg hc2_1, if_pos hc7_2, if_pos hc27_5, if_pos hc61_6, if_pos hc68_7]; try rfl, N4, rfl⟩)
          · -- not (ix + (1 : Int32)) < en
            refine OFin.back (fun _ hr => XS.icmpYes X4.here hx rfl (pc0 := 68) (pc' := 75) rfl (hb hby d3_68) rfl (flt hc68_7).2.1 (by decide) (by decide) hr) ?_
            show OFin p e below s _ _ Q (T4.setTop (mkF m 75 #[.val (.ref ba), .val (.int st), .val (.int en), .val (.int ix), .val (.int ((own_sel b0 b1 b2 b3 ix) &&& (255 : Int32))), .unset] []))
            refine OFin.back (fun _ hr => XS.iconst X4.here hx rfl (hb hby d3_75) hr) ?_
            show OFin p e below s _ _ Q (T4.setTop (mkF m 76 #[.val (.ref ba), .val (.int st), .val (.int en), .val (.int ix), .val (.int ((own_sel b0 b1 b2 b3 ix) &&& (255 : Int32))), .unset] [(.int (0 : Int32))]))
            exact OFin.outN (t := .boolean) X4 hx Bd.returns (by simp) Bd.notSynchronized (hb hby d3_76) (by decide) (by decide) e4 (by rw [hQ]; exact ⟨by rw [own_pos, if_neg hc2_1, if_pos hc7_2, if_pos hc27_5, if_pos hc61_6, if_neg hc68_7]; try rfl, N4, rfl⟩)
        · -- not ((own_sel b0 b1 b2 b3 ix) &&& (255 : Int32)) = (92 : Int32)
          refine OFin.back (fun _ hr => XS.icmpYes X4.here hx rfl (pc0 := 61) (pc' := 77) rfl (hb hby d3_61) rfl (feq hc61_6).2 (by decide) (by decide) hr) ?_
          show OFin p e below s _ _ Q (T4.setTop (mkF m 77 #[.val (.ref ba), .val (.int st), .val (.int en), .val (.int ix), .val (.int ((own_sel b0 b1 b2 b3 ix) &&& (255 : Int32))), .unset] []))
          refine OFin.back (fun _ hr => XS.iload X4.here hx rfl (hb hby d3_77) rfl hr) ?_
          show OFin p e below s _ _ Q (T4.setTop (mkF m 79 #[.val (.ref ba), .val (.int st), .val (.int en), .val (.int ix), .val (.int ((own_sel b0 b1 b2 b3 ix) &&& (255 : Int32))), .unset] [(.int ((own_sel b0 b1 b2 b3 ix) &&& (255 : Int32)))]))
          refine OFin.back (fun _ hr => XS.iconst X4.here hx rfl (hb hby d3_79) hr) ?_
          show OFin p e below s _ _ Q (T4.setTop (mkF m 80 #[.val (.ref ba), .val (.int st), .val (.int en), .val (.int ix), .val (.int ((own_sel b0 b1 b2 b3 ix) &&& (255 : Int32))), .unset] [(.int (1 : Int32)), (.int ((own_sel b0 b1 b2 b3 ix) &&& (255 : Int32)))]))
          by_cases hc80_8 : ((own_sel b0 b1 b2 b3 ix) &&& (255 : Int32)) < (1 : Int32)
          · -- ((own_sel b0 b1 b2 b3 ix) &&& (255 : Int32)) < (1 : Int32)
            refine OFin.back (fun _ hr => XS.icmpYes X4.here hx rfl (pc0 := 80) (pc' := 90) rfl (hb hby d3_80) rfl (tlt hc80_8).1 (by decide) (by decide) hr) ?_
            show OFin p e below s _ _ Q (T4.setTop (mkF m 90 #[.val (.ref ba), .val (.int st), .val (.int en), .val (.int ix), .val (.int ((own_sel b0 b1 b2 b3 ix) &&& (255 : Int32))), .unset] []))
            refine OFin.back (fun _ hr => XS.iload X4.here hx rfl (hb hby d3_90) rfl hr) ?_
            show OFin p e below s _ _ Q (T4.setTop (mkF m 92 #[.val (.ref ba), .val (.int st), .val (.int en), .val (.int ix), .val (.int ((own_sel b0 b1 b2 b3 ix) &&& (255 : Int32))), .unset] [(.int ((own_sel b0 b1 b2 b3 ix) &&& (255 : Int32)))]))
            refine OFin.back (fun _ hr => XS.sipush X4.here hx rfl (hb hby d3_92) hr) ?_
            show OFin p e below s _ _ Q (T4.setTop (mkF m 95 #[.val (.ref ba), .val (.int st), .val (.int en), .val (.int ix), .val (.int ((own_sel b0 b1 b2 b3 ix) &&& (255 : Int32))), .unset] [(.int (192 : Int32)), (.int ((own_sel b0 b1 b2 b3 ix) &&& (255 : Int32)))]))
            by_cases hc95_9 : ((own_sel b0 b1 b2 b3 ix) &&& (255 : Int32)) = (192 : Int32)
            · -- ((own_sel b0 b1 b2 b3 ix) &&& (255 : Int32)) = (192 : Int32)
              refine OFin.back (fun _ hr => XS.icmpYes X4.here hx rfl (pc0 := 95) (pc' := 112) rfl (hb hby d3_95) rfl (teq hc95_9).1 (by decide) (by decide) hr) ?_
              show OFin p e below s _ _ Q (T4.setTop (mkF m 112 #[.val (.ref ba), .val (.int st), .val (.int en), .val (.int ix), .val (.int ((own_sel b0 b1 b2 b3 ix) &&& (255 : Int32))), .unset] []))
              refine OFin.back (fun _ hr => XS.iconst X4.here hx rfl (hb hby d3_112) hr) ?_
              show OFin p e below s _ _ Q (T4.setTop (mkF m 113 #[.val (.ref ba), .val (.int st), .val (.int en), .val (.int ix), .val (.int ((own_sel b0 b1 b2 b3 ix) &&& (255 : Int32))), .unset] [(.int (1 : Int32))]))
              refine OFin.back (fun _ hr => XS.goto X4.here hx rfl (pc0 := 113) (pc' := 117) rfl (hb hby d3_113) (by decide) (by decide) hr) ?_
              show OFin p e below s _ _ Q (T4.setTop (mkF m 117 #[.val (.ref ba), .val (.int st), .val (.int en), .val (.int ix), .val (.int ((own_sel b0 b1 b2 b3 ix) &&& (255 : Int32))), .unset] [(.int (1 : Int32))]))
              refine OFin.back (fun _ hr => XS.istore X4.here hx rfl (hb hby d3_117) rfl (l' := #[.val (.ref ba), .val (.int st), .val (.int en), .val (.int ix), .val (.int ((own_sel b0 b1 b2 b3 ix) &&& (255 : Int32))), .val (.int (1 : Int32))]) rfl hr) ?_
              show OFin p e below s _ _ Q (T4.setTop (mkF m 119 #[.val (.ref ba), .val (.int st), .val (.int en), .val (.int ix), .val (.int ((own_sel b0 b1 b2 b3 ix) &&& (255 : Int32))), .val (.int (1 : Int32))] []))
              refine OFin.back (fun _ hr => XS.iload X4.here hx rfl (hb hby d3_119) rfl hr) ?_
              show OFin p e below s _ _ Q (T4.setTop (mkF m 121 #[.val (.ref ba), .val (.int st), .val (.int en), .val (.int ix), .val (.int ((own_sel b0 b1 b2 b3 ix) &&& (255 : Int32))), .val (.int (1 : Int32))] [(.int (1 : Int32))]))
              refine OFin.back (fun _ hr => XS.ifYes X4.here hx rfl (pc0 := 121) (pc' := 128) rfl (hb hby d3_121) rfl ((if0 _ _).trans (feq (by decide : ¬ ((1 : Int32) = (0 : Int32)))).2) (by decide) (by decide) hr) ?_
              show OFin p e below s _ _ Q (T4.setTop (mkF m 128 #[.val (.ref ba), .val (.int st), .val (.int en), .val (.int ix), .val (.int ((own_sel b0 b1 b2 b3 ix) &&& (255 : Int32))), .val (.int (1 : Int32))] []))
              refine OFin.back (fun _ hr => XS.iconst X4.here hx rfl (hb hby d3_128) hr) ?_
              show OFin p e below s _ _ Q (T4.setTop (mkF m 129 #[.val (.ref ba), .val (.int st), .val (.int en), .val (.int ix), .val (.int ((own_sel b0 b1 b2 b3 ix) &&& (255 : Int32))), .val (.int (1 : Int32))] [(.int (0 : Int32))]))
              exact OFin.outN (t := .boolean) X4 hx Bd.returns (by simp) Bd.notSynchronized (hb hby d3_129) (by decide) (by decide) e4 (by rw [hQ]; exact ⟨by rw [own_pos, if_neg hc2_1, if_pos hc7_2, if_pos hc27_5, if_neg hc61_6, if_pos hc80_8, if_pos hc95_9]; try rfl, N4, rfl⟩)
            · -- not ((own_sel b0 b1 b2 b3 ix) &&& (255 : Int32)) = (192 : Int32)
              refine OFin.back (fun _ hr => XS.icmpNo X4.here hx rfl (hb hby d3_95) rfl (feq hc95_9).1 hr) ?_
              show OFin p e below s _ _ Q (T4.setTop (mkF m 98 #[.val (.ref ba), .val (.int st), .val (.int en), .val (.int ix), .val (.int ((own_sel b0 b1 b2 b3 ix) &&& (255 : Int32))), .unset] []))
              refine OFin.back (fun _ hr => XS.iload X4.here hx rfl (hb hby d3_98) rfl hr) ?_
              show OFin p e below s _ _ Q (T4.setTop (mkF m 100 #[.val (.ref ba), .val (.int st), .val (.int en), .val (.int ix), .val (.int ((own_sel b0 b1 b2 b3 ix) &&& (255 : Int32))), .unset] [(.int ((own_sel b0 b1 b2 b3 ix) &&& (255 : Int32)))]))
              refine OFin.back (fun _ hr => XS.bipush X4.here hx rfl (hb hby d3_100) hr) ?_
              show OFin p e below s _ _ Q (T4.setTop (mkF m 102 #[.val (.ref ba), .val (.int st), .val (.int en), .val (.int ix), .val (.int ((own_sel b0 b1 b2 b3 ix) &&& (255 : Int32))), .unset] [(.int (58 : Int32)), (.int ((own_sel b0 b1 b2 b3 ix) &&& (255 : Int32)))]))
              by_cases hc102_10 : ((own_sel b0 b1 b2 b3 ix) &&& (255 : Int32)) = (58 : Int32)
              · -- ((own_sel b0 b1 b2 b3 ix) &&& (255 : Int32)) = (58 : Int32)
                refine OFin.back (fun _ hr => XS.icmpYes X4.here hx rfl (pc0 := 102) (pc' := 112) rfl (hb hby d3_102) rfl (teq hc102_10).1 (by decide) (by decide) hr) ?_
                show OFin p e below s _ _ Q (T4.setTop (mkF m 112 #[.val (.ref ba), .val (.int st), .val (.int en), .val (.int ix), .val (.int ((own_sel b0 b1 b2 b3 ix) &&& (255 : Int32))), .unset] []))
                refine OFin.back (fun _ hr => XS.iconst X4.here hx rfl (hb hby d3_112) hr) ?_
                show OFin p e below s _ _ Q (T4.setTop (mkF m 113 #[.val (.ref ba), .val (.int st), .val (.int en), .val (.int ix), .val (.int ((own_sel b0 b1 b2 b3 ix) &&& (255 : Int32))), .unset] [(.int (1 : Int32))]))
                refine OFin.back (fun _ hr => XS.goto X4.here hx rfl (pc0 := 113) (pc' := 117) rfl (hb hby d3_113) (by decide) (by decide) hr) ?_
                show OFin p e below s _ _ Q (T4.setTop (mkF m 117 #[.val (.ref ba), .val (.int st), .val (.int en), .val (.int ix), .val (.int ((own_sel b0 b1 b2 b3 ix) &&& (255 : Int32))), .unset] [(.int (1 : Int32))]))
                refine OFin.back (fun _ hr => XS.istore X4.here hx rfl (hb hby d3_117) rfl (l' := #[.val (.ref ba), .val (.int st), .val (.int en), .val (.int ix), .val (.int ((own_sel b0 b1 b2 b3 ix) &&& (255 : Int32))), .val (.int (1 : Int32))]) rfl hr) ?_
                show OFin p e below s _ _ Q (T4.setTop (mkF m 119 #[.val (.ref ba), .val (.int st), .val (.int en), .val (.int ix), .val (.int ((own_sel b0 b1 b2 b3 ix) &&& (255 : Int32))), .val (.int (1 : Int32))] []))
                refine OFin.back (fun _ hr => XS.iload X4.here hx rfl (hb hby d3_119) rfl hr) ?_
                show OFin p e below s _ _ Q (T4.setTop (mkF m 121 #[.val (.ref ba), .val (.int st), .val (.int en), .val (.int ix), .val (.int ((own_sel b0 b1 b2 b3 ix) &&& (255 : Int32))), .val (.int (1 : Int32))] [(.int (1 : Int32))]))
                refine OFin.back (fun _ hr => XS.ifYes X4.here hx rfl (pc0 := 121) (pc' := 128) rfl (hb hby d3_121) rfl ((if0 _ _).trans (feq (by decide : ¬ ((1 : Int32) = (0 : Int32)))).2) (by decide) (by decide) hr) ?_
                show OFin p e below s _ _ Q (T4.setTop (mkF m 128 #[.val (.ref ba), .val (.int st), .val (.int en), .val (.int ix), .val (.int ((own_sel b0 b1 b2 b3 ix) &&& (255 : Int32))), .val (.int (1 : Int32))] []))
                refine OFin.back (fun _ hr => XS.iconst X4.here hx rfl (hb hby d3_128) hr) ?_
                show OFin p e below s _ _ Q (T4.setTop (mkF m 129 #[.val (.ref ba), .val (.int st), .val (.int en), .val (.int ix), .val (.int ((own_sel b0 b1 b2 b3 ix) &&& (255 : Int32))), .val (.int (1 : Int32))] [(.int (0 : Int32))]))
                exact OFin.outN (t := .boolean) X4 hx Bd.returns (by simp) Bd.notSynchronized (hb hby d3_129) (by decide) (by decide) e4 (by rw [hQ]; exact ⟨by rw [own_pos, if_neg hc2_1, if_pos hc7_2, if_pos hc27_5, if_neg hc61_6, if_pos hc80_8, if_neg hc95_9, if_pos hc102_10]; try rfl, N4, rfl⟩)
              · -- not ((own_sel b0 b1 b2 b3 ix) &&& (255 : Int32)) = (58 : Int32)
                refine OFin.back (fun _ hr => XS.icmpNo X4.here hx rfl (hb hby d3_102) rfl (feq hc102_10).1 hr) ?_
                show OFin p e below s _ _ Q (T4.setTop (mkF m 105 #[.val (.ref ba), .val (.int st), .val (.int en), .val (.int ix), .val (.int ((own_sel b0 b1 b2 b3 ix) &&& (255 : Int32))), .unset] []))
                refine OFin.back (fun _ hr => XS.iload X4.here hx rfl (hb hby d3_105) rfl hr) ?_
                show OFin p e below s _ _ Q (T4.setTop (mkF m 107 #[.val (.ref ba), .val (.int st), .val (.int en), .val (.int ix), .val (.int ((own_sel b0 b1 b2 b3 ix) &&& (255 : Int32))), .unset] [(.int ((own_sel b0 b1 b2 b3 ix) &&& (255 : Int32)))]))
                refine OFin.back (fun _ hr => XS.bipush X4.here hx rfl (hb hby d3_107) hr) ?_
                show OFin p e below s _ _ Q (T4.setTop (mkF m 109 #[.val (.ref ba), .val (.int st), .val (.int en), .val (.int ix), .val (.int ((own_sel b0 b1 b2 b3 ix) &&& (255 : Int32))), .unset] [(.int (64 : Int32)), (.int ((own_sel b0 b1 b2 b3 ix) &&& (255 : Int32)))]))
                by_cases hc109_11 : ((own_sel b0 b1 b2 b3 ix) &&& (255 : Int32)) = (64 : Int32)
                · -- ((own_sel b0 b1 b2 b3 ix) &&& (255 : Int32)) = (64 : Int32)
                  refine OFin.back (fun _ hr => XS.icmpNo X4.here hx rfl (hb hby d3_109) rfl (teq hc109_11).2 hr) ?_
                  show OFin p e below s _ _ Q (T4.setTop (mkF m 112 #[.val (.ref ba), .val (.int st), .val (.int en), .val (.int ix), .val (.int ((own_sel b0 b1 b2 b3 ix) &&& (255 : Int32))), .unset] []))
                  refine OFin.back (fun _ hr => XS.iconst X4.here hx rfl (hb hby d3_112) hr) ?_
                  show OFin p e below s _ _ Q (T4.setTop (mkF m 113 #[.val (.ref ba), .val (.int st), .val (.int en), .val (.int ix), .val (.int ((own_sel b0 b1 b2 b3 ix) &&& (255 : Int32))), .unset] [(.int (1 : Int32))]))
                  refine OFin.back (fun _ hr => XS.goto X4.here hx rfl (pc0 := 113) (pc' := 117) rfl (hb hby d3_113) (by decide) (by decide) hr) ?_
                  show OFin p e below s _ _ Q (T4.setTop (mkF m 117 #[.val (.ref ba), .val (.int st), .val (.int en), .val (.int ix), .val (.int ((own_sel b0 b1 b2 b3 ix) &&& (255 : Int32))), .unset] [(.int (1 : Int32))]))
                  refine OFin.back (fun _ hr => XS.istore X4.here hx rfl (hb hby d3_117) rfl (l' := #[.val (.ref ba), .val (.int st), .val (.int en), .val (.int ix), .val (.int ((own_sel b0 b1 b2 b3 ix) &&& (255 : Int32))), .val (.int (1 : Int32))]) rfl hr) ?_
                  show OFin p e below s _ _ Q (T4.setTop (mkF m 119 #[.val (.ref ba), .val (.int st), .val (.int en), .val (.int ix), .val (.int ((own_sel b0 b1 b2 b3 ix) &&& (255 : Int32))), .val (.int (1 : Int32))] []))
                  refine OFin.back (fun _ hr => XS.iload X4.here hx rfl (hb hby d3_119) rfl hr) ?_
                  show OFin p e below s _ _ Q (T4.setTop (mkF m 121 #[.val (.ref ba), .val (.int st), .val (.int en), .val (.int ix), .val (.int ((own_sel b0 b1 b2 b3 ix) &&& (255 : Int32))), .val (.int (1 : Int32))] [(.int (1 : Int32))]))
                  refine OFin.back (fun _ hr => XS.ifYes X4.here hx rfl (pc0 := 121) (pc' := 128) rfl (hb hby d3_121) rfl ((if0 _ _).trans (feq (by decide : ¬ ((1 : Int32) = (0 : Int32)))).2) (by decide) (by decide) hr) ?_
                  show OFin p e below s _ _ Q (T4.setTop (mkF m 128 #[.val (.ref ba), .val (.int st), .val (.int en), .val (.int ix), .val (.int ((own_sel b0 b1 b2 b3 ix) &&& (255 : Int32))), .val (.int (1 : Int32))] []))
                  refine OFin.back (fun _ hr => XS.iconst X4.here hx rfl (hb hby d3_128) hr) ?_
                  show OFin p e below s _ _ Q (T4.setTop (mkF m 129 #[.val (.ref ba), .val (.int st), .val (.int en), .val (.int ix), .val (.int ((own_sel b0 b1 b2 b3 ix) &&& (255 : Int32))), .val (.int (1 : Int32))] [(.int (0 : Int32))]))
                  exact OFin.outN (t := .boolean) X4 hx Bd.returns (by simp) Bd.notSynchronized (hb hby d3_129) (by decide) (by decide) e4 (by rw [hQ]; exact ⟨by rw [own_pos, if_neg hc2_1, if_pos hc7_2, if_pos hc27_5, if_neg hc61_6, if_pos hc80_8, if_neg hc95_9, if_neg hc102_10, if_pos hc109_11]; try rfl, N4, rfl⟩)
                · -- not ((own_sel b0 b1 b2 b3 ix) &&& (255 : Int32)) = (64 : Int32)
                  refine OFin.back (fun _ hr => XS.icmpYes X4.here hx rfl (pc0 := 109) (pc' := 116) rfl (hb hby d3_109) rfl (feq hc109_11).2 (by decide) (by decide) hr) ?_
                  show OFin p e below s _ _ Q (T4.setTop (mkF m 116 #[.val (.ref ba), .val (.int st), .val (.int en), .val (.int ix), .val (.int ((own_sel b0 b1 b2 b3 ix) &&& (255 : Int32))), .unset] []))
                  refine OFin.back (fun _ hr => XS.iconst X4.here hx rfl (hb hby d3_116) hr) ?_
                  show OFin p e below s _ _ Q (T4.setTop (mkF m 117 #[.val (.ref ba), .val (.int st), .val (.int en), .val (.int ix), .val (.int ((own_sel b0 b1 b2 b3 ix) &&& (255 : Int32))), .unset] [(.int (0 : Int32))]))
                  refine OFin.back (fun _ hr => XS.istore X4.here hx rfl (hb hby d3_117) rfl (l' := #[.val (.ref ba), .val (.int st), .val (.int en), .val (.int ix), .val (.int ((own_sel b0 b1 b2 b3 ix) &&& (255 : Int32))), .val (.int (0 : Int32))]) rfl hr) ?_
                  show OFin p e below s _ _ Q (T4.setTop (mkF m 119 #[.val (.ref ba), .val (.int st), .val (.int en), .val (.int ix), .val (.int ((own_sel b0 b1 b2 b3 ix) &&& (255 : Int32))), .val (.int (0 : Int32))] []))
                  refine OFin.back (fun _ hr => XS.iload X4.here hx rfl (hb hby d3_119) rfl hr) ?_
                  show OFin p e below s _ _ Q (T4.setTop (mkF m 121 #[.val (.ref ba), .val (.int st), .val (.int en), .val (.int ix), .val (.int ((own_sel b0 b1 b2 b3 ix) &&& (255 : Int32))), .val (.int (0 : Int32))] [(.int (0 : Int32))]))
                  refine OFin.back (fun _ hr => XS.ifNo X4.here hx rfl (hb hby d3_121) rfl ((if0 _ _).trans (teq (by decide : (0 : Int32) = (0 : Int32))).2) hr) ?_
                  show OFin p e below s _ _ Q (T4.setTop (mkF m 124 #[.val (.ref ba), .val (.int st), .val (.int en), .val (.int ix), .val (.int ((own_sel b0 b1 b2 b3 ix) &&& (255 : Int32))), .val (.int (0 : Int32))] []))
                  refine OFin.back (fun _ hr => XS.iconst X4.here hx rfl (hb hby d3_124) hr) ?_
                  show OFin p e below s _ _ Q (T4.setTop (mkF m 125 #[.val (.ref ba), .val (.int st), .val (.int en), .val (.int ix), .val (.int ((own_sel b0 b1 b2 b3 ix) &&& (255 : Int32))), .val (.int (0 : Int32))] [(.int (1 : Int32))]))
                  refine OFin.back (fun _ hr => XS.goto X4.here hx rfl (pc0 := 125) (pc' := 129) rfl (hb hby d3_125) (by decide) (by decide) hr) ?_
                  show OFin p e below s _ _ Q (T4.setTop (mkF m 129 #[.val (.ref ba), .val (.int st), .val (.int en), .val (.int ix), .val (.int ((own_sel b0 b1 b2 b3 ix) &&& (255 : Int32))), .val (.int (0 : Int32))] [(.int (1 : Int32))]))
                  exact OFin.outN (t := .boolean) X4 hx Bd.returns (by simp) Bd.notSynchronized (hb hby d3_129) (by decide) (by decide) e4 (by rw [hQ]; exact ⟨by rw [own_pos, if_neg hc2_1, if_pos hc7_2, if_pos hc27_5, if_neg hc61_6, if_pos hc80_8, if_neg hc95_9, if_neg hc102_10, if_neg hc109_11]; try rfl, N4, rfl⟩)
          · -- not ((own_sel b0 b1 b2 b3 ix) &&& (255 : Int32)) < (1 : Int32)
            refine OFin.back (fun _ hr => XS.icmpNo X4.here hx rfl (hb hby d3_80) rfl (flt hc80_8).1 hr) ?_
            show OFin p e below s _ _ Q (T4.setTop (mkF m 83 #[.val (.ref ba), .val (.int st), .val (.int en), .val (.int ix), .val (.int ((own_sel b0 b1 b2 b3 ix) &&& (255 : Int32))), .unset] []))
            refine OFin.back (fun _ hr => XS.iload X4.here hx rfl (hb hby d3_83) rfl hr) ?_
            show OFin p e below s _ _ Q (T4.setTop (mkF m 85 #[.val (.ref ba), .val (.int st), .val (.int en), .val (.int ix), .val (.int ((own_sel b0 b1 b2 b3 ix) &&& (255 : Int32))), .unset] [(.int ((own_sel b0 b1 b2 b3 ix) &&& (255 : Int32)))]))
            refine OFin.back (fun _ hr => XS.bipush X4.here hx rfl (hb hby d3_85) hr) ?_
            show OFin p e below s _ _ Q (T4.setTop (mkF m 87 #[.val (.ref ba), .val (.int st), .val (.int en), .val (.int ix), .val (.int ((own_sel b0 b1 b2 b3 ix) &&& (255 : Int32))), .unset] [(.int (31 : Int32)), (.int ((own_sel b0 b1 b2 b3 ix) &&& (255 : Int32)))]))
            by_cases hc87_12 : (31 : Int32) < ((own_sel b0 b1 b2 b3 ix) &&& (255 : Int32))
            · -- (31 : Int32) < ((own_sel b0 b1 b2 b3 ix) &&& (255 : Int32))
              refine OFin.back (fun _ hr => XS.icmpNo X4.here hx rfl (hb hby d3_87) rfl (tlt hc87_12).2.2.2 hr) ?_
              show OFin p e below s _ _ Q (T4.setTop (mkF m 90 #[.val (.ref ba), .val (.int st), .val (.int en), .val (.int ix), .val (.int ((own_sel b0 b1 b2 b3 ix) &&& (255 : Int32))), .unset] []))
              refine OFin.back (fun _ hr => XS.iload X4.here hx rfl (hb hby d3_90) rfl hr) ?_
              show OFin p e below s _ _ Q (T4.setTop (mkF m 92 #[.val (.ref ba), .val (.int st), .val (.int en), .val (.int ix), .val (.int ((own_sel b0 b1 b2 b3 ix) &&& (255 : Int32))), .unset] [(.int ((own_sel b0 b1 b2 b3 ix) &&& (255 : Int32)))]))
              refine OFin.back (fun _ hr => XS.sipush X4.here hx rfl (hb hby d3_92) hr) ?_
              show OFin p e below s _ _ Q (T4.setTop (mkF m 95 #[.val (.ref ba), .val (.int st), .val (.int en), .val (.int ix), .val (.int ((own_sel b0 b1 b2 b3 ix) &&& (255 : Int32))), .unset] [(.int (192 : Int32)), (.int ((own_sel b0 b1 b2 b3 ix) &&& (255 : Int32)))]))
              by_cases hc95_13 : ((own_sel b0 b1 b2 b3 ix) &&& (255 : Int32)) = (192 : Int32)
              · -- ((own_sel b0 b1 b2 b3 ix) &&& (255 : Int32)) = (192 : Int32)
                refine OFin.back (fun _ hr => XS.icmpYes X4.here hx rfl (pc0 := 95) (pc' := 112) rfl (hb hby d3_95) rfl (teq hc95_13).1 (by decide) (by decide) hr) ?_
                show OFin p e below s _ _ Q (T4.setTop (mkF m 112 #[.val (.ref ba), .val (.int st), .val (.int en), .val (.int ix), .val (.int ((own_sel b0 b1 b2 b3 ix) &&& (255 : Int32))), .unset] []))
                refine OFin.back (fun _ hr => XS.iconst X4.here hx rfl (hb hby d3_112) hr) ?_
                show OFin p e below s _ _ Q (T4.setTop (mkF m 113 #[.val (.ref ba), .val (.int st), .val (.int en), .val (.int ix), .val (.int ((own_sel b0 b1 b2 b3 ix) &&& (255 : Int32))), .unset] [(.int (1 : Int32))]))
                refine OFin.back (fun _ hr => XS.goto X4.here hx rfl (pc0 := 113) (pc' := 117) rfl (hb hby d3_113) (by decide) (by decide) hr) ?_
                show OFin p e below s _ _ Q (T4.setTop (mkF m 117 #[.val (.ref ba), .val (.int st), .val (.int en), .val (.int ix), .val (.int ((own_sel b0 b1 b2 b3 ix) &&& (255 : Int32))), .unset] [(.int (1 : Int32))]))
                refine OFin.back (fun _ hr => XS.istore X4.here hx rfl (hb hby d3_117) rfl (l' := #[.val (.ref ba), .val (.int st), .val (.int en), .val (.int ix), .val (.int ((own_sel b0 b1 b2 b3 ix) &&& (255 : Int32))), .val (.int (1 : Int32))]) rfl hr) ?_
                show OFin p e below s _ _ Q (T4.setTop (mkF m 119 #[.val (.ref ba), .val (.int st), .val (.int en), .val (.int ix), .val (.int ((own_sel b0 b1 b2 b3 ix) &&& (255 : Int32))), .val (.int (1 : Int32))] []))
                refine OFin.back (fun _ hr => XS.iload X4.here hx rfl (hb hby d3_119) rfl hr) ?_
                show OFin p e below s _ _ Q (T4.setTop (mkF m 121 #[.val (.ref ba), .val (.int st), .val (.int en), .val (.int ix), .val (.int ((own_sel b0 b1 b2 b3 ix) &&& (255 : Int32))), .val (.int (1 : Int32))] [(.int (1 : Int32))]))
                refine OFin.back (fun _ hr => XS.ifYes X4.here hx rfl (pc0 := 121) (pc' := 128) rfl (hb hby d3_121) rfl ((if0 _ _).trans (feq (by decide : ¬ ((1 : Int32) = (0 : Int32)))).2) (by decide) (by decide) hr) ?_
                show OFin p e below s _ _ Q (T4.setTop (mkF m 128 #[.val (.ref ba), .val (.int st), .val (.int en), .val (.int ix), .val (.int ((own_sel b0 b1 b2 b3 ix) &&& (255 : Int32))), .val (.int (1 : Int32))] []))
                refine OFin.back (fun _ hr => XS.iconst X4.here hx rfl (hb hby d3_128) hr) ?_
                show OFin p e below s _ _ Q (T4.setTop (mkF m 129 #[.val (.ref ba), .val (.int st), .val (.int en), .val (.int ix), .val (.int ((own_sel b0 b1 b2 b3 ix) &&& (255 : Int32))), .val (.int (1 : Int32))] [(.int (0 : Int32))]))
                exact OFin.outN (t := .boolean) X4 hx Bd.returns (by simp) Bd.notSynchronized (hb hby d3_129) (by decide) (by decide) e4 (by rw [hQ]; exact ⟨by rw [own_pos, if_neg hc2_1, if_pos hc7_2, if_pos hc27_5, if_neg hc61_6, if_neg hc80_8, if_pos hc87_12, if_pos hc95_13]; try rfl, N4, rfl⟩)
              · -- not ((own_sel b0 b1 b2 b3 ix) &&& (255 : Int32)) = (192 : Int32)
                refine OFin.back (fun _ hr => XS.icmpNo X4.here hx rfl (hb hby d3_95) rfl (feq hc95_13).1 hr) ?_
                show OFin p e below s _ _ Q (T4.setTop (mkF m 98 #[.val (.ref ba), .val (.int st), .val (.int en), .val (.int ix), .val (.int ((own_sel b0 b1 b2 b3 ix) &&& (255 : Int32))), .unset] []))
                refine OFin.back (fun _ hr => XS.iload X4.here hx rfl (hb hby d3_98) rfl hr) ?_
                show OFin p e below s _ _ Q (T4.setTop (mkF m 100 #[.val (.ref ba), .val (.int st), .val (.int en), .val (.int ix), .val (.int ((own_sel b0 b1 b2 b3 ix) &&& (255 : Int32))), .unset] [(.int ((own_sel b0 b1 b2 b3 ix) &&& (255 : Int32)))]))
                refine OFin.back (fun _ hr => XS.bipush X4.here hx rfl (hb hby d3_100) hr) ?_
                show OFin p e below s _ _ Q (T4.setTop (mkF m 102 #[.val (.ref ba), .val (.int st), .val (.int en), .val (.int ix), .val (.int ((own_sel b0 b1 b2 b3 ix) &&& (255 : Int32))), .unset] [(.int (58 : Int32)), (.int ((own_sel b0 b1 b2 b3 ix) &&& (255 : Int32)))]))
                by_cases hc102_14 : ((own_sel b0 b1 b2 b3 ix) &&& (255 : Int32)) = (58 : Int32)
                · -- ((own_sel b0 b1 b2 b3 ix) &&& (255 : Int32)) = (58 : Int32)
                  refine OFin.back (fun _ hr => XS.icmpYes X4.here hx rfl (pc0 := 102) (pc' := 112) rfl (hb hby d3_102) rfl (teq hc102_14).1 (by decide) (by decide) hr) ?_
                  show OFin p e below s _ _ Q (T4.setTop (mkF m 112 #[.val (.ref ba), .val (.int st), .val (.int en), .val (.int ix), .val (.int ((own_sel b0 b1 b2 b3 ix) &&& (255 : Int32))), .unset] []))
                  refine OFin.back (fun _ hr => XS.iconst X4.here hx rfl (hb hby d3_112) hr) ?_
                  show OFin p e below s _ _ Q (T4.setTop (mkF m 113 #[.val (.ref ba), .val (.int st), .val (.int en), .val (.int ix), .val (.int ((own_sel b0 b1 b2 b3 ix) &&& (255 : Int32))), .unset] [(.int (1 : Int32))]))
                  refine OFin.back (fun _ hr => XS.goto X4.here hx rfl (pc0 := 113) (pc' := 117) rfl (hb hby d3_113) (by decide) (by decide) hr) ?_
                  show OFin p e below s _ _ Q (T4.setTop (mkF m 117 #[.val (.ref ba), .val (.int st), .val (.int en), .val (.int ix), .val (.int ((own_sel b0 b1 b2 b3 ix) &&& (255 : Int32))), .unset] [(.int (1 : Int32))]))
                  refine OFin.back (fun _ hr => XS.istore X4.here hx rfl (hb hby d3_117) rfl (l' := #[.val (.ref ba), .val (.int st), .val (.int en), .val (.int ix), .val (.int ((own_sel b0 b1 b2 b3 ix) &&& (255 : Int32))), .val (.int (1 : Int32))]) rfl hr) ?_
                  show OFin p e below s _ _ Q (T4.setTop (mkF m 119 #[.val (.ref ba), .val (.int st), .val (.int en), .val (.int ix), .val (.int ((own_sel b0 b1 b2 b3 ix) &&& (255 : Int32))), .val (.int (1 : Int32))] []))
                  refine OFin.back (fun _ hr => XS.iload X4.here hx rfl (hb hby d3_119) rfl hr) ?_
                  show OFin p e below s _ _ Q (T4.setTop (mkF m 121 #[.val (.ref ba), .val (.int st), .val (.int en), .val (.int ix), .val (.int ((own_sel b0 b1 b2 b3 ix) &&& (255 : Int32))), .val (.int (1 : Int32))] [(.int (1 : Int32))]))
                  refine OFin.back (fun _ hr => XS.ifYes X4.here hx rfl (pc0 := 121) (pc' := 128) rfl (hb hby d3_121) rfl ((if0 _ _).trans (feq (by decide : ¬ ((1 : Int32) = (0 : Int32)))).2) (by decide) (by decide) hr) ?_
                  show OFin p e below s _ _ Q (T4.setTop (mkF m 128 #[.val (.ref ba), .val (.int st), .val (.int en), .val (.int ix), .val (.int ((own_sel b0 b1 b2 b3 ix) &&& (255 : Int32))), .val (.int (1 : Int32))] []))
                  refine OFin.back (fun _ hr => XS.iconst X4.here hx rfl (hb hby d3_128) hr) ?_
                  show OFin p e below s _ _ Q (T4.setTop (mkF m 129 #[.val (.ref ba), .val (.int st), .val (.int en), .val (.int ix), .val (.int ((own_sel b0 b1 b2 b3 ix) &&& (255 : Int32))), .val (.int (1 : Int32))] [(.int (0 : Int32))]))
                  exact OFin.outN (t := .boolean) X4 hx Bd.returns (by simp) Bd.notSynchronized (hb hby d3_129) (by decide) (by decide) e4 (by rw [hQ]; exact ⟨by rw [own_pos, if_neg hc2_1, if_pos hc7_2, if_pos hc27_5, if_neg hc61_6, if_neg hc80_8, if_pos hc87_12, if_neg hc95_13, if_pos hc102_14]; try rfl, N4, rfl⟩)
                · -- not ((own_sel b0 b1 b2 b3 ix) &&& (255 : Int32)) = (58 : Int32)
                  refine OFin.back (fun _ hr => XS.icmpNo X4.here hx rfl (hb hby d3_102) rfl (feq hc102_14).1 hr) ?_
                  show OFin p e below s _ _ Q (T4.setTop (mkF m 105 #[.val (.ref ba), .val (.int st), .val (.int en), .val (.int ix), .val (.int ((own_sel b0 b1 b2 b3 ix) &&& (255 : Int32))), .unset] []))
                  refine OFin.back (fun _ hr => XS.iload X4.here hx rfl (hb hby d3_105) rfl hr) ?_
                  show OFin p e below s _ _ Q (T4.setTop (mkF m 107 #[.val (.ref ba), .val (.int st), .val (.int en), .val (.int ix), .val (.int ((own_sel b0 b1 b2 b3 ix) &&& (255 : Int32))), .unset] [(.int ((own_sel b0 b1 b2 b3 ix) &&& (255 : Int32)))]))
                  refine OFin.back (fun _ hr => XS.bipush X4.here hx rfl (hb hby d3_107) hr) ?_
                  show OFin p e below s _ _ Q (T4.setTop (mkF m 109 #[.val (.ref ba), .val (.int st), .val (.int en), .val (.int ix), .val (.int ((own_sel b0 b1 b2 b3 ix) &&& (255 : Int32))), .unset] [(.int (64 : Int32)), (.int ((own_sel b0 b1 b2 b3 ix) &&& (255 : Int32)))]))
                  by_cases hc109_15 : ((own_sel b0 b1 b2 b3 ix) &&& (255 : Int32)) = (64 : Int32)
                  · -- ((own_sel b0 b1 b2 b3 ix) &&& (255 : Int32)) = (64 : Int32)
                    refine OFin.back (fun _ hr => XS.icmpNo X4.here hx rfl (hb hby d3_109) rfl (teq hc109_15).2 hr) ?_
                    show OFin p e below s _ _ Q (T4.setTop (mkF m 112 #[.val (.ref ba), .val (.int st), .val (.int en), .val (.int ix), .val (.int ((own_sel b0 b1 b2 b3 ix) &&& (255 : Int32))), .unset] []))
                    refine OFin.back (fun _ hr => XS.iconst X4.here hx rfl (hb hby d3_112) hr) ?_
                    show OFin p e below s _ _ Q (T4.setTop (mkF m 113 #[.val (.ref ba), .val (.int st), .val (.int en), .val (.int ix), .val (.int ((own_sel b0 b1 b2 b3 ix) &&& (255 : Int32))), .unset] [(.int (1 : Int32))]))
                    refine OFin.back (fun _ hr => XS.goto X4.here hx rfl (pc0 := 113) (pc' := 117) rfl (hb hby d3_113) (by decide) (by decide) hr) ?_
                    show OFin p e below s _ _ Q (T4.setTop (mkF m 117 #[.val (.ref ba), .val (.int st), .val (.int en), .val (.int ix), .val (.int ((own_sel b0 b1 b2 b3 ix) &&& (255 : Int32))), .unset] [(.int (1 : Int32))]))
                    refine OFin.back (fun _ hr => XS.istore X4.here hx rfl (hb hby d3_117) rfl (l' := #[.val (.ref ba), .val (.int st), .val (.int en), .val (.int ix), .val (.int ((own_sel b0 b1 b2 b3 ix) &&& (255 : Int32))), .val (.int (1 : Int32))]) rfl hr) ?_
                    show OFin p e below s _ _ Q (T4.setTop (mkF m 119 #[.val (.ref ba), .val (.int st), .val (.int en), .val (.int ix), .val (.int ((own_sel b0 b1 b2 b3 ix) &&& (255 : Int32))), .val (.int (1 : Int32))] []))
                    refine OFin.back (fun _ hr => XS.iload X4.here hx rfl (hb hby d3_119) rfl hr) ?_
                    show OFin p e below s _ _ Q (T4.setTop (mkF m 121 #[.val (.ref ba), .val (.int st), .val (.int en), .val (.int ix), .val (.int ((own_sel b0 b1 b2 b3 ix) &&& (255 : Int32))), .val (.int (1 : Int32))] [(.int (1 : Int32))]))
                    refine OFin.back (fun _ hr => XS.ifYes X4.here hx rfl (pc0 := 121) (pc' := 128) rfl (hb hby d3_121) rfl ((if0 _ _).trans (feq (by decide : ¬ ((1 : Int32) = (0 : Int32)))).2) (by decide) (by decide) hr) ?_
                    show OFin p e below s _ _ Q (T4.setTop (mkF m 128 #[.val (.ref ba), .val (.int st), .val (.int en), .val (.int ix), .val (.int ((own_sel b0 b1 b2 b3 ix) &&& (255 : Int32))), .val (.int (1 : Int32))] []))
                    refine OFin.back (fun _ hr => XS.iconst X4.here hx rfl (hb hby d3_128) hr) ?_
                    show OFin p e below s _ _ Q (T4.setTop (mkF m 129 #[.val (.ref ba), .val (.int st), .val (.int en), .val (.int ix), .val (.int ((own_sel b0 b1 b2 b3 ix) &&& (255 : Int32))), .val (.int (1 : Int32))] [(.int (0 : Int32))]))
                    exact OFin.outN (t := .boolean) X4 hx Bd.returns (by simp) Bd.notSynchronized (hb hby d3_129) (by decide) (by decide) e4 (by rw [hQ]; exact ⟨by rw [own_pos, if_neg hc2_1, if_pos hc7_2, if_pos hc27_5, if_neg hc61_6, if_neg hc80_8, if_pos hc87_12, if_neg hc95_13, if_neg hc102_14, if_pos hc109_15]; try rfl, N4, rfl⟩)
                  · -- not ((own_sel b0 b1 b2 b3 ix) &&& (255 : Int32)) = (64 : Int32)
                    refine OFin.back (fun _ hr => XS.icmpYes X4.here hx rfl (pc0 := 109) (pc' := 116) rfl (hb hby d3_109) rfl (feq hc109_15).2 (by decide) (by decide) hr) ?_
                    show OFin p e below s _ _ Q (T4.setTop (mkF m 116 #[.val (.ref ba), .val (.int st), .val (.int en), .val (.int ix), .val (.int ((own_sel b0 b1 b2 b3 ix) &&& (255 : Int32))), .unset] []))
                    refine OFin.back (fun _ hr => XS.iconst X4.here hx rfl (hb hby d3_116) hr) ?_
                    show OFin p e below s _ _ Q (T4.setTop (mkF m 117 #[.val (.ref ba), .val (.int st), .val (.int en), .val (.int ix), .val (.int ((own_sel b0 b1 b2 b3 ix) &&& (255 : Int32))), .unset] [(.int (0 : Int32))]))
                    refine OFin.back (fun _ hr => XS.istore X4.here hx rfl (hb hby d3_117) rfl (l' := #[.val (.ref ba), .val (.int st), .val (.int en), .val (.int ix), .val (.int ((own_sel b0 b1 b2 b3 ix) &&& (255 : Int32))), .val (.int (0 : Int32))]) rfl hr) ?_
                    show OFin p e below s _ _ Q (T4.setTop (mkF m 119 #[.val (.ref ba), .val (.int st), .val (.int en), .val (.int ix), .val (.int ((own_sel b0 b1 b2 b3 ix) &&& (255 : Int32))), .val (.int (0 : Int32))] []))
                    refine OFin.back (fun _ hr => XS.iload X4.here hx rfl (hb hby d3_119) rfl hr) ?_
                    show OFin p e below s _ _ Q (T4.setTop (mkF m 121 #[.val (.ref ba), .val (.int st), .val (.int en), .val (.int ix), .val (.int ((own_sel b0 b1 b2 b3 ix) &&& (255 : Int32))), .val (.int (0 : Int32))] [(.int (0 : Int32))]))
                    refine OFin.back (fun _ hr => XS.ifNo X4.here hx rfl (hb hby d3_121) rfl ((if0 _ _).trans (teq (by decide : (0 : Int32) = (0 : Int32))).2) hr) ?_
                    show OFin p e below s _ _ Q (T4.setTop (mkF m 124 #[.val (.ref ba), .val (.int st), .val (.int en), .val (.int ix), .val (.int ((own_sel b0 b1 b2 b3 ix) &&& (255 : Int32))), .val (.int (0 : Int32))] []))
                    refine OFin.back (fun _ hr => XS.iconst X4.here hx rfl (hb hby d3_124) hr) ?_
                    show OFin p e below s _ _ Q (T4.setTop (mkF m 125 #[.val (.ref ba), .val (.int st), .val (.int en), .val (.int ix), .val (.int ((own_sel b0 b1 b2 b3 ix) &&& (255 : Int32))), .val (.int (0 : Int32))] [(.int (1 : Int32))]))
                    refine OFin.back (fun _ hr => XS.goto X4.here hx rfl (pc0 := 125) (pc' := 129) rfl (hb hby d3_125) (by decide) (by decide) hr) ?_
                    show OFin p e below s _ _ Q (T4.setTop (mkF m 129 #[.val (.ref ba), .val (.int st), .val (.int en), .val (.int ix), .val (.int ((own_sel b0 b1 b2 b3 ix) &&& (255 : Int32))), .val (.int (0 : Int32))] [(.int (1 : Int32))]))
                    exact OFin.outN (t := .boolean) X4 hx Bd.returns (by simp) Bd.notSynchronized (hb hby d3_129) (by decide) (by decide) e4 (by rw [hQ]; exact ⟨by rw [own_pos, if_neg hc2_1, if_pos hc7_2, if_pos hc27_5, if_neg hc61_6, if_neg hc80_8, if_pos hc87_12, if_neg hc95_13, if_neg hc102_14, if_neg hc109_15]; try rfl, N4, rfl⟩)
            · -- not (31 : Int32) < ((own_sel b0 b1 b2 b3 ix) &&& (255 : Int32))
              refine OFin.back (fun _ hr => XS.icmpYes X4.here hx rfl (pc0 := 87) (pc' := 112) rfl (hb hby d3_87) rfl (flt hc87_12).2.2.2 (by decide) (by decide) hr) ?_
              show OFin p e below s _ _ Q (T4.setTop (mkF m 112 #[.val (.ref ba), .val (.int st), .val (.int en), .val (.int ix), .val (.int ((own_sel b0 b1 b2 b3 ix) &&& (255 : Int32))), .unset] []))
              refine OFin.back (fun _ hr => XS.iconst X4.here hx rfl (hb hby d3_112) hr) ?_
              show OFin p e below s _ _ Q (T4.setTop (mkF m 113 #[.val (.ref ba), .val (.int st), .val (.int en), .val (.int ix), .val (.int ((own_sel b0 b1 b2 b3 ix) &&& (255 : Int32))), .unset] [(.int (1 : Int32))]))
              refine OFin.back (fun _ hr => XS.goto X4.here hx rfl (pc0 := 113) (pc' := 117) rfl (hb hby d3_113) (by decide) (by decide) hr) ?_
              show OFin p e below s _ _ Q (T4.setTop (mkF m 117 #[.val (.ref ba), .val (.int st), .val (.int en), .val (.int ix), .val (.int ((own_sel b0 b1 b2 b3 ix) &&& (255 : Int32))), .unset] [(.int (1 : Int32))]))
              refine OFin.back (fun _ hr => XS.istore X4.here hx rfl (hb hby d3_117) rfl (l' := #[.val (.ref ba), .val (.int st), .val (.int en), .val (.int ix), .val (.int ((own_sel b0 b1 b2 b3 ix) &&& (255 : Int32))), .val (.int (1 : Int32))]) rfl hr) ?_
              show OFin p e below s _ _ Q (T4.setTop (mkF m 119 #[.val (.ref ba), .val (.int st), .val (.int en), .val (.int ix), .val (.int ((own_sel b0 b1 b2 b3 ix) &&& (255 : Int32))), .val (.int (1 : Int32))] []))
              refine OFin.back (fun _ hr => XS.iload X4.here hx rfl (hb hby d3_119) rfl hr) ?_
              show OFin p e below s _ _ Q (T4.setTop (mkF m 121 #[.val (.ref ba), .val (.int st), .val (.int en), .val (.int ix), .val (.int ((own_sel b0 b1 b2 b3 ix) &&& (255 : Int32))), .val (.int (1 : Int32))] [(.int (1 : Int32))]))
              refine OFin.back (fun _ hr => XS.ifYes X4.here hx rfl (pc0 := 121) (pc' := 128) rfl (hb hby d3_121) rfl ((if0 _ _).trans (feq (by decide : ¬ ((1 : Int32) = (0 : Int32)))).2) (by decide) (by decide) hr) ?_
              show OFin p e below s _ _ Q (T4.setTop (mkF m 128 #[.val (.ref ba), .val (.int st), .val (.int en), .val (.int ix), .val (.int ((own_sel b0 b1 b2 b3 ix) &&& (255 : Int32))), .val (.int (1 : Int32))] []))
              refine OFin.back (fun _ hr => XS.iconst X4.here hx rfl (hb hby d3_128) hr) ?_
              show OFin p e below s _ _ Q (T4.setTop (mkF m 129 #[.val (.ref ba), .val (.int st), .val (.int en), .val (.int ix), .val (.int ((own_sel b0 b1 b2 b3 ix) &&& (255 : Int32))), .val (.int (1 : Int32))] [(.int (0 : Int32))]))
              exact OFin.outN (t := .boolean) X4 hx Bd.returns (by simp) Bd.notSynchronized (hb hby d3_129) (by decide) (by decide) e4 (by rw [hQ]; exact ⟨by rw [own_pos, if_neg hc2_1, if_pos hc7_2, if_pos hc27_5, if_neg hc61_6, if_neg hc80_8, if_neg hc87_12]; try rfl, N4, rfl⟩)
      · -- not (own_esc b0 b1 b2 b3 st ix) = (0 : Int32)
        refine OFin.back (fun _ hr => XS.ifNo X4.here hx rfl (hb hby d3_27) rfl ((if0 _ _).trans (feq hc27_5).1) hr) ?_
        show OFin p e below s _ _ Q (T4.setTop (mkF m 30 #[.val (.ref ba), .val (.int st), .val (.int en), .val (.int ix), .val (.int ((own_sel b0 b1 b2 b3 ix) &&& (255 : Int32))), .unset] []))
        refine OFin.back (fun _ hr => XS.iload X4.here hx rfl (hb hby d3_30) rfl hr) ?_
        show OFin p e below s _ _ Q (T4.setTop (mkF m 32 #[.val (.ref ba), .val (.int st), .val (.int en), .val (.int ix), .val (.int ((own_sel b0 b1 b2 b3 ix) &&& (255 : Int32))), .unset] [(.int ((own_sel b0 b1 b2 b3 ix) &&& (255 : Int32)))]))
        refine OFin.back (fun _ hr => XS.bipush X4.here hx rfl (hb hby d3_32) hr) ?_
        show OFin p e below s _ _ Q (T4.setTop (mkF m 34 #[.val (.ref ba), .val (.int st), .val (.int en), .val (.int ix), .val (.int ((own_sel b0 b1 b2 b3 ix) &&& (255 : Int32))), .unset] [(.int (92 : Int32)), (.int ((own_sel b0 b1 b2 b3 ix) &&& (255 : Int32)))]))
        by_cases hc34_16 : ((own_sel b0 b1 b2 b3 ix) &&& (255 : Int32)) = (92 : Int32)
        · -- ((own_sel b0 b1 b2 b3 ix) &&& (255 : Int32)) = (92 : Int32)
          refine OFin.back (fun _ hr => XS.icmpYes X4.here hx rfl (pc0 := 34) (pc' := 51) rfl (hb hby d3_34) rfl (teq hc34_16).1 (by decide) (by decide) hr) ?_
          show OFin p e below s _ _ Q (T4.setTop (mkF m 51 #[.val (.ref ba), .val (.int st), .val (.int en), .val (.int ix), .val (.int ((own_sel b0 b1 b2 b3 ix) &&& (255 : Int32))), .unset] []))
          refine OFin.back (fun _ hr => XS.iconst X4.here hx rfl (hb hby d3_51) hr) ?_
          show OFin p e below s _ _ Q (T4.setTop (mkF m 52 #[.val (.ref ba), .val (.int st), .val (.int en), .val (.int ix), .val (.int ((own_sel b0 b1 b2 b3 ix) &&& (255 : Int32))), .unset] [(.int (1 : Int32))]))
          refine OFin.back (fun _ hr => XS.goto X4.here hx rfl (pc0 := 52) (pc' := 56) rfl (hb hby d3_52) (by decide) (by decide) hr) ?_
          show OFin p e below s _ _ Q (T4.setTop (mkF m 56 #[.val (.ref ba), .val (.int st), .val (.int en), .val (.int ix), .val (.int ((own_sel b0 b1 b2 b3 ix) &&& (255 : Int32))), .unset] [(.int (1 : Int32))]))
          exact OFin.outN (t := .boolean) X4 hx Bd.returns (by simp) Bd.notSynchronized (hb hby d3_56) (by decide) (by decide) e4 (by rw [hQ]; exact ⟨by rw [own_pos, if_neg hc2_1, if_pos hc7_2, if_neg hc27_5, if_pos hc34_16]; try rfl, N4, rfl⟩)
        · -- not ((own_sel b0 b1 b2 b3 ix) &&& (255 : Int32)) = (92 : Int32)
          refine OFin.back (fun _ hr => XS.icmpNo X4.here hx rfl (hb hby d3_34) rfl (feq hc34_16).1 hr) ?_
          show OFin p e below s _ _ Q (T4.setTop (mkF m 37 #[.val (.ref ba), .val (.int st), .val (.int en), .val (.int ix), .val (.int ((own_sel b0 b1 b2 b3 ix) &&& (255 : Int32))), .unset] []))
          refine OFin.back (fun _ hr => XS.iload X4.here hx rfl (hb hby d3_37) rfl hr) ?_
          show OFin p e below s _ _ Q (T4.setTop (mkF m 39 #[.val (.ref ba), .val (.int st), .val (.int en), .val (.int ix), .val (.int ((own_sel b0 b1 b2 b3 ix) &&& (255 : Int32))), .unset] [(.int ((own_sel b0 b1 b2 b3 ix) &&& (255 : Int32)))]))
          refine OFin.back (fun _ hr => XS.bipush X4.here hx rfl (hb hby d3_39) hr) ?_
          show OFin p e below s _ _ Q (T4.setTop (mkF m 41 #[.val (.ref ba), .val (.int st), .val (.int en), .val (.int ix), .val (.int ((own_sel b0 b1 b2 b3 ix) &&& (255 : Int32))), .unset] [(.int (58 : Int32)), (.int ((own_sel b0 b1 b2 b3 ix) &&& (255 : Int32)))]))
          by_cases hc41_17 : ((own_sel b0 b1 b2 b3 ix) &&& (255 : Int32)) = (58 : Int32)
          · -- ((own_sel b0 b1 b2 b3 ix) &&& (255 : Int32)) = (58 : Int32)
            refine OFin.back (fun _ hr => XS.icmpYes X4.here hx rfl (pc0 := 41) (pc' := 51) rfl (hb hby d3_41) rfl (teq hc41_17).1 (by decide) (by decide) hr) ?_
            show OFin p e below s _ _ Q (T4.setTop (mkF m 51 #[.val (.ref ba), .val (.int st), .val (.int en), .val (.int ix), .val (.int ((own_sel b0 b1 b2 b3 ix) &&& (255 : Int32))), .unset] []))
            refine OFin.back (fun _ hr => XS.iconst X4.here hx rfl (hb hby d3_51) hr) ?_
            show OFin p e below s _ _ Q (T4.setTop (mkF m 52 #[.val (.ref ba), .val (.int st), .val (.int en), .val (.int ix), .val (.int ((own_sel b0 b1 b2 b3 ix) &&& (255 : Int32))), .unset] [(.int (1 : Int32))]))
            refine OFin.back (fun _ hr => XS.goto X4.here hx rfl (pc0 := 52) (pc' := 56) rfl (hb hby d3_52) (by decide) (by decide) hr) ?_
            show OFin p e below s _ _ Q (T4.setTop (mkF m 56 #[.val (.ref ba), .val (.int st), .val (.int en), .val (.int ix), .val (.int ((own_sel b0 b1 b2 b3 ix) &&& (255 : Int32))), .unset] [(.int (1 : Int32))]))
            exact OFin.outN (t := .boolean) X4 hx Bd.returns (by simp) Bd.notSynchronized (hb hby d3_56) (by decide) (by decide) e4 (by rw [hQ]; exact ⟨by rw [own_pos, if_neg hc2_1, if_pos hc7_2, if_neg hc27_5, if_neg hc34_16, if_pos hc41_17]; try rfl, N4, rfl⟩)
          · -- not ((own_sel b0 b1 b2 b3 ix) &&& (255 : Int32)) = (58 : Int32)
            refine OFin.back (fun _ hr => XS.icmpNo X4.here hx rfl (hb hby d3_41) rfl (feq hc41_17).1 hr) ?_
            show OFin p e below s _ _ Q (T4.setTop (mkF m 44 #[.val (.ref ba), .val (.int st), .val (.int en), .val (.int ix), .val (.int ((own_sel b0 b1 b2 b3 ix) &&& (255 : Int32))), .unset] []))
            refine OFin.back (fun _ hr => XS.iload X4.here hx rfl (hb hby d3_44) rfl hr) ?_
            show OFin p e below s _ _ Q (T4.setTop (mkF m 46 #[.val (.ref ba), .val (.int st), .val (.int en), .val (.int ix), .val (.int ((own_sel b0 b1 b2 b3 ix) &&& (255 : Int32))), .unset] [(.int ((own_sel b0 b1 b2 b3 ix) &&& (255 : Int32)))]))
            refine OFin.back (fun _ hr => XS.bipush X4.here hx rfl (hb hby d3_46) hr) ?_
            show OFin p e below s _ _ Q (T4.setTop (mkF m 48 #[.val (.ref ba), .val (.int st), .val (.int en), .val (.int ix), .val (.int ((own_sel b0 b1 b2 b3 ix) &&& (255 : Int32))), .unset] [(.int (64 : Int32)), (.int ((own_sel b0 b1 b2 b3 ix) &&& (255 : Int32)))]))
            by_cases hc48_18 : ((own_sel b0 b1 b2 b3 ix) &&& (255 : Int32)) = (64 : Int32)
            · -- ((own_sel b0 b1 b2 b3 ix) &&& (255 : Int32)) = (64 : Int32)
              refine OFin.back (fun _ hr => XS.icmpNo X4.here hx rfl (hb hby d3_48) rfl (teq hc48_18).2 hr) ?_
              show OFin p e below s _ _ Q (T4.setTop (mkF m 51 #[.val (.ref ba), .val (.int st), .val (.int en), .val (.int ix), .val (.int ((own_sel b0 b1 b2 b3 ix) &&& (255 : Int32))), .unset] []))
              refine OFin.back (fun _ hr => XS.iconst X4.here hx rfl (hb hby d3_51) hr) ?_
              show OFin p e below s _ _ Q (T4.setTop (mkF m 52 #[.val (.ref ba), .val (.int st), .val (.int en), .val (.int ix), .val (.int ((own_sel b0 b1 b2 b3 ix) &&& (255 : Int32))), .unset] [(.int (1 : Int32))]))
              refine OFin.back (fun _ hr => XS.goto X4.here hx rfl (pc0 := 52) (pc' := 56) rfl (hb hby d3_52) (by decide) (by decide) hr) ?_
              show OFin p e below s _ _ Q (T4.setTop (mkF m 56 #[.val (.ref ba), .val (.int st), .val (.int en), .val (.int ix), .val (.int ((own_sel b0 b1 b2 b3 ix) &&& (255 : Int32))), .unset] [(.int (1 : Int32))]))
              exact OFin.outN (t := .boolean) X4 hx Bd.returns (by simp) Bd.notSynchronized (hb hby d3_56) (by decide) (by decide) e4 (by rw [hQ]; exact ⟨by rw [own_pos, if_neg hc2_1, if_pos hc7_2, if_neg hc27_5, if_neg hc34_16, if_neg hc41_17, if_pos hc48_18]; try rfl, N4, rfl⟩)
            · -- not ((own_sel b0 b1 b2 b3 ix) &&& (255 : Int32)) = (64 : Int32)
              refine OFin.back (fun _ hr => XS.icmpYes X4.here hx rfl (pc0 := 48) (pc' := 55) rfl (hb hby d3_48) rfl (feq hc48_18).2 (by decide) (by decide) hr) ?_
              show OFin p e below s _ _ Q (T4.setTop (mkF m 55 #[.val (.ref ba), .val (.int st), .val (.int en), .val (.int ix), .val (.int ((own_sel b0 b1 b2 b3 ix) &&& (255 : Int32))), .unset] []))
              refine OFin.back (fun _ hr => XS.iconst X4.here hx rfl (hb hby d3_55) hr) ?_
              show OFin p e below s _ _ Q (T4.setTop (mkF m 56 #[.val (.ref ba), .val (.int st), .val (.int en), .val (.int ix), .val (.int ((own_sel b0 b1 b2 b3 ix) &&& (255 : Int32))), .unset] [(.int (0 : Int32))]))
              exact OFin.outN (t := .boolean) X4 hx Bd.returns (by simp) Bd.notSynchronized (hb hby d3_56) (by decide) (by decide) e4 (by rw [hQ]; exact ⟨by rw [own_pos, if_neg hc2_1, if_pos hc7_2, if_neg hc27_5, if_neg hc34_16, if_neg hc41_17, if_neg hc48_18]; try rfl, N4, rfl⟩)
    · -- not ix < en
      refine OFin.back (fun _ hr => XS.icmpNo X0.here hx rfl (hb hby d3_7) rfl (flt hc7_2).1 hr) ?_
      show OFin p e below s _ _ Q (s₁.setTop (mkF m 10 #[.val (.ref ba), .val (.int st), .val (.int en), .val (.int ix), .unset, .unset] []))
      refine OFin.back (fun _ hr => XS.iconst X0.here hx rfl (hb hby d3_10) hr) ?_
      show OFin p e below s _ _ Q (s₁.setTop (mkF m 11 #[.val (.ref ba), .val (.int st), .val (.int en), .val (.int ix), .unset, .unset] [(.int (1 : Int32))]))
      exact OFin.outN (t := .boolean) X0 hx Bd.returns (by simp) Bd.notSynchronized (hb hby d3_11) (by decide) (by decide) e0 (by rw [hQ]; exact ⟨by rw [own_pos, if_neg hc2_1, if_neg hc7_2]; try rfl, N0, rfl⟩)
theorem d4_0 : decode prog_107_method_5_code 0 = .ok (.iload_n 1, 1) := by decide +kernel
theorem d4_1 : decode prog_107_method_5_code 1 = .ok (.istore_n 3, 1) := by decide +kernel
theorem d4_2 : decode prog_107_method_5_code 2 = .ok (.iload_n 3, 1) := by decide +kernel
theorem d4_3 : decode prog_107_method_5_code 3 = .ok (.iload_n 2, 1) := by decide +kernel
theorem d4_4 : decode prog_107_method_5_code 4 = .ok (.if_icmp .ge 79, 3) := by decide +kernel
theorem d4_7 : decode prog_107_method_5_code 7 = .ok (.getstatic 13, 3) := by decide +kernel
theorem d4_10 : decode prog_107_method_5_code 10 = .ok (.aload_n 0, 1) := by decide +kernel
theorem d4_11 : decode prog_107_method_5_code 11 = .ok (.iload_n 3, 1) := by decide +kernel
theorem d4_12 : decode prog_107_method_5_code 12 = .ok (.baload, 1) := by decide +kernel
theorem d4_13 : decode prog_107_method_5_code 13 = .ok (.sipush 255, 3) := by decide +kernel
theorem d4_16 : decode prog_107_method_5_code 16 = .ok (.iand, 1) := by decide +kernel
theorem d4_17 : decode prog_107_method_5_code 17 = .ok (.baload, 1) := by decide +kernel
theorem d4_18 : decode prog_107_method_5_code 18 = .ok (.istore 4, 2) := by decide +kernel
theorem d4_20 : decode prog_107_method_5_code 20 = .ok (.iload 4, 2) := by decide +kernel
theorem d4_22 : decode prog_107_method_5_code 22 = .ok (.bipush 16, 2) := by decide +kernel
theorem d4_24 : decode prog_107_method_5_code 24 = .ok (.iand, 1) := by decide +kernel
theorem d4_25 : decode prog_107_method_5_code 25 = .ok (.ifCond .eq 5, 3) := by decide +kernel
theorem d4_28 : decode prog_107_method_5_code 28 = .ok (.iconst 0, 1) := by decide +kernel
theorem d4_29 : decode prog_107_method_5_code 29 = .ok (.ireturn, 1) := by decide +kernel
theorem d4_30 : decode prog_107_method_5_code 30 = .ok (.iload 4, 2) := by decide +kernel
theorem d4_32 : decode prog_107_method_5_code 32 = .ok (.bipush 32, 2) := by decide +kernel
theorem d4_34 : decode prog_107_method_5_code 34 = .ok (.if_icmp .ne 43, 3) := by decide +kernel
theorem d4_37 : decode prog_107_method_5_code 37 = .ok (.iinc 3 1, 3) := by decide +kernel
theorem d4_40 : decode prog_107_method_5_code 40 = .ok (.iload_n 3, 1) := by decide +kernel
theorem d4_41 : decode prog_107_method_5_code 41 = .ok (.iload_n 2, 1) := by decide +kernel
theorem d4_42 : decode prog_107_method_5_code 42 = .ok (.if_icmp .ge 9, 3) := by decide +kernel
theorem d4_45 : decode prog_107_method_5_code 45 = .ok (.aload_n 0, 1) := by decide +kernel
theorem d4_46 : decode prog_107_method_5_code 46 = .ok (.iload_n 3, 1) := by decide +kernel
theorem d4_47 : decode prog_107_method_5_code 47 = .ok (.baload, 1) := by decide +kernel
theorem d4_48 : decode prog_107_method_5_code 48 = .ok (.goto 4, 3) := by decide +kernel
theorem d4_51 : decode prog_107_method_5_code 51 = .ok (.iconst 0, 1) := by decide +kernel
theorem d4_52 : decode prog_107_method_5_code 52 = .ok (.istore 5, 2) := by decide +kernel
theorem d4_54 : decode prog_107_method_5_code 54 = .ok (.iload 5, 2) := by decide +kernel
theorem d4_56 : decode prog_107_method_5_code 56 = .ok (.bipush 92, 2) := by decide +kernel
theorem d4_58 : decode prog_107_method_5_code 58 = .ok (.if_icmp .eq 19, 3) := by decide +kernel
theorem d4_61 : decode prog_107_method_5_code 61 = .ok (.iload 5, 2) := by decide +kernel
theorem d4_63 : decode prog_107_method_5_code 63 = .ok (.bipush 58, 2) := by decide +kernel
theorem d4_65 : decode prog_107_method_5_code 65 = .ok (.if_icmp .eq 12, 3) := by decide +kernel
theorem d4_68 : decode prog_107_method_5_code 68 = .ok (.iload 5, 2) := by decide +kernel
theorem d4_70 : decode prog_107_method_5_code 70 = .ok (.bipush 64, 2) := by decide +kernel
theorem d4_72 : decode prog_107_method_5_code 72 = .ok (.if_icmp .eq 5, 3) := by decide +kernel
theorem d4_75 : decode prog_107_method_5_code 75 = .ok (.iconst 0, 1) := by decide +kernel
theorem d4_76 : decode prog_107_method_5_code 76 = .ok (.ireturn, 1) := by decide +kernel
theorem d4_77 : decode prog_107_method_5_code 77 = .ok (.iinc 3 1, 3) := by decide +kernel
theorem d4_80 : decode prog_107_method_5_code 80 = .ok (.goto (-78), 3) := by decide +kernel
theorem d4_83 : decode prog_107_method_5_code 83 = .ok (.iconst 1, 1) := by decide +kernel
theorem d4_84 : decode prog_107_method_5_code 84 = .ok (.ireturn, 1) := by decide +kernel
theorem pn4 : plainName "com/example/bytelore/bytelore/classfile/Names" = true := by first | (simp [plainName, overriddenIn]; done) | decide +kernel
theorem ef4 (m : MethodId) (ba : Addr) (st : Int32) (en : Int32) : entryFrame m #[(.ref ba), (.int st), (.int en)] 6 = mkF m 0 #[.val (.ref ba), .val (.int st), .val (.int en), .unset, .unset, .unset] [] := by first | (simp [entryFrame, mkF, argsToLocals, Value.category]; done) | rfl
def own_imnL : Nat → Int32 → Int32 → Int32 → Int32 → Int32 → Int32 → Int32
  | 0, b0, b1, b2, b3, en, ii => (1 : Int32)
  | k + 1, b0, b1, b2, b3, en, ii => (if ii < en then (if ((own_kind ((own_sel b0 b1 b2 b3 ii) &&& (255 : Int32))) &&& (16 : Int32)) = (0 : Int32) then (if (own_kind ((own_sel b0 b1 b2 b3 ii) &&& (255 : Int32))) = (32 : Int32) then (if (ii + (1 : Int32)) < en then (if (own_sel b0 b1 b2 b3 (ii + (1 : Int32))) = (92 : Int32) then (own_imnL k b0 b1 b2 b3 en ((ii + (1 : Int32)) + (1 : Int32))) else (if (own_sel b0 b1 b2 b3 (ii + (1 : Int32))) = (58 : Int32) then (own_imnL k b0 b1 b2 b3 en ((ii + (1 : Int32)) + (1 : Int32))) else (if (own_sel b0 b1 b2 b3 (ii + (1 : Int32))) = (64 : Int32) then (own_imnL k b0 b1 b2 b3 en ((ii + (1 : Int32)) + (1 : Int32))) else (0 : Int32)))) else (0 : Int32)) else (own_imnL k b0 b1 b2 b3 en (ii + (1 : Int32)))) else (0 : Int32)) else (1 : Int32))
def own_imn (b0 : Int32) (b1 : Int32) (b2 : Int32) (b3 : Int32) (st : Int32) (en : Int32) : Int32 := (own_imnL 4 b0 b1 b2 b3 en st)
def Q4 (Z : State) (ba : Addr) (st : Int32) (en : Int32) (kb : ClassId) (b0 : Int32) (b1 : Int32) (b2 : Int32) (b3 : Int32) (ka : Addr) (cl : Cell) (h0 : Heap) (n0 : Nat) (v : Option Value) (h : Heap) (L : List Loc) : Prop := v = some (.int (own_imn b0 b1 b2 b3 st en)) ∧ Fr n0 L ∧ h = h0
set_option maxRecDepth 65536 in
set_option maxHeartbeats 40000000 in
theorem rm4 (l : Launch) (Z : State) (a0 : Array Value) (hw : ∀ d ∈ tables_1, d.before a0 Z = true) (ws : List Jvm.Cond) (ba : Addr) (st : Int32) (en : Int32) (kb : ClassId) (b0 : Int32) (b1 : Int32) (b2 : Int32) (b3 : Int32) (ka : Addr) (cl : Cell) (h0 : Heap) (n0 : Nat) (Z0 : n0 ≤ h0.size) (V0 : Arv Z h0 ba kb .byte (4 : Int32) [(.int b0), (.int b1), (.int b2), (.int b3)] (.int (0 : Int32))) (hs0 : 0 ≤ st.toInt) (he4 : en.toInt ≤ 4) (S_KINDS : Sta Z h0 "com/example/bytelore/bytelore/classfile/Names" "KINDS" "[B" (.ref ka)) (Ar : Arr Z h0 ka cl .byte) (HK : ∀ j : Int32, ¬ j < 0 ∧ j < (256 : Int32) → ¬ (j < 0 ∨ cl.slots.size ≤ j.toNatClampNeg) ∧ cl.slots[j.toNatClampNeg]? = some (.int (own_kind j))) :
    MetFree l (⟨"com/example/bytelore/bytelore/classfile/Names", "isModuleName", "([BII)Z"⟩ : MethodName) (head1 (Jvm.Cond.code (⟨"com/example/bytelore/bytelore/classfile/Names", "isModuleName", "([BII)Z"⟩ : MethodName) prog_107_method_5_code 6 (some .boolean) :: ws) ({ frames := 0, cells := 0, slots := 0, locals := 0 } : Room)) (fun ar_ U => ar_ = #[(.ref ba), (.int st), (.int en)] ∧ Z.Warmed39 U.vm ∧ U.heap = h0) (fun _ _ _ _ _ => True) (fun _ U o U' => ∃ v L, o = .returned v ∧ Q4 Z ba st en kb b0 b1 b2 b3 ka cl h0 n0 v U'.heap L ∧ FrameEnd U o U' L ({ frames := 0, cells := 0, slots := 0, locals := 0 } : Room).cells ({ frames := 0, cells := 0, slots := 0, locals := 0 } : Room).slots) := by
  refine MetFree.of_bodySF (plainFor_of_name pn4) hisR ?_
  intro p e s m args below meth c s₁ Bd hml0 hP hK
  obtain ⟨rfl, hZ, hh⟩ := hP
  have hx := Bd.exec
  have hby := Bd.bytes
  have hml : c.maxLocals = 6 := hml0
  have hown : s.vm.findClass "com/example/bytelore/bytelore/classfile/Names" = some m.cls := findClass_of_methodNamed Bd.named
  have hnm := (name_of_methodNamed Bd.named Bd.method).1
  have X0 : Stand p l e ({ frames := 0, cells := 0, slots := 0, locals := 0 } : Room) s m #[(.ref ba), (.int st), (.int en)] below meth c s₁ [] 0 0 := Stand.of_body Bd
  have e0 : s₁.heap = h0 := by rw [← hh, Bd.state]; rfl
  have N0 := Fr.nil n0
  show OFin p e below s _ _ (Q4 Z ba st en kb b0 b1 b2 b3 ka cl h0 n0) (s₁.setTop (entryFrame m #[(.ref ba), (.int st), (.int en)] 6))
  rw [ef4]
  obtain ⟨Q, hQ⟩ : ∃ Q, Q = Q4 Z ba st en kb b0 b1 b2 b3 ka cl h0 n0 := ⟨_, rfl⟩
  rw [← hQ]
  show OFin p e below s _ _ Q (s₁.setTop (mkF m 0 #[.val (.ref ba), .val (.int st), .val (.int en), .unset, .unset, .unset] []))
  refine OFin.back (fun _ hr => XS.iloadN X0.here hx rfl (hb hby d4_0) rfl hr) ?_
  show OFin p e below s _ _ Q (s₁.setTop (mkF m 1 #[.val (.ref ba), .val (.int st), .val (.int en), .unset, .unset, .unset] [(.int st)]))
  refine OFin.back (fun _ hr => XS.istoreN X0.here hx rfl (hb hby d4_1) rfl (l' := #[.val (.ref ba), .val (.int st), .val (.int en), .val (.int st), .unset, .unset]) rfl hr) ?_
  show OFin p e below s _ _ Q (s₁.setTop (mkF m 2 #[.val (.ref ba), .val (.int st), .val (.int en), .val (.int st), .unset, .unset] []))
  have LOOP : ∀ (k : Nat) (ii : Int32) (TJ : State) (s4 s5 : Slot) (lJ : List Loc), Stand p l e ({ frames := 0, cells := 0, slots := 0, locals := 0 } : Room) s m #[(.ref ba), (.int st), (.int en)] below meth c TJ lJ 0 0 → TJ.heap = h0 → Fr n0 lJ → One s4 → One s5 → 0 ≤ ii.toInt → en.toInt - ii.toInt ≤ (k : Int) → own_imn b0 b1 b2 b3 st en = own_imnL k b0 b1 b2 b3 en ii → OFin p e below s ({ frames := 0, cells := 0, slots := 0, locals := 0 } : Room).cells ({ frames := 0, cells := 0, slots := 0, locals := 0 } : Room).slots Q (TJ.setTop (mkF m 2 #[.val (.ref ba), .val (.int st), .val (.int en), .val (.int ii), s4, s5] [])) := by
    intro k
    induction k with
    | zero =>
      intro ii TJ s4 s5 lJ XJ eJ NJ hs4 hs5 hi0 hk hJ
      have hlt : ¬ ii < en := fun q => by rw [Int32.lt_iff_toInt_lt] at q; omega
      show OFin p e below s _ _ Q (TJ.setTop (mkF m 2 #[.val (.ref ba), .val (.int st), .val (.int en), .val (.int ii), s4, s5] []))
      refine OFin.back (fun _ hr => XS.iloadN XJ.here hx rfl (hb hby d4_2) rfl hr) ?_
      show OFin p e below s _ _ Q (TJ.setTop (mkF m 3 #[.val (.ref ba), .val (.int st), .val (.int en), .val (.int ii), s4, s5] [(.int ii)]))
      refine OFin.back (fun _ hr => XS.iloadN XJ.here hx rfl (hb hby d4_3) rfl hr) ?_
      show OFin p e below s _ _ Q (TJ.setTop (mkF m 4 #[.val (.ref ba), .val (.int st), .val (.int en), .val (.int ii), s4, s5] [(.int en), (.int ii)]))
      refine OFin.back (fun _ hr => XS.icmpYes XJ.here hx rfl (pc0 := 4) (pc' := 83) rfl (hb hby d4_4) rfl (flt hlt).2.1 (by decide) (by decide) hr) ?_
      show OFin p e below s _ _ Q (TJ.setTop (mkF m 83 #[.val (.ref ba), .val (.int st), .val (.int en), .val (.int ii), s4, s5] []))
      refine OFin.back (fun _ hr => XS.iconst XJ.here hx rfl (hb hby d4_83) hr) ?_
      show OFin p e below s _ _ Q (TJ.setTop (mkF m 84 #[.val (.ref ba), .val (.int st), .val (.int en), .val (.int ii), s4, s5] [(.int (1 : Int32))]))
      exact OFin.outN (t := .boolean) XJ hx Bd.returns (by simp) Bd.notSynchronized (hb hby d4_84) (by decide) (by decide) eJ (by rw [hQ]; exact ⟨by rw [hJ, own_imnL]; try rfl, NJ, rfl⟩)
    | succ k ih =>
      intro ii TJ s4 s5 lJ XJ eJ NJ hs4 hs5 hi0 hk hJ
      show OFin p e below s _ _ Q (TJ.setTop (mkF m 2 #[.val (.ref ba), .val (.int st), .val (.int en), .val (.int ii), s4, s5] []))
      refine OFin.back (fun _ hr => XS.iloadN XJ.here hx rfl (hb hby d4_2) rfl hr) ?_
      show OFin p e below s _ _ Q (TJ.setTop (mkF m 3 #[.val (.ref ba), .val (.int st), .val (.int en), .val (.int ii), s4, s5] [(.int ii)]))
      refine OFin.back (fun _ hr => XS.iloadN XJ.here hx rfl (hb hby d4_3) rfl hr) ?_
      show OFin p e below s _ _ Q (TJ.setTop (mkF m 4 #[.val (.ref ba), .val (.int st), .val (.int en), .val (.int ii), s4, s5] [(.int en), (.int ii)]))
      by_cases hc4_1 : ii < en
      · -- ii < en
        refine OFin.back (fun _ hr => XS.icmpNo XJ.here hx rfl (hb hby d4_4) rfl (tlt hc4_1).2.1 hr) ?_
        show OFin p e below s _ _ Q (TJ.setTop (mkF m 7 #[.val (.ref ba), .val (.int st), .val (.int en), .val (.int ii), s4, s5] []))
        have hlt := hc4_1
        have ix := own_b3 hi0 hlt he4
        obtain ⟨T2, X2, e2, st2⟩ := getS2 XJ hx hZ hown (host := "") (Or.inl (hw _ (List.mem_of_getElem? (i := 16) rfl))) Via.refl eJ S_KINDS (g := (mkF m 7 #[.val (.ref ba), .val (.int st), .val (.int en), .val (.int ii), s4, s5] [])) rfl (hb hby d4_7)
        refine OFin.back st2 ?_
        show OFin p e below s _ _ Q (T2.setTop (mkF m 10 #[.val (.ref ba), .val (.int st), .val (.int en), .val (.int ii), s4, s5] [(.ref ka)]))
        refine OFin.back (fun _ hr => XS.aloadN X2.here hx rfl (hb hby d4_10) rfl rfl hr) ?_
        show OFin p e below s _ _ Q (T2.setTop (mkF m 11 #[.val (.ref ba), .val (.int st), .val (.int en), .val (.int ii), s4, s5] [(.ref ba), (.ref ka)]))
        refine OFin.back (fun _ hr => XS.iloadN X2.here hx rfl (hb hby d4_11) rfl hr) ?_
        show OFin p e below s _ _ Q (T2.setTop (mkF m 12 #[.val (.ref ba), .val (.int st), .val (.int en), .val (.int ii), s4, s5] [(.int ii), (.ref ba), (.ref ka)]))
        obtain ⟨cl3, Ar3, q3, S3, M3, H3, G3⟩ := id V0
        have hin3 : ¬ (ii < 0 ∨ cl3.slots.size ≤ (ii).toNatClampNeg) := inb_of S3 ix
        refine OFin.back (X2.baloadBytes hx (j := ii) (v := (.int (own_sel b0 b1 b2 b3 ii))) (by rw [e2]; exact Ar3.1) (State.isArrayOf_alike hZ.alike Ar3.2.1) Ar3.2.2 hin3 (H3.at hin3 (own_selAt ix)) (g := (mkF m 12 #[.val (.ref ba), .val (.int st), .val (.int en), .val (.int ii), s4, s5] [(.int ii), (.ref ba), (.ref ka)])) rfl rfl (hb hby d4_12)) ?_
        show OFin p e below s _ _ Q (T2.setTop (mkF m 13 #[.val (.ref ba), .val (.int st), .val (.int en), .val (.int ii), s4, s5] [(.int (own_sel b0 b1 b2 b3 ii)), (.ref ka)]))
        refine OFin.back (fun _ hr => XS.sipush X2.here hx rfl (hb hby d4_13) hr) ?_
        show OFin p e below s _ _ Q (T2.setTop (mkF m 16 #[.val (.ref ba), .val (.int st), .val (.int en), .val (.int ii), s4, s5] [(.int (255 : Int32)), (.int (own_sel b0 b1 b2 b3 ii)), (.ref ka)]))
        refine OFin.back (fun _ hr => XS.iand X2.here hx rfl (hb hby d4_16) rfl hr) ?_
        show OFin p e below s _ _ Q (T2.setTop (mkF m 17 #[.val (.ref ba), .val (.int st), .val (.int en), .val (.int ii), s4, s5] [(.int ((own_sel b0 b1 b2 b3 ii) &&& (255 : Int32))), (.ref ka)]))
        obtain ⟨hin4, hat4⟩ := HK ((own_sel b0 b1 b2 b3 ii) &&& (255 : Int32)) (own_m255 (own_sel b0 b1 b2 b3 ii))
        refine OFin.back (X2.baloadBytes hx (j := ((own_sel b0 b1 b2 b3 ii) &&& (255 : Int32))) (v := (.int (own_kind ((own_sel b0 b1 b2 b3 ii) &&& (255 : Int32))))) (by rw [e2]; exact Ar.1) (State.isArrayOf_alike hZ.alike Ar.2.1) Ar.2.2 hin4 hat4 (g := (mkF m 17 #[.val (.ref ba), .val (.int st), .val (.int en), .val (.int ii), s4, s5] [(.int ((own_sel b0 b1 b2 b3 ii) &&& (255 : Int32))), (.ref ka)])) rfl rfl (hb hby d4_17)) ?_
        show OFin p e below s _ _ Q (T2.setTop (mkF m 18 #[.val (.ref ba), .val (.int st), .val (.int en), .val (.int ii), s4, s5] [(.int (own_kind ((own_sel b0 b1 b2 b3 ii) &&& (255 : Int32))))]))
        have os5 : storeLocals #[.val (.ref ba), .val (.int st), .val (.int en), .val (.int ii), s4, s5] 4 (.int (own_kind ((own_sel b0 b1 b2 b3 ii) &&& (255 : Int32)))) = some #[.val (.ref ba), .val (.int st), .val (.int en), .val (.int ii), .val (.int (own_kind ((own_sel b0 b1 b2 b3 ii) &&& (255 : Int32)))), s5] := by
          rcases hs4 with rfl | ⟨w, rfl, hw⟩
          · rfl
          · cases w <;> first | rfl | (simp [Value.category] at hw)
        refine OFin.back (fun _ hr => XS.istore X2.here hx rfl (hb hby d4_18) rfl (l' := #[.val (.ref ba), .val (.int st), .val (.int en), .val (.int ii), .val (.int (own_kind ((own_sel b0 b1 b2 b3 ii) &&& (255 : Int32)))), s5]) os5 hr) ?_
        show OFin p e below s _ _ Q (T2.setTop (mkF m 20 #[.val (.ref ba), .val (.int st), .val (.int en), .val (.int ii), .val (.int (own_kind ((own_sel b0 b1 b2 b3 ii) &&& (255 : Int32)))), s5] []))
        refine OFin.back (fun _ hr => XS.iload X2.here hx rfl (hb hby d4_20) rfl hr) ?_
        show OFin p e below s _ _ Q (T2.setTop (mkF m 22 #[.val (.ref ba), .val (.int st), .val (.int en), .val (.int ii), .val (.int (own_kind ((own_sel b0 b1 b2 b3 ii) &&& (255 : Int32)))), s5] [(.int (own_kind ((own_sel b0 b1 b2 b3 ii) &&& (255 : Int32))))]))
        refine OFin.back (fun _ hr => XS.bipush X2.here hx rfl (hb hby d4_22) hr) ?_
        show OFin p e below s _ _ Q (T2.setTop (mkF m 24 #[.val (.ref ba), .val (.int st), .val (.int en), .val (.int ii), .val (.int (own_kind ((own_sel b0 b1 b2 b3 ii) &&& (255 : Int32)))), s5] [(.int (16 : Int32)), (.int (own_kind ((own_sel b0 b1 b2 b3 ii) &&& (255 : Int32))))]))
        refine OFin.back (fun _ hr => XS.iand X2.here hx rfl (hb hby d4_24) rfl hr) ?_
        show OFin p e below s _ _ Q (T2.setTop (mkF m 25 #[.val (.ref ba), .val (.int st), .val (.int en), .val (.int ii), .val (.int (own_kind ((own_sel b0 b1 b2 b3 ii) &&& (255 : Int32)))), s5] [(.int ((own_kind ((own_sel b0 b1 b2 b3 ii) &&& (255 : Int32))) &&& (16 : Int32)))]))
        by_cases hc25_6 : ((own_kind ((own_sel b0 b1 b2 b3 ii) &&& (255 : Int32))) &&& (16 : Int32)) = (0 : Int32)
        · -- ((own_kind ((own_sel b0 b1 b2 b3 ii) &&& (255 : Int32))) &&& (16 : Int32)) = (0 : Int32)
          refine OFin.back (fun _ hr => XS.ifYes X2.here hx rfl (pc0 := 25) (pc' := 30) rfl (hb hby d4_25) rfl ((if0 _ _).trans (teq hc25_6).1) (by decide) (by decide) hr) ?_
          show OFin p e below s _ _ Q (T2.setTop (mkF m 30 #[.val (.ref ba), .val (.int st), .val (.int en), .val (.int ii), .val (.int (own_kind ((own_sel b0 b1 b2 b3 ii) &&& (255 : Int32)))), s5] []))
          refine OFin.back (fun _ hr => XS.iload X2.here hx rfl (hb hby d4_30) rfl hr) ?_
          show OFin p e below s _ _ Q (T2.setTop (mkF m 32 #[.val (.ref ba), .val (.int st), .val (.int en), .val (.int ii), .val (.int (own_kind ((own_sel b0 b1 b2 b3 ii) &&& (255 : Int32)))), s5] [(.int (own_kind ((own_sel b0 b1 b2 b3 ii) &&& (255 : Int32))))]))
          refine OFin.back (fun _ hr => XS.bipush X2.here hx rfl (hb hby d4_32) hr) ?_
          show OFin p e below s _ _ Q (T2.setTop (mkF m 34 #[.val (.ref ba), .val (.int st), .val (.int en), .val (.int ii), .val (.int (own_kind ((own_sel b0 b1 b2 b3 ii) &&& (255 : Int32)))), s5] [(.int (32 : Int32)), (.int (own_kind ((own_sel b0 b1 b2 b3 ii) &&& (255 : Int32))))]))
          by_cases hc34_7 : (own_kind ((own_sel b0 b1 b2 b3 ii) &&& (255 : Int32))) = (32 : Int32)
          · -- (own_kind ((own_sel b0 b1 b2 b3 ii) &&& (255 : Int32))) = (32 : Int32)
            refine OFin.back (fun _ hr => XS.icmpNo X2.here hx rfl (hb hby d4_34) rfl (teq hc34_7).2 hr) ?_
            show OFin p e below s _ _ Q (T2.setTop (mkF m 37 #[.val (.ref ba), .val (.int st), .val (.int en), .val (.int ii), .val (.int (own_kind ((own_sel b0 b1 b2 b3 ii) &&& (255 : Int32)))), s5] []))
            refine OFin.back (fun _ hr => XS.iinc X2.here hx rfl (hb hby d4_37) rfl (l' := #[.val (.ref ba), .val (.int st), .val (.int en), .val (.int (ii + (1 : Int32))), .val (.int (own_kind ((own_sel b0 b1 b2 b3 ii) &&& (255 : Int32)))), s5]) rfl hr) ?_
            show OFin p e below s _ _ Q (T2.setTop (mkF m 40 #[.val (.ref ba), .val (.int st), .val (.int en), .val (.int (ii + (1 : Int32))), .val (.int (own_kind ((own_sel b0 b1 b2 b3 ii) &&& (255 : Int32)))), s5] []))
            refine OFin.back (fun _ hr => XS.iloadN X2.here hx rfl (hb hby d4_40) rfl hr) ?_
            show OFin p e below s _ _ Q (T2.setTop (mkF m 41 #[.val (.ref ba), .val (.int st), .val (.int en), .val (.int (ii + (1 : Int32))), .val (.int (own_kind ((own_sel b0 b1 b2 b3 ii) &&& (255 : Int32)))), s5] [(.int (ii + (1 : Int32)))]))
            refine OFin.back (fun _ hr => XS.iloadN X2.here hx rfl (hb hby d4_41) rfl hr) ?_
            show OFin p e below s _ _ Q (T2.setTop (mkF m 42 #[.val (.ref ba), .val (.int st), .val (.int en), .val (.int (ii + (1 : Int32))), .val (.int (own_kind ((own_sel b0 b1 b2 b3 ii) &&& (255 : Int32)))), s5] [(.int en), (.int (ii + (1 : Int32)))]))
            by_cases hc42_8 : (ii + (1 : Int32)) < en
            · -- (ii + (1 : Int32)) < en
              refine OFin.back (fun _ hr => XS.icmpNo X2.here hx rfl (hb hby d4_42) rfl (tlt hc42_8).2.1 hr) ?_
              show OFin p e below s _ _ Q (T2.setTop (mkF m 45 #[.val (.ref ba), .val (.int st), .val (.int en), .val (.int (ii + (1 : Int32))), .val (.int (own_kind ((own_sel b0 b1 b2 b3 ii) &&& (255 : Int32)))), s5] []))
              have ix1 := own_b3 (own_b1 hi0 hlt he4) hc42_8 he4
              refine OFin.back (fun _ hr => XS.aloadN X2.here hx rfl (hb hby d4_45) rfl rfl hr) ?_
              show OFin p e below s _ _ Q (T2.setTop (mkF m 46 #[.val (.ref ba), .val (.int st), .val (.int en), .val (.int (ii + (1 : Int32))), .val (.int (own_kind ((own_sel b0 b1 b2 b3 ii) &&& (255 : Int32)))), s5] [(.ref ba)]))
              refine OFin.back (fun _ hr => XS.iloadN X2.here hx rfl (hb hby d4_46) rfl hr) ?_
              show OFin p e below s _ _ Q (T2.setTop (mkF m 47 #[.val (.ref ba), .val (.int st), .val (.int en), .val (.int (ii + (1 : Int32))), .val (.int (own_kind ((own_sel b0 b1 b2 b3 ii) &&& (255 : Int32)))), s5] [(.int (ii + (1 : Int32))), (.ref ba)]))
              obtain ⟨cl9, Ar9, q9, S9, M9, H9, G9⟩ := id V0
              have hin9 : ¬ ((ii + (1 : Int32)) < 0 ∨ cl9.slots.size ≤ ((ii + (1 : Int32))).toNatClampNeg) := inb_of S9 ix1
              refine OFin.back (X2.baloadBytes hx (j := (ii + (1 : Int32))) (v := (.int (own_sel b0 b1 b2 b3 (ii + (1 : Int32))))) (by rw [e2]; exact Ar9.1) (State.isArrayOf_alike hZ.alike Ar9.2.1) Ar9.2.2 hin9 (H9.at hin9 (own_selAt ix1)) (g := (mkF m 47 #[.val (.ref ba), .val (.int st), .val (.int en), .val (.int (ii + (1 : Int32))), .val (.int (own_kind ((own_sel b0 b1 b2 b3 ii) &&& (255 : Int32)))), s5] [(.int (ii + (1 : Int32))), (.ref ba)])) rfl rfl (hb hby d4_47)) ?_
              show OFin p e below s _ _ Q (T2.setTop (mkF m 48 #[.val (.ref ba), .val (.int st), .val (.int en), .val (.int (ii + (1 : Int32))), .val (.int (own_kind ((own_sel b0 b1 b2 b3 ii) &&& (255 : Int32)))), s5] [(.int (own_sel b0 b1 b2 b3 (ii + (1 : Int32))))]))
              refine OFin.back (fun _ hr => XS.goto X2.here hx rfl (pc0 := 48) (pc' := 52) rfl (hb hby d4_48) (by decide) (by decide) hr) ?_
              show OFin p e below s _ _ Q (T2.setTop (mkF m 52 #[.val (.ref ba), .val (.int st), .val (.int en), .val (.int (ii + (1 : Int32))), .val (.int (own_kind ((own_sel b0 b1 b2 b3 ii) &&& (255 : Int32)))), s5] [(.int (own_sel b0 b1 b2 b3 (ii + (1 : Int32))))]))
              have os10 : storeLocals #[.val (.ref ba), .val (.int st), .val (.int en), .val (.int (ii + (1 : Int32))), .val (.int (own_kind ((own_sel b0 b1 b2 b3 ii) &&& (255 : Int32)))), s5] 5 (.int (own_sel b0 b1 b2 b3 (ii + (1 : Int32)))) = some #[.val (.ref ba), .val (.int st), .val (.int en), .val (.int (ii + (1 : Int32))), .val (.int (own_kind ((own_sel b0 b1 b2 b3 ii) &&& (255 : Int32)))), .val (.int (own_sel b0 b1 b2 b3 (ii + (1 : Int32))))] := by
                rcases hs5 with rfl | ⟨w, rfl, hw⟩
                · rfl
                · cases w <;> first | rfl | (simp [Value.category] at hw)
              refine OFin.back (fun _ hr => XS.istore X2.here hx rfl (hb hby d4_52) rfl (l' := #[.val (.ref ba), .val (.int st), .val (.int en), .val (.int (ii + (1 : Int32))), .val (.int (own_kind ((own_sel b0 b1 b2 b3 ii) &&& (255 : Int32)))), .val (.int (own_sel b0 b1 b2 b3 (ii + (1 : Int32))))]) os10 hr) ?_
              show OFin p e below s _ _ Q (T2.setTop (mkF m 54 #[.val (.ref ba), .val (.int st), .val (.int en), .val (.int (ii + (1 : Int32))), .val (.int (own_kind ((own_sel b0 b1 b2 b3 ii) &&& (255 : Int32)))), .val (.int (own_sel b0 b1 b2 b3 (ii + (1 : Int32))))] []))
              refine OFin.back (fun _ hr => XS.iload X2.here hx rfl (hb hby d4_54) rfl hr) ?_
              show OFin p e below s _ _ Q (T2.setTop (mkF m 56 #[.val (.ref ba), .val (.int st), .val (.int en), .val (.int (ii + (1 : Int32))), .val (.int (own_kind ((own_sel b0 b1 b2 b3 ii) &&& (255 : Int32)))), .val (.int (own_sel b0 b1 b2 b3 (ii + (1 : Int32))))] [(.int (own_sel b0 b1 b2 b3 (ii + (1 : Int32))))]))
              refine OFin.back (fun _ hr => XS.bipush X2.here hx rfl (hb hby d4_56) hr) ?_
              show OFin p e below s _ _ Q (T2.setTop (mkF m 58 #[.val (.ref ba), .val (.int st), .val (.int en), .val (.int (ii + (1 : Int32))), .val (.int (own_kind ((own_sel b0 b1 b2 b3 ii) &&& (255 : Int32)))), .val (.int (own_sel b0 b1 b2 b3 (ii + (1 : Int32))))] [(.int (92 : Int32)), (.int (own_sel b0 b1 b2 b3 (ii + (1 : Int32))))]))
              by_cases hc58_11 : (own_sel b0 b1 b2 b3 (ii + (1 : Int32))) = (92 : Int32)
              · -- (own_sel b0 b1 b2 b3 (ii + (1 : Int32))) = (92 : Int32)
                refine OFin.back (fun _ hr => XS.icmpYes X2.here hx rfl (pc0 := 58) (pc' := 77) rfl (hb hby d4_58) rfl (teq hc58_11).1 (by decide) (by decide) hr) ?_
                show OFin p e below s _ _ Q (T2.setTop (mkF m 77 #[.val (.ref ba), .val (.int st), .val (.int en), .val (.int (ii + (1 : Int32))), .val (.int (own_kind ((own_sel b0 b1 b2 b3 ii) &&& (255 : Int32)))), .val (.int (own_sel b0 b1 b2 b3 (ii + (1 : Int32))))] []))
                refine OFin.back (fun _ hr => XS.iinc X2.here hx rfl (hb hby d4_77) rfl (l' := #[.val (.ref ba), .val (.int st), .val (.int en), .val (.int ((ii + (1 : Int32)) + (1 : Int32))), .val (.int (own_kind ((own_sel b0 b1 b2 b3 ii) &&& (255 : Int32)))), .val (.int (own_sel b0 b1 b2 b3 (ii + (1 : Int32))))]) rfl hr) ?_
                show OFin p e below s _ _ Q (T2.setTop (mkF m 80 #[.val (.ref ba), .val (.int st), .val (.int en), .val (.int ((ii + (1 : Int32)) + (1 : Int32))), .val (.int (own_kind ((own_sel b0 b1 b2 b3 ii) &&& (255 : Int32)))), .val (.int (own_sel b0 b1 b2 b3 (ii + (1 : Int32))))] []))
                refine OFin.back (fun _ hr => XS.goto X2.here hx rfl (pc0 := 80) (pc' := 2) rfl (hb hby d4_80) (by decide) (by decide) hr) ?_
                show OFin p e below s _ _ Q (T2.setTop (mkF m 2 #[.val (.ref ba), .val (.int st), .val (.int en), .val (.int ((ii + (1 : Int32)) + (1 : Int32))), .val (.int (own_kind ((own_sel b0 b1 b2 b3 ii) &&& (255 : Int32)))), .val (.int (own_sel b0 b1 b2 b3 (ii + (1 : Int32))))] []))
                exact ih ((ii + (1 : Int32)) + (1 : Int32)) _ _ _ _ X2 e2 NJ (One.val rfl) (One.val rfl) (own_b1 (own_b1 hi0 hlt he4) hc42_8 he4) (own_b2' hi0 hlt hc42_8 he4 hk) (hJ.trans (by rw [own_imnL, if_pos hc4_1, if_pos hc25_6, if_pos hc34_7, if_pos hc42_8, if_pos hc58_11]))
              · -- not (own_sel b0 b1 b2 b3 (ii + (1 : Int32))) = (92 : Int32)
                refine OFin.back (fun _ hr => XS.icmpNo X2.here hx rfl (hb hby d4_58) rfl (feq hc58_11).1 hr) ?_
                show OFin p e below s _ _ Q (T2.setTop (mkF m 61 #[.val (.ref ba), .val (.int st), .val (.int en), .val (.int (ii + (1 : Int32))), .val (.int (own_kind ((own_sel b0 b1 b2 b3 ii) &&& (255 : Int32)))), .val (.int (own_sel b0 b1 b2 b3 (ii + (1 : Int32))))] []))
                refine OFin.back (fun _ hr => XS.iload X2.here hx rfl (hb hby d4_61) rfl hr) ?_
                show OFin p e below s _ _ Q (T2.setTop (mkF m 63 #[.val (.ref ba), .val (.int st), .val (.int en), .val (.int (ii + (1 : Int32))), .val (.int (own_kind ((own_sel b0 b1 b2 b3 ii) &&& (255 : Int32)))), .val (.int (own_sel b0 b1 b2 b3 (ii + (1 : Int32))))] [(.int (own_sel b0 b1 b2 b3 (ii + (1 : Int32))))]))
                refine OFin.back (fun _ hr => XS.bipush X2.here hx rfl (hb hby d4_63) hr) ?_
                show OFin p e below s _ _ Q (T2.setTop (mkF m 65 #[.val (.ref ba), .val (.int st), .val (.int en), .val (.int (ii + (1 : Int32))), .val (.int (own_kind ((own_sel b0 b1 b2 b3 ii) &&& (255 : Int32)))), .val (.int (own_sel b0 b1 b2 b3 (ii + (1 : Int32))))] [(.int (58 : Int32)), (.int (own_sel b0 b1 b2 b3 (ii + (1 : Int32))))]))
                by_cases hc65_12 : (own_sel b0 b1 b2 b3 (ii + (1 : Int32))) = (58 : Int32)
                · -- (own_sel b0 b1 b2 b3 (ii + (1 : Int32))) = (58 : Int32)
                  refine OFin.back (fun _ hr => XS.icmpYes X2.here hx rfl (pc0 := 65) (pc' := 77) rfl (hb hby d4_65) rfl (teq hc65_12).1 (by decide) (by decide) hr) ?_
                  show OFin p e below s _ _ Q (T2.setTop (mkF m 77 #[.val (.ref ba), .val (.int st), .val (.int en), .val (.int (ii + (1 : Int32))), .val (.int (own_kind ((own_sel b0 b1 b2 b3 ii) &&& (255 : Int32)))), .val (.int (own_sel b0 b1 b2 b3 (ii + (1 : Int32))))] []))
                  refine OFin.back (fun _ hr => XS.iinc X2.here hx rfl (hb hby d4_77) rfl (l' := #[.val (.ref ba), .val (.int st), .val (.int en), .val (.int ((ii + (1 : Int32)) + (1 : Int32))), .val (.int (own_kind ((own_sel b0 b1 b2 b3 ii) &&& (255 : Int32)))), .val (.int (own_sel b0 b1 b2 b3 (ii + (1 : Int32))))]) rfl hr) ?_
                  show OFin p e below s _ _ Q (T2.setTop (mkF m 80 #[.val (.ref ba), .val (.int st), .val (.int en), .val (.int ((ii + (1 : Int32)) + (1 : Int32))), .val (.int (own_kind ((own_sel b0 b1 b2 b3 ii) &&& (255 : Int32)))), .val (.int (own_sel b0 b1 b2 b3 (ii + (1 : Int32))))] []))
                  refine OFin.back (fun _ hr => XS.goto X2.here hx rfl (pc0 := 80) (pc' := 2) rfl (hb hby d4_80) (by decide) (by decide) hr) ?_
                  show OFin p e below s _ _ Q (T2.setTop (mkF m 2 #[.val (.ref ba), .val (.int st), .val (.int en), .val (.int ((ii + (1 : Int32)) + (1 : Int32))), .val (.int (own_kind ((own_sel b0 b1 b2 b3 ii) &&& (255 : Int32)))), .val (.int (own_sel b0 b1 b2 b3 (ii + (1 : Int32))))] []))
                  exact ih ((ii + (1 : Int32)) + (1 : Int32)) _ _ _ _ X2 e2 NJ (One.val rfl) (One.val rfl) (own_b1 (own_b1 hi0 hlt he4) hc42_8 he4) (own_b2' hi0 hlt hc42_8 he4 hk) (hJ.trans (by rw [own_imnL, if_pos hc4_1, if_pos hc25_6, if_pos hc34_7, if_pos hc42_8, if_neg hc58_11, if_pos hc65_12]))
                · -- not (own_sel b0 b1 b2 b3 (ii + (1 : Int32))) = (58 : Int32)
                  refine OFin.back (fun _ hr => XS.icmpNo X2.here hx rfl (hb hby d4_65) rfl (feq hc65_12).1 hr) ?_
                  show OFin p e below s _ _ Q (T2.setTop (mkF m 68 #[.val (.ref ba), .val (.int st), .val (.int en), .val (.int (ii + (1 : Int32))), .val (.int (own_kind ((own_sel b0 b1 b2 b3 ii) &&& (255 : Int32)))), .val (.int (own_sel b0 b1 b2 b3 (ii + (1 : Int32))))] []))
                  refine OFin.back (fun _ hr => XS.iload X2.here hx rfl (hb hby d4_68) rfl hr) ?_
                  show OFin p e below s _ _ Q (T2.setTop (mkF m 70 #[.val (.ref ba), .val (.int st), .val (.int en), .val (.int (ii + (1 : Int32))), .val (.int (own_kind ((own_sel b0 b1 b2 b3 ii) &&& (255 : Int32)))), .val (.int (own_sel b0 b1 b2 b3 (ii + (1 : Int32))))] [(.int (own_sel b0 b1 b2 b3 (ii + (1 : Int32))))]))
                  refine OFin.back (fun _ hr => XS.bipush X2.here hx rfl (hb hby d4_70) hr) ?_
                  show OFin p e below s _ _ Q (T2.setTop (mkF m 72 #[.val (.ref ba), .val (.int st), .val (.int en), .val (.int (ii + (1 : Int32))), .val (.int (own_kind ((own_sel b0 b1 b2 b3 ii) &&& (255 : Int32)))), .val (.int (own_sel b0 b1 b2 b3 (ii + (1 : Int32))))] [(.int (64 : Int32)), (.int (own_sel b0 b1 b2 b3 (ii + (1 : Int32))))]))
                  by_cases hc72_13 : (own_sel b0 b1 b2 b3 (ii + (1 : Int32))) = (64 : Int32)
                  · -- (own_sel b0 b1 b2 b3 (ii + (1 : Int32))) = (64 : Int32)
                    refine OFin.back (fun _ hr => XS.icmpYes X2.here hx rfl (pc0 := 72) (pc' := 77) rfl (hb hby d4_72) rfl (teq hc72_13).1 (by decide) (by decide) hr) ?_
                    show OFin p e below s _ _ Q (T2.setTop (mkF m 77 #[.val (.ref ba), .val (.int st), .val (.int en), .val (.int (ii + (1 : Int32))), .val (.int (own_kind ((own_sel b0 b1 b2 b3 ii) &&& (255 : Int32)))), .val (.int (own_sel b0 b1 b2 b3 (ii + (1 : Int32))))] []))
                    refine OFin.back (fun _ hr => XS.iinc X2.here hx rfl (hb hby d4_77) rfl (l' := #[.val (.ref ba), .val (.int st), .val (.int en), .val (.int ((ii + (1 : Int32)) + (1 : Int32))), .val (.int (own_kind ((own_sel b0 b1 b2 b3 ii) &&& (255 : Int32)))), .val (.int (own_sel b0 b1 b2 b3 (ii + (1 : Int32))))]) rfl hr) ?_
                    show OFin p e below s _ _ Q (T2.setTop (mkF m 80 #[.val (.ref ba), .val (.int st), .val (.int en), .val (.int ((ii + (1 : Int32)) + (1 : Int32))), .val (.int (own_kind ((own_sel b0 b1 b2 b3 ii) &&& (255 : Int32)))), .val (.int (own_sel b0 b1 b2 b3 (ii + (1 : Int32))))] []))
                    refine OFin.back (fun _ hr => XS.goto X2.here hx rfl (pc0 := 80) (pc' := 2) rfl (hb hby d4_80) (by decide) (by decide) hr) ?_
                    show OFin p e below s _ _ Q (T2.setTop (mkF m 2 #[.val (.ref ba), .val (.int st), .val (.int en), .val (.int ((ii + (1 : Int32)) + (1 : Int32))), .val (.int (own_kind ((own_sel b0 b1 b2 b3 ii) &&& (255 : Int32)))), .val (.int (own_sel b0 b1 b2 b3 (ii + (1 : Int32))))] []))
                    exact ih ((ii + (1 : Int32)) + (1 : Int32)) _ _ _ _ X2 e2 NJ (One.val rfl) (One.val rfl) (own_b1 (own_b1 hi0 hlt he4) hc42_8 he4) (own_b2' hi0 hlt hc42_8 he4 hk) (hJ.trans (by rw [own_imnL, if_pos hc4_1, if_pos hc25_6, if_pos hc34_7, if_pos hc42_8, if_neg hc58_11, if_neg hc65_12, if_pos hc72_13]))
                  · -- not (own_sel b0 b1 b2 b3 (ii + (1 : Int32))) = (64 : Int32)
                    refine OFin.back (fun _ hr => XS.icmpNo X2.here hx rfl (hb hby d4_72) rfl (feq hc72_13).1 hr) ?_
                    show OFin p e below s _ _ Q (T2.setTop (mkF m 75 #[.val (.ref ba), .val (.int st), .val (.int en), .val (.int (ii + (1 : Int32))), .val (.int (own_kind ((own_sel b0 b1 b2 b3 ii) &&& (255 : Int32)))), .val (.int (own_sel b0 b1 b2 b3 (ii + (1 : Int32))))] []))
                    refine OFin.back (fun _ hr => XS.iconst X2.here hx rfl (hb hby d4_75) hr) ?_
                    show OFin p e below s _ _ Q (T2.setTop (mkF m 76 #[.val (.ref ba), .val (.int st), .val (.int en), .val (.int (ii + (1 : Int32))), .val (.int (own_kind ((own_sel b0 b1 b2 b3 ii) &&& (255 : Int32)))), .val (.int (own_sel b0 b1 b2 b3 (ii + (1 : Int32))))] [(.int (0 : Int32))]))
                    exact OFin.outN (t := .boolean) X2 hx Bd.returns (by simp) Bd.notSynchronized (hb hby d4_76) (by decide) (by decide) e2 (by rw [hQ]; exact ⟨by rw [hJ, own_imnL, if_pos hc4_1, if_pos hc25_6, if_pos hc34_7, if_pos hc42_8, if_neg hc58_11, if_neg hc65_12, if_neg hc72_13]; try rfl, NJ, rfl⟩)
            · -- not (ii + (1 : Int32)) < en
              refine OFin.back (fun _ hr => XS.icmpYes X2.here hx rfl (pc0 := 42) (pc' := 51) rfl (hb hby d4_42) rfl (flt hc42_8).2.1 (by decide) (by decide) hr) ?_
              show OFin p e below s _ _ Q (T2.setTop (mkF m 51 #[.val (.ref ba), .val (.int st), .val (.int en), .val (.int (ii + (1 : Int32))), .val (.int (own_kind ((own_sel b0 b1 b2 b3 ii) &&& (255 : Int32)))), s5] []))
              refine OFin.back (fun _ hr => XS.iconst X2.here hx rfl (hb hby d4_51) hr) ?_
              show OFin p e below s _ _ Q (T2.setTop (mkF m 52 #[.val (.ref ba), .val (.int st), .val (.int en), .val (.int (ii + (1 : Int32))), .val (.int (own_kind ((own_sel b0 b1 b2 b3 ii) &&& (255 : Int32)))), s5] [(.int (0 : Int32))]))
              have os14 : storeLocals #[.val (.ref ba), .val (.int st), .val (.int en), .val (.int (ii + (1 : Int32))), .val (.int (own_kind ((own_sel b0 b1 b2 b3 ii) &&& (255 : Int32)))), s5] 5 (.int (0 : Int32)) = some #[.val (.ref ba), .val (.int st), .val (.int en), .val (.int (ii + (1 : Int32))), .val (.int (own_kind ((own_sel b0 b1 b2 b3 ii) &&& (255 : Int32)))), .val (.int (0 : Int32))] := by
                rcases hs5 with rfl | ⟨w, rfl, hw⟩
                · rfl
                · cases w <;> first | rfl | (simp [Value.category] at hw)
              refine OFin.back (fun _ hr => XS.istore X2.here hx rfl (hb hby d4_52) rfl (l' := #[.val (.ref ba), .val (.int st), .val (.int en), .val (.int (ii + (1 : Int32))), .val (.int (own_kind ((own_sel b0 b1 b2 b3 ii) &&& (255 : Int32)))), .val (.int (0 : Int32))]) os14 hr) ?_
              show OFin p e below s _ _ Q (T2.setTop (mkF m 54 #[.val (.ref ba), .val (.int st), .val (.int en), .val (.int (ii + (1 : Int32))), .val (.int (own_kind ((own_sel b0 b1 b2 b3 ii) &&& (255 : Int32)))), .val (.int (0 : Int32))] []))
              refine OFin.back (fun _ hr => XS.iload X2.here hx rfl (hb hby d4_54) rfl hr) ?_
              show OFin p e below s _ _ Q (T2.setTop (mkF m 56 #[.val (.ref ba), .val (.int st), .val (.int en), .val (.int (ii + (1 : Int32))), .val (.int (own_kind ((own_sel b0 b1 b2 b3 ii) &&& (255 : Int32)))), .val (.int (0 : Int32))] [(.int (0 : Int32))]))
              refine OFin.back (fun _ hr => XS.bipush X2.here hx rfl (hb hby d4_56) hr) ?_
              show OFin p e below s _ _ Q (T2.setTop (mkF m 58 #[.val (.ref ba), .val (.int st), .val (.int en), .val (.int (ii + (1 : Int32))), .val (.int (own_kind ((own_sel b0 b1 b2 b3 ii) &&& (255 : Int32)))), .val (.int (0 : Int32))] [(.int (92 : Int32)), (.int (0 : Int32))]))
              refine OFin.back (fun _ hr => XS.icmpNo X2.here hx rfl (hb hby d4_58) rfl (feq (by decide : ¬ ((0 : Int32) = (92 : Int32)))).1 hr) ?_
              show OFin p e below s _ _ Q (T2.setTop (mkF m 61 #[.val (.ref ba), .val (.int st), .val (.int en), .val (.int (ii + (1 : Int32))), .val (.int (own_kind ((own_sel b0 b1 b2 b3 ii) &&& (255 : Int32)))), .val (.int (0 : Int32))] []))
              refine OFin.back (fun _ hr => XS.iload X2.here hx rfl (hb hby d4_61) rfl hr) ?_
              show OFin p e below s _ _ Q (T2.setTop (mkF m 63 #[.val (.ref ba), .val (.int st), .val (.int en), .val (.int (ii + (1 : Int32))), .val (.int (own_kind ((own_sel b0 b1 b2 b3 ii) &&& (255 : Int32)))), .val (.int (0 : Int32))] [(.int (0 : Int32))]))
              refine OFin.back (fun _ hr => XS.bipush X2.here hx rfl (hb hby d4_63) hr) ?_
              show OFin p e below s _ _ Q (T2.setTop (mkF m 65 #[.val (.ref ba), .val (.int st), .val (.int en), .val (.int (ii + (1 : Int32))), .val (.int (own_kind ((own_sel b0 b1 b2 b3 ii) &&& (255 : Int32)))), .val (.int (0 : Int32))] [(.int (58 : Int32)), (.int (0 : Int32))]))
              refine OFin.back (fun _ hr => XS.icmpNo X2.here hx rfl (hb hby d4_65) rfl (feq (by decide : ¬ ((0 : Int32) = (58 : Int32)))).1 hr) ?_
              show OFin p e below s _ _ Q (T2.setTop (mkF m 68 #[.val (.ref ba), .val (.int st), .val (.int en), .val (.int (ii + (1 : Int32))), .val (.int (own_kind ((own_sel b0 b1 b2 b3 ii) &&& (255 : Int32)))), .val (.int (0 : Int32))] []))
              refine OFin.back (fun _ hr => XS.iload X2.here hx rfl (hb hby d4_68) rfl hr) ?_
              show OFin p e below s _ _ Q (T2.setTop (mkF m 70 #[.val (.ref ba), .val (.int st), .val (.int en), .val (.int (ii + (1 : Int32))), .val (.int (own_kind ((own_sel b0 b1 b2 b3 ii) &&& (255 : Int32)))), .val (.int (0 : Int32))] [(.int (0 : Int32))]))
              refine OFin.back (fun _ hr => XS.bipush X2.here hx rfl (hb hby d4_70) hr) ?_
              show OFin p e below s _ _ Q (T2.setTop (mkF m 72 #[.val (.ref ba), .val (.int st), .val (.int en), .val (.int (ii + (1 : Int32))), .val (.int (own_kind ((own_sel b0 b1 b2 b3 ii) &&& (255 : Int32)))), .val (.int (0 : Int32))] [(.int (64 : Int32)), (.int (0 : Int32))]))
              refine OFin.back (fun _ hr => XS.icmpNo X2.here hx rfl (hb hby d4_72) rfl (feq (by decide : ¬ ((0 : Int32) = (64 : Int32)))).1 hr) ?_
              show OFin p e below s _ _ Q (T2.setTop (mkF m 75 #[.val (.ref ba), .val (.int st), .val (.int en), .val (.int (ii + (1 : Int32))), .val (.int (own_kind ((own_sel b0 b1 b2 b3 ii) &&& (255 : Int32)))), .val (.int (0 : Int32))] []))
              refine OFin.back (fun _ hr => XS.iconst X2.here hx rfl (hb hby d4_75) hr) ?_
              show OFin p e below s _ _ Q (T2.setTop (mkF m 76 #[.val (.ref ba), .val (.int st), .val (.int en), .val (.int (ii + (1 : Int32))), .val (.int (own_kind ((own_sel b0 b1 b2 b3 ii) &&& (255 : Int32)))), .val (.int (0 : Int32))] [(.int (0 : Int32))]))
              exact OFin.outN (t := .boolean) X2 hx Bd.returns (by simp) Bd.notSynchronized (hb hby d4_76) (by decide) (by decide) e2 (by rw [hQ]; exact ⟨by rw [hJ, own_imnL, if_pos hc4_1, if_pos hc25_6, if_pos hc34_7, if_neg hc42_8]; try rfl, NJ, rfl⟩)
          · -- not (own_kind ((own_sel b0 b1 b2 b3 ii) &&& (255 : Int32))) = (32 : Int32)
            refine OFin.back (fun _ hr => XS.icmpYes X2.here hx rfl (pc0 := 34) (pc' := 77) rfl (hb hby d4_34) rfl (feq hc34_7).2 (by decide) (by decide) hr) ?_
            show OFin p e below s _ _ Q (T2.setTop (mkF m 77 #[.val (.ref ba), .val (.int st), .val (.int en), .val (.int ii), .val (.int (own_kind ((own_sel b0 b1 b2 b3 ii) &&& (255 : Int32)))), s5] []))
            refine OFin.back (fun _ hr => XS.iinc X2.here hx rfl (hb hby d4_77) rfl (l' := #[.val (.ref ba), .val (.int st), .val (.int en), .val (.int (ii + (1 : Int32))), .val (.int (own_kind ((own_sel b0 b1 b2 b3 ii) &&& (255 : Int32)))), s5]) rfl hr) ?_
            show OFin p e below s _ _ Q (T2.setTop (mkF m 80 #[.val (.ref ba), .val (.int st), .val (.int en), .val (.int (ii + (1 : Int32))), .val (.int (own_kind ((own_sel b0 b1 b2 b3 ii) &&& (255 : Int32)))), s5] []))
            refine OFin.back (fun _ hr => XS.goto X2.here hx rfl (pc0 := 80) (pc' := 2) rfl (hb hby d4_80) (by decide) (by decide) hr) ?_
            show OFin p e below s _ _ Q (T2.setTop (mkF m 2 #[.val (.ref ba), .val (.int st), .val (.int en), .val (.int (ii + (1 : Int32))), .val (.int (own_kind ((own_sel b0 b1 b2 b3 ii) &&& (255 : Int32)))), s5] []))
            exact ih (ii + (1 : Int32)) _ _ _ _ X2 e2 NJ (One.val rfl) hs5 (own_b1 hi0 hlt he4) (own_b2 hi0 hlt he4 hk) (hJ.trans (by rw [own_imnL, if_pos hc4_1, if_pos hc25_6, if_neg hc34_7]))
        · -- not ((own_kind ((own_sel b0 b1 b2 b3 ii) &&& (255 : Int32))) &&& (16 : Int32)) = (0 : Int32)
          refine OFin.back (fun _ hr => XS.ifNo X2.here hx rfl (hb hby d4_25) rfl ((if0 _ _).trans (feq hc25_6).1) hr) ?_
          show OFin p e below s _ _ Q (T2.setTop (mkF m 28 #[.val (.ref ba), .val (.int st), .val (.int en), .val (.int ii), .val (.int (own_kind ((own_sel b0 b1 b2 b3 ii) &&& (255 : Int32)))), s5] []))
          refine OFin.back (fun _ hr => XS.iconst X2.here hx rfl (hb hby d4_28) hr) ?_
          show OFin p e below s _ _ Q (T2.setTop (mkF m 29 #[.val (.ref ba), .val (.int st), .val (.int en), .val (.int ii), .val (.int (own_kind ((own_sel b0 b1 b2 b3 ii) &&& (255 : Int32)))), s5] [(.int (0 : Int32))]))
          exact OFin.outN (t := .boolean) X2 hx Bd.returns (by simp) Bd.notSynchronized (hb hby d4_29) (by decide) (by decide) e2 (by rw [hQ]; exact ⟨by rw [hJ, own_imnL, if_pos hc4_1, if_neg hc25_6]; try rfl, NJ, rfl⟩)
      · -- not ii < en
        refine OFin.back (fun _ hr => XS.icmpYes XJ.here hx rfl (pc0 := 4) (pc' := 83) rfl (hb hby d4_4) rfl (flt hc4_1).2.1 (by decide) (by decide) hr) ?_
        show OFin p e below s _ _ Q (TJ.setTop (mkF m 83 #[.val (.ref ba), .val (.int st), .val (.int en), .val (.int ii), s4, s5] []))
        refine OFin.back (fun _ hr => XS.iconst XJ.here hx rfl (hb hby d4_83) hr) ?_
        show OFin p e below s _ _ Q (TJ.setTop (mkF m 84 #[.val (.ref ba), .val (.int st), .val (.int en), .val (.int ii), s4, s5] [(.int (1 : Int32))]))
        exact OFin.outN (t := .boolean) XJ hx Bd.returns (by simp) Bd.notSynchronized (hb hby d4_84) (by decide) (by decide) eJ (by rw [hQ]; exact ⟨by rw [hJ, own_imnL, if_neg hc4_1]; try rfl, NJ, rfl⟩)
  exact LOOP 4 st _ _ _ _ X0 e0 N0 One.u One.u hs0 (by omega) rfl
def own_cls (b : Int32) : Fin 4 := if (b &&& (255 : Int32)) = 92 then 1 else if (b &&& (255 : Int32)) = 58 ∨ (b &&& (255 : Int32)) = 64 then 2 else if ((1 : Int32) ≤ (b &&& (255 : Int32)) ∧ (b &&& (255 : Int32)) ≤ 31) ∨ (b &&& (255 : Int32)) = 192 then 3 else 0
def own_selF (x0 x1 x2 x3 : Fin 4) (j : Int32) : Fin 4 := if j = 0 then x0 else if j = 1 then x1 else if j = 2 then x2 else x3
def own_tail (c : Int32) : Int32 := (if c < (1 : Int32) then (if c = (192 : Int32) then (0 : Int32) else (if c = (58 : Int32) then (0 : Int32) else (if c = (64 : Int32) then (0 : Int32) else (1 : Int32)))) else (if (31 : Int32) < c then (if c = (192 : Int32) then (0 : Int32) else (if c = (58 : Int32) then (0 : Int32) else (if c = (64 : Int32) then (0 : Int32) else (1 : Int32)))) else (0 : Int32)))
def own_escd (c : Int32) : Int32 := (if c = (92 : Int32) then (1 : Int32) else (if c = (58 : Int32) then (1 : Int32) else (if c = (64 : Int32) then (1 : Int32) else (0 : Int32))))
def own_facts (b : Int32) : Bool := ((decide (((own_kind (b &&& (255 : Int32))) &&& (16 : Int32)) = (0 : Int32)) == !decide (own_cls b = 2 ∨ own_cls b = 3)) && ((decide ((own_kind (b &&& (255 : Int32))) = (32 : Int32)) == decide (own_cls b = 1)) && ((decide (b = 92 ∨ b = 58 ∨ b = 64) == decide (own_cls b = 1 ∨ own_cls b = 2)) && ((decide ((b &&& (255 : Int32)) = (92 : Int32)) == decide (own_cls b = 1)) && ((own_escd (b &&& (255 : Int32)) == (if own_cls b = 1 ∨ own_cls b = 2 then 1 else 0)) && (own_tail (b &&& (255 : Int32)) == (if own_cls b = 0 ∨ own_cls b = 1 then 1 else 0)))))))
theorem own_exh : ∀ n : Fin 256, own_facts (Int32.ofInt ((n.val : Int) - 128)) = true := by decide +kernel
theorem own_byte {b : Int32} (h : -128 ≤ b.toInt ∧ b.toInt < 128) : (decide (((own_kind (b &&& (255 : Int32))) &&& (16 : Int32)) = (0 : Int32)) = !decide (own_cls b = 2 ∨ own_cls b = 3)) ∧ (decide ((own_kind (b &&& (255 : Int32))) = (32 : Int32)) = decide (own_cls b = 1)) ∧ (decide (b = 92 ∨ b = 58 ∨ b = 64) = decide (own_cls b = 1 ∨ own_cls b = 2)) ∧ (decide ((b &&& (255 : Int32)) = (92 : Int32)) = decide (own_cls b = 1)) ∧ own_escd (b &&& (255 : Int32)) = (if own_cls b = 1 ∨ own_cls b = 2 then 1 else 0) ∧ own_tail (b &&& (255 : Int32)) = (if own_cls b = 0 ∨ own_cls b = 1 then 1 else 0) := by
  have q := own_exh ⟨(b.toInt + 128).toNat, by omega⟩
  have e : (((b.toInt + 128).toNat : Nat) : Int) - 128 = b.toInt := by omega
  have e2 : Int32.ofInt b.toInt = b := Int32.ofInt_toInt b
  simp only [e, e2] at q
  simp only [own_facts, Bool.and_eq_true, beq_iff_eq] at q
  exact q
theorem own_selC (b0 b1 b2 b3 j : Int32) : own_cls (own_sel b0 b1 b2 b3 j) = own_selF (own_cls b0) (own_cls b1) (own_cls b2) (own_cls b3) j := by
  unfold own_sel own_selF
  split
  · rfl
  · split
    · rfl
    · split <;> rfl
theorem own_selR (b0 b1 b2 b3 j : Int32) (P : Int32 → Prop) (h0 : P b0) (h1 : P b1) (h2 : P b2) (h3 : P b3) : P (own_sel b0 b1 b2 b3 j) := by
  unfold own_sel
  split
  · exact h0
  · split
    · exact h1
    · split
      · exact h2
      · exact h3
def own_jL : Nat → Fin 4 → Fin 4 → Fin 4 → Fin 4 → Int32 → Int32 → Int32
  | 0, _, _, _, _, _, _ => 1
  | k + 1, c0, c1, c2, c3, en, ii => if ii < en then (if own_selF c0 c1 c2 c3 ii = 2 ∨ own_selF c0 c1 c2 c3 ii = 3 then 0 else (if own_selF c0 c1 c2 c3 ii = 1 then (if (ii + (1 : Int32)) < en then (if own_selF c0 c1 c2 c3 (ii + (1 : Int32)) = 1 ∨ own_selF c0 c1 c2 c3 (ii + (1 : Int32)) = 2 then own_jL k c0 c1 c2 c3 en ((ii + (1 : Int32)) + (1 : Int32)) else 0) else 0) else own_jL k c0 c1 c2 c3 en (ii + (1 : Int32)))) else 1
theorem own_loopC {b0 b1 b2 b3 en : Int32} (h0 : -128 ≤ b0.toInt ∧ b0.toInt < 128) (h1 : -128 ≤ b1.toInt ∧ b1.toInt < 128) (h2 : -128 ≤ b2.toInt ∧ b2.toInt < 128) (h3 : -128 ≤ b3.toInt ∧ b3.toInt < 128) (k : Nat) : ∀ ii : Int32, own_imnL k b0 b1 b2 b3 en ii = own_jL k (own_cls b0) (own_cls b1) (own_cls b2) (own_cls b3) en ii := by
  induction k with
  | zero => intro ii; rw [own_imnL, own_jL]
  | succ k ih =>
    intro ii
    obtain ⟨c1, c2, -⟩ := own_byte (own_selR b0 b1 b2 b3 ii (fun b => -128 ≤ b.toInt ∧ b.toInt < 128) h0 h1 h2 h3)
    obtain ⟨-, -, c3, -⟩ := own_byte (own_selR b0 b1 b2 b3 (ii + (1 : Int32)) (fun b => -128 ≤ b.toInt ∧ b.toInt < 128) h0 h1 h2 h3)
    rw [own_imnL, own_jL, ← own_selC, ← own_selC]
    by_cases q : ii < en
    · rw [if_pos q, if_pos q]
      by_cases r : ((own_kind ((own_sel b0 b1 b2 b3 ii) &&& (255 : Int32))) &&& (16 : Int32)) = (0 : Int32)
      · have r2 : ¬ (own_cls (own_sel b0 b1 b2 b3 ii) = 2 ∨ own_cls (own_sel b0 b1 b2 b3 ii) = 3) := by rw [decide_eq_true r] at c1; intro z; rw [decide_eq_true z] at c1; cases c1
        rw [if_pos r, if_neg r2]
        by_cases u : (own_kind ((own_sel b0 b1 b2 b3 ii) &&& (255 : Int32))) = (32 : Int32)
        · have u2 : own_cls (own_sel b0 b1 b2 b3 ii) = 1 := by rw [decide_eq_true u] at c2; exact of_decide_eq_true c2.symm
          rw [if_pos u, if_pos u2]
          by_cases t : (ii + (1 : Int32)) < en
          · rw [if_pos t, if_pos t]
            by_cases y : (own_sel b0 b1 b2 b3 (ii + (1 : Int32))) = 92 ∨ (own_sel b0 b1 b2 b3 (ii + (1 : Int32))) = 58 ∨ (own_sel b0 b1 b2 b3 (ii + (1 : Int32))) = 64
            · have y2 : own_cls (own_sel b0 b1 b2 b3 (ii + (1 : Int32))) = 1 ∨ own_cls (own_sel b0 b1 b2 b3 (ii + (1 : Int32))) = 2 := by rw [decide_eq_true y] at c3; exact of_decide_eq_true c3.symm
              rw [if_pos y2, ih]
              rcases y with y | y | y
              · rw [if_pos y]
              · rw [if_neg (by rw [y]; decide), if_pos y]
              · rw [if_neg (by rw [y]; decide), if_neg (by rw [y]; decide), if_pos y]
            · have y2 : ¬ (own_cls (own_sel b0 b1 b2 b3 (ii + (1 : Int32))) = 1 ∨ own_cls (own_sel b0 b1 b2 b3 (ii + (1 : Int32))) = 2) := by rw [decide_eq_false y] at c3; exact of_decide_eq_false c3.symm
              rw [if_neg y2, if_neg (fun z => y (Or.inl z)), if_neg (fun z => y (Or.inr (Or.inl z))), if_neg (fun z => y (Or.inr (Or.inr z)))]
          · rw [if_neg t, if_neg t]
        · have u2 : ¬ own_cls (own_sel b0 b1 b2 b3 ii) = 1 := by rw [decide_eq_false u] at c2; exact of_decide_eq_false c2.symm
          rw [if_neg u, if_neg u2, ih]
      · have r2 : own_cls (own_sel b0 b1 b2 b3 ii) = 2 ∨ own_cls (own_sel b0 b1 b2 b3 ii) = 3 := by
          rw [decide_eq_false r] at c1
          by_cases z : own_cls (own_sel b0 b1 b2 b3 ii) = 2 ∨ own_cls (own_sel b0 b1 b2 b3 ii) = 3
          · exact z
          · rw [decide_eq_false z] at c1; cases c1
        rw [if_neg r, if_pos r2]
    · rw [if_neg q, if_neg q]
def own_isbG (c0 c1 c2 c3 : Fin 4) (j : Int32) : Int32 := if own_selF c0 c1 c2 c3 j = 1 then 1 else 0
def own_e59 (nn : Int32) : Int32 := (if (nn &&& (1 : Int32)) = (0 : Int32) then (0 : Int32) else (1 : Int32))
def own_escG (c0 c1 c2 c3 : Fin 4) (st ix : Int32) : Int32 := (if (ix - (1 : Int32)) < st then own_e59 0 else (if own_isbG c0 c1 c2 c3 (ix - (1 : Int32)) = (0 : Int32) then own_e59 0 else (if (ix - (2 : Int32)) < st then own_e59 1 else (if own_isbG c0 c1 c2 c3 (ix - (2 : Int32)) = (0 : Int32) then own_e59 1 else (if (ix - (3 : Int32)) < st then own_e59 2 else (if own_isbG c0 c1 c2 c3 (ix - (3 : Int32)) = (0 : Int32) then own_e59 2 else own_e59 3))))))
def own_posG (c0 c1 c2 c3 : Fin 4) (st en ix : Int32) : Int32 := if ix < st then 1 else (if ix < en then (if own_escG c0 c1 c2 c3 st ix = 0 then (if own_selF c0 c1 c2 c3 ix = 1 then (if (ix + (1 : Int32)) < en then 1 else 0) else (if own_selF c0 c1 c2 c3 ix = 0 ∨ own_selF c0 c1 c2 c3 ix = 1 then 1 else 0)) else (if own_selF c0 c1 c2 c3 ix = 1 ∨ own_selF c0 c1 c2 c3 ix = 2 then 1 else 0)) else 1)
theorem own_isbC {b0 b1 b2 b3 : Int32} (h0 : -128 ≤ b0.toInt ∧ b0.toInt < 128) (h1 : -128 ≤ b1.toInt ∧ b1.toInt < 128) (h2 : -128 ≤ b2.toInt ∧ b2.toInt < 128) (h3 : -128 ≤ b3.toInt ∧ b3.toInt < 128) (j : Int32) : own_isb b0 b1 b2 b3 j = own_isbG (own_cls b0) (own_cls b1) (own_cls b2) (own_cls b3) j := by
  obtain ⟨-, -, -, c4, -⟩ := own_byte (own_selR b0 b1 b2 b3 j (fun b => -128 ≤ b.toInt ∧ b.toInt < 128) h0 h1 h2 h3)
  unfold own_isb own_isbG
  rw [← own_selC]
  by_cases q : ((own_sel b0 b1 b2 b3 j) &&& (255 : Int32)) = (92 : Int32)
  · have q2 : own_cls (own_sel b0 b1 b2 b3 j) = 1 := by rw [decide_eq_true q] at c4; exact of_decide_eq_true c4.symm
    rw [if_pos q, if_pos q2]
  · have q2 : ¬ own_cls (own_sel b0 b1 b2 b3 j) = 1 := by rw [decide_eq_false q] at c4; exact of_decide_eq_false c4.symm
    rw [if_neg q, if_neg q2]
theorem own_escC {b0 b1 b2 b3 : Int32} (h0 : -128 ≤ b0.toInt ∧ b0.toInt < 128) (h1 : -128 ≤ b1.toInt ∧ b1.toInt < 128) (h2 : -128 ≤ b2.toInt ∧ b2.toInt < 128) (h3 : -128 ≤ b3.toInt ∧ b3.toInt < 128) (st ix : Int32) : own_esc b0 b1 b2 b3 st ix = own_escG (own_cls b0) (own_cls b1) (own_cls b2) (own_cls b3) st ix := by
  unfold own_esc own_escG own_esc59 own_e59
  rw [own_isbC h0 h1 h2 h3, own_isbC h0 h1 h2 h3, own_isbC h0 h1 h2 h3]
theorem own_posT (b0 b1 b2 b3 st en ix : Int32) : own_pos b0 b1 b2 b3 st en ix = if ix < st then 1 else (if ix < en then (if own_esc b0 b1 b2 b3 st ix = 0 then (if ((own_sel b0 b1 b2 b3 ix) &&& (255 : Int32)) = (92 : Int32) then (if (ix + (1 : Int32)) < en then 1 else 0) else own_tail ((own_sel b0 b1 b2 b3 ix) &&& (255 : Int32))) else own_escd ((own_sel b0 b1 b2 b3 ix) &&& (255 : Int32))) else 1) := rfl
theorem own_posC {b0 b1 b2 b3 : Int32} (h0 : -128 ≤ b0.toInt ∧ b0.toInt < 128) (h1 : -128 ≤ b1.toInt ∧ b1.toInt < 128) (h2 : -128 ≤ b2.toInt ∧ b2.toInt < 128) (h3 : -128 ≤ b3.toInt ∧ b3.toInt < 128) (st en ix : Int32) : own_pos b0 b1 b2 b3 st en ix = own_posG (own_cls b0) (own_cls b1) (own_cls b2) (own_cls b3) st en ix := by
  obtain ⟨-, -, -, c4, c5, c6⟩ := own_byte (own_selR b0 b1 b2 b3 ix (fun b => -128 ≤ b.toInt ∧ b.toInt < 128) h0 h1 h2 h3)
  rw [own_posT, own_posG, own_escC h0 h1 h2 h3, c5, c6, ← own_selC]
  by_cases q : ((own_sel b0 b1 b2 b3 ix) &&& (255 : Int32)) = (92 : Int32)
  · have q2 : own_cls (own_sel b0 b1 b2 b3 ix) = 1 := by rw [decide_eq_true q] at c4; exact of_decide_eq_true c4.symm
    simp only [if_pos q, if_pos q2]
  · have q2 : ¬ own_cls (own_sel b0 b1 b2 b3 ix) = 1 := by rw [decide_eq_false q] at c4; exact of_decide_eq_false c4.symm
    simp only [if_neg q, if_neg q2]
def own_lit5 : List Int32 := [0, 1, 2, 3, 4]
def own_want (c0 c1 c2 c3 : Fin 4) (st en : Int32) : Int32 := if own_posG c0 c1 c2 c3 st en 0 = 0 then 0 else if own_posG c0 c1 c2 c3 st en 1 = 0 then 0 else if own_posG c0 c1 c2 c3 st en 2 = 0 then 0 else if own_posG c0 c1 c2 c3 st en 3 = 0 then 0 else 1
theorem own_all : ∀ c0 c1 c2 c3 : Fin 4, own_lit5.all (fun st => own_lit5.all (fun en => decide (own_jL 4 c0 c1 c2 c3 en st = own_want c0 c1 c2 c3 st en))) = true := by decide +kernel
theorem own_lits {x : Int32} (h : 0 ≤ x.toInt ∧ x.toInt ≤ 4) : x ∈ own_lit5 := by
  have a0 : (0 : Int32).toInt = 0 := by decide
  have a1 : (1 : Int32).toInt = 1 := by decide
  have a2 : (2 : Int32).toInt = 2 := by decide
  have a3 : (3 : Int32).toInt = 3 := by decide
  have a4 : (4 : Int32).toInt = 4 := by decide
  have q : x = 0 ∨ x = 1 ∨ x = 2 ∨ x = 3 ∨ x = 4 := by
    simp only [← Int32.toInt_inj, a0, a1, a2, a3, a4]
    omega
  rcases q with rfl | rfl | rfl | rfl | rfl <;> decide
theorem own_lawW {b0 b1 b2 b3 st en : Int32} (h0 : -128 ≤ b0.toInt ∧ b0.toInt < 128) (h1 : -128 ≤ b1.toInt ∧ b1.toInt < 128) (h2 : -128 ≤ b2.toInt ∧ b2.toInt < 128) (h3 : -128 ≤ b3.toInt ∧ b3.toInt < 128) (hs : 0 ≤ st.toInt ∧ st.toInt ≤ 4) (he : 0 ≤ en.toInt ∧ en.toInt ≤ 4) : own_imn b0 b1 b2 b3 st en = own_want (own_cls b0) (own_cls b1) (own_cls b2) (own_cls b3) st en := by
  have q := List.all_eq_true.mp (List.all_eq_true.mp (own_all (own_cls b0) (own_cls b1) (own_cls b2) (own_cls b3)) _ (own_lits hs)) _ (own_lits he)
  rw [own_imn, own_loopC h0 h1 h2 h3]
  exact of_decide_eq_true q
theorem own_lawT {b0 b1 b2 b3 st en : Int32} (h0 : -128 ≤ b0.toInt ∧ b0.toInt < 128) (h1 : -128 ≤ b1.toInt ∧ b1.toInt < 128) (h2 : -128 ≤ b2.toInt ∧ b2.toInt < 128) (h3 : -128 ≤ b3.toInt ∧ b3.toInt < 128) (hs : 0 ≤ st.toInt ∧ st.toInt ≤ 4) (he : 0 ≤ en.toInt ∧ en.toInt ≤ 4) (q0 : ¬ own_pos b0 b1 b2 b3 st en 0 = 0) (q1 : ¬ own_pos b0 b1 b2 b3 st en 1 = 0) (q2 : ¬ own_pos b0 b1 b2 b3 st en 2 = 0) (q3 : ¬ own_pos b0 b1 b2 b3 st en 3 = 0) : own_imn b0 b1 b2 b3 st en = 1 := by
  rw [own_posC h0 h1 h2 h3] at q0 q1 q2 q3
  rw [own_lawW h0 h1 h2 h3 hs he, own_want, if_neg q0, if_neg q1, if_neg q2, if_neg q3]
theorem own_lawF0 {b0 b1 b2 b3 st en : Int32} (h0 : -128 ≤ b0.toInt ∧ b0.toInt < 128) (h1 : -128 ≤ b1.toInt ∧ b1.toInt < 128) (h2 : -128 ≤ b2.toInt ∧ b2.toInt < 128) (h3 : -128 ≤ b3.toInt ∧ b3.toInt < 128) (hs : 0 ≤ st.toInt ∧ st.toInt ≤ 4) (he : 0 ≤ en.toInt ∧ en.toInt ≤ 4) (q : own_pos b0 b1 b2 b3 st en 0 = 0) : own_imn b0 b1 b2 b3 st en = 0 := by
  rw [own_posC h0 h1 h2 h3] at q
  rw [own_lawW h0 h1 h2 h3 hs he, own_want, if_pos q]
theorem own_lawF1 {b0 b1 b2 b3 st en : Int32} (h0 : -128 ≤ b0.toInt ∧ b0.toInt < 128) (h1 : -128 ≤ b1.toInt ∧ b1.toInt < 128) (h2 : -128 ≤ b2.toInt ∧ b2.toInt < 128) (h3 : -128 ≤ b3.toInt ∧ b3.toInt < 128) (hs : 0 ≤ st.toInt ∧ st.toInt ≤ 4) (he : 0 ≤ en.toInt ∧ en.toInt ≤ 4) (q : own_pos b0 b1 b2 b3 st en 1 = 0) : own_imn b0 b1 b2 b3 st en = 0 := by
  rw [own_posC h0 h1 h2 h3] at q
  rw [own_lawW h0 h1 h2 h3 hs he, own_want, if_pos q, ite_self]
theorem own_lawF2 {b0 b1 b2 b3 st en : Int32} (h0 : -128 ≤ b0.toInt ∧ b0.toInt < 128) (h1 : -128 ≤ b1.toInt ∧ b1.toInt < 128) (h2 : -128 ≤ b2.toInt ∧ b2.toInt < 128) (h3 : -128 ≤ b3.toInt ∧ b3.toInt < 128) (hs : 0 ≤ st.toInt ∧ st.toInt ≤ 4) (he : 0 ≤ en.toInt ∧ en.toInt ≤ 4) (q : own_pos b0 b1 b2 b3 st en 2 = 0) : own_imn b0 b1 b2 b3 st en = 0 := by
  rw [own_posC h0 h1 h2 h3] at q
  rw [own_lawW h0 h1 h2 h3 hs he, own_want, if_pos q, ite_self, ite_self]
theorem own_lawF3 {b0 b1 b2 b3 st en : Int32} (h0 : -128 ≤ b0.toInt ∧ b0.toInt < 128) (h1 : -128 ≤ b1.toInt ∧ b1.toInt < 128) (h2 : -128 ≤ b2.toInt ∧ b2.toInt < 128) (h3 : -128 ≤ b3.toInt ∧ b3.toInt < 128) (hs : 0 ≤ st.toInt ∧ st.toInt ≤ 4) (he : 0 ≤ en.toInt ∧ en.toInt ≤ 4) (q : own_pos b0 b1 b2 b3 st en 3 = 0) : own_imn b0 b1 b2 b3 st en = 0 := by
  rw [own_posC h0 h1 h2 h3] at q
  rw [own_lawW h0 h1 h2 h3 hs he, own_want, if_pos q, ite_self, ite_self, ite_self]
theorem pn0 : plainName "com/example/bytelore/bytelore/classfile/NamesIsModuleNamePinLaw" = true := by first | (simp [plainName, overriddenIn]; done) | decide +kernel
theorem pd0_0 : parseMethodDescriptor "([BIII)Z" = some ⟨[(.array .byte), .int, .int, .int], some .boolean⟩ := by decide +kernel
theorem pd0_1 : parseMethodDescriptor "([BII)Z" = some ⟨[(.array .byte), .int, .int], some .boolean⟩ := by decide +kernel
theorem ef0 (m : MethodId) (p0 : Int32) (p1 : Int32) (p2 : Int32) (p3 : Int32) (qq : Int32) : entryFrame m #[(.int p0), (.int p1), (.int p2), (.int p3), (.int qq)] maxLocals = mkF m 0 #[.val (.int p0), .val (.int p1), .val (.int p2), .val (.int p3), .val (.int qq), .unset, .unset, .unset, .unset] [] := by first | (simp [entryFrame, mkF, argsToLocals, Value.category, maxLocals]; done) | rfl
def Q0 (Z : State) (p0 : Int32) (p1 : Int32) (p2 : Int32) (p3 : Int32) (qq : Int32) (ka : Addr) (cl : Cell) (h0 : Heap) (n0 : Nat) (v : Option Value) (h : Heap) (L : List Loc) : Prop := v = some (.int 1) ∧ Fr n0 L
set_option maxRecDepth 65536 in
set_option maxHeartbeats 40000000 in
theorem rm0 (l : Launch) (Z : State) (a0 : Array Value) (hw : ∀ d ∈ tables_1, d.before a0 Z = true) (ws : List Jvm.Cond) (p0 : Int32) (p1 : Int32) (p2 : Int32) (p3 : Int32) (qq : Int32) (ka : Addr) (cl : Cell) (h0 : Heap) (n0 : Nat) (Z0 : n0 ≤ h0.size) (O0 : Old Z n0 h0) (S_KINDS : Sta Z Z.heap "com/example/bytelore/bytelore/classfile/Names" "KINDS" "[B" (.ref ka)) (Ar : Arr Z Z.heap ka cl .byte) (HK : ∀ j : Int32, ¬ j < 0 ∧ j < (256 : Int32) → ¬ (j < 0 ∨ cl.slots.size ≤ j.toNatClampNeg) ∧ cl.slots[j.toNatClampNeg]? = some (.int (own_kind j))) :
    MetFree l x (head1 (Jvm.Cond.code x code maxLocals ret :: ws) room_1) (fun ar_ U => ar_ = #[(.int p0), (.int p1), (.int p2), (.int p3), (.int qq)] ∧ Z.Warmed39 U.vm ∧ U.heap = h0) (fun _ _ _ _ _ => True) (fun _ U o U' => ∃ v L, o = .returned v ∧ Q0 Z p0 p1 p2 p3 qq ka cl h0 n0 v U'.heap L ∧ FrameEnd U o U' L room_1.cells room_1.slots) := by
  refine MetFree.of_bodySF (plainFor_of_name pn0) hisR ?_
  intro p e s m args below meth c s₁ Bd hml0 hP hK
  obtain ⟨rfl, hZ, hh⟩ := hP
  have hx := Bd.exec
  have hby := Bd.bytes
  have hml : c.maxLocals = 9 := hml0
  have hown : s.vm.findClass "com/example/bytelore/bytelore/classfile/NamesIsModuleNamePinLaw" = some m.cls := findClass_of_methodNamed Bd.named
  have hnm := (name_of_methodNamed Bd.named Bd.method).1
  have X0 : Stand p l e room_1 s m #[(.int p0), (.int p1), (.int p2), (.int p3), (.int qq)] below meth c s₁ [] 0 0 := Stand.of_body Bd
  have e0 : s₁.heap = h0 := by rw [← hh, Bd.state]; rfl
  have N0 := Fr.nil n0
  show OFin p e below s _ _ (Q0 Z p0 p1 p2 p3 qq ka cl h0 n0) (s₁.setTop (entryFrame m #[(.int p0), (.int p1), (.int p2), (.int p3), (.int qq)] maxLocals))
  rw [ef0]
  obtain ⟨Q, hQ⟩ : ∃ Q, Q = Q0 Z p0 p1 p2 p3 qq ka cl h0 n0 := ⟨_, rfl⟩
  rw [← hQ]
  show OFin p e below s _ _ Q (s₁.setTop (mkF m 0 #[.val (.int p0), .val (.int p1), .val (.int p2), .val (.int p3), .val (.int qq), .unset, .unset, .unset, .unset] []))
  refine OFin.back (fun _ hr => XS.iconst X0.here hx rfl (hb hby at_0) hr) ?_
  show OFin p e below s _ _ Q (s₁.setTop (mkF m 1 #[.val (.int p0), .val (.int p1), .val (.int p2), .val (.int p3), .val (.int qq), .unset, .unset, .unset, .unset] [(.int (4 : Int32))]))
  obtain ⟨T1, h1, k1, X1, e1, E1, A1, st1⟩ := newP X0 hx hZ (hw _ (List.mem_of_getElem? (i := 0) rfl)) e0 (g := (mkF m 1 #[.val (.int p0), .val (.int p1), .val (.int p2), .val (.int p3), .val (.int qq), .unset, .unset, .unset, .unset] [(.int (4 : Int32))])) rfl (hb hby at_1) rfl (by decide) (cap := 4) (by decide) (by decide) (by decide) (by decide)
  obtain ⟨bq1, g1⟩ : ∃ z, z = h0.size := ⟨_, rfl⟩
  rw [← g1] at A1 st1
  have f2 := Nat.le_trans Z0 (Nat.le_of_eq g1.symm)
  have f3 := Nat.le_trans (Keep.refl h0 []).1 (Nat.le_of_eq g1.symm)
  have f4 := O0.ext E1
  have f5 := Nat.le_trans Z0 E1.1
  have f6 := (Keep.refl h0 []).ext E1
  have V1 : Arv Z h1 bq1 k1 .byte (4 : Int32) [(.int (0 : Int32)), (.int (0 : Int32)), (.int (0 : Int32)), (.int (0 : Int32))] (.int (0 : Int32)) := (Arv.new A1 (by decide)).pad (pad_rep [] (.int (0 : Int32)) 4)
  refine OFin.back st1 ?_
  show OFin p e below s _ _ Q (T1.setTop (mkF m 3 #[.val (.int p0), .val (.int p1), .val (.int p2), .val (.int p3), .val (.int qq), .unset, .unset, .unset, .unset] [(.ref bq1)]))
  refine OFin.back (fun _ hr => XS.astore X1.here hx rfl (hb hby at_3) rfl rfl (l' := #[.val (.int p0), .val (.int p1), .val (.int p2), .val (.int p3), .val (.int qq), .val (.ref bq1), .unset, .unset, .unset]) rfl hr) ?_
  show OFin p e below s _ _ Q (T1.setTop (mkF m 5 #[.val (.int p0), .val (.int p1), .val (.int p2), .val (.int p3), .val (.int qq), .val (.ref bq1), .unset, .unset, .unset] []))
  refine OFin.back (fun _ hr => XS.aload X1.here hx rfl (hb hby at_5) rfl rfl hr) ?_
  show OFin p e below s _ _ Q (T1.setTop (mkF m 7 #[.val (.int p0), .val (.int p1), .val (.int p2), .val (.int p3), .val (.int qq), .val (.ref bq1), .unset, .unset, .unset] [(.ref bq1)]))
  refine OFin.back (fun _ hr => XS.iconst X1.here hx rfl (hb hby at_7) hr) ?_
  show OFin p e below s _ _ Q (T1.setTop (mkF m 8 #[.val (.int p0), .val (.int p1), .val (.int p2), .val (.int p3), .val (.int qq), .val (.ref bq1), .unset, .unset, .unset] [(.int (0 : Int32)), (.ref bq1)]))
  refine OFin.back (fun _ hr => XS.iloadN X1.here hx rfl (hb hby at_8) rfl hr) ?_
  show OFin p e below s _ _ Q (T1.setTop (mkF m 9 #[.val (.int p0), .val (.int p1), .val (.int p2), .val (.int p3), .val (.int qq), .val (.ref bq1), .unset, .unset, .unset] [(.int p0), (.int (0 : Int32)), (.ref bq1)]))
  refine OFin.back (fun _ hr => XS.i2b X1.here hx rfl (hb hby at_9) rfl hr) ?_
  show OFin p e below s _ _ Q (T1.setTop (mkF m 10 #[.val (.int p0), .val (.int p1), .val (.int p2), .val (.int p3), .val (.int qq), .val (.ref bq1), .unset, .unset, .unset] [(.int (p0.toInt8.toInt32)), (.int (0 : Int32)), (.ref bq1)]))
  obtain ⟨cl7, Ar7, q7, S7, M7, H7, G7⟩ := id V1
  have hin7 : ¬ ((0 : Int32) < 0 ∨ cl7.slots.size ≤ ((0 : Int32)).toNatClampNeg) := inb_of S7 ⟨by decide, by decide⟩
  obtain ⟨T7, h7, X7, e7, W7, st7⟩ := stB X1 hx hZ e1 Ar7 (j := (0 : Int32)) hin7 (g := (mkF m 10 #[.val (.int p0), .val (.int p1), .val (.int p2), .val (.int p3), .val (.int qq), .val (.ref bq1), .unset, .unset, .unset] [(.int (p0.toInt8.toInt32)), (.int (0 : Int32)), (.ref bq1)])) rfl rfl (hb hby at_10)
  have V7 : Arv Z h7 bq1 k1 .byte (4 : Int32) [(.int (nar .byte (p0.toInt8.toInt32))), (.int (0 : Int32)), (.int (0 : Int32)), (.int (0 : Int32))] (.int (0 : Int32)) := Arv.set Ar7 q7 S7 M7 H7 G7 (fits_nar_byte _) W7 0 rfl (Nat.le_of_ble_eq_true rfl)
  have f8 := f4.wr W7 f2
  have f9 := Nat.le_trans f5 (Keep.of_wr W7).1
  have f10 := f6.wr W7 (Or.inr f3)
  have N7 := Fr.snoc X7 N0 f2
  refine OFin.back st7 ?_
  show OFin p e below s _ _ Q (T7.setTop (mkF m 11 #[.val (.int p0), .val (.int p1), .val (.int p2), .val (.int p3), .val (.int qq), .val (.ref bq1), .unset, .unset, .unset] []))
  refine OFin.back (fun _ hr => XS.aload X7.here hx rfl (hb hby at_11) rfl rfl hr) ?_
  show OFin p e below s _ _ Q (T7.setTop (mkF m 13 #[.val (.int p0), .val (.int p1), .val (.int p2), .val (.int p3), .val (.int qq), .val (.ref bq1), .unset, .unset, .unset] [(.ref bq1)]))
  refine OFin.back (fun _ hr => XS.iconst X7.here hx rfl (hb hby at_13) hr) ?_
  show OFin p e below s _ _ Q (T7.setTop (mkF m 14 #[.val (.int p0), .val (.int p1), .val (.int p2), .val (.int p3), .val (.int qq), .val (.ref bq1), .unset, .unset, .unset] [(.int (1 : Int32)), (.ref bq1)]))
  refine OFin.back (fun _ hr => XS.iloadN X7.here hx rfl (hb hby at_14) rfl hr) ?_
  show OFin p e below s _ _ Q (T7.setTop (mkF m 15 #[.val (.int p0), .val (.int p1), .val (.int p2), .val (.int p3), .val (.int qq), .val (.ref bq1), .unset, .unset, .unset] [(.int p1), (.int (1 : Int32)), (.ref bq1)]))
  refine OFin.back (fun _ hr => XS.i2b X7.here hx rfl (hb hby at_15) rfl hr) ?_
  show OFin p e below s _ _ Q (T7.setTop (mkF m 16 #[.val (.int p0), .val (.int p1), .val (.int p2), .val (.int p3), .val (.int qq), .val (.ref bq1), .unset, .unset, .unset] [(.int (p1.toInt8.toInt32)), (.int (1 : Int32)), (.ref bq1)]))
  obtain ⟨cl11, Ar11, q11, S11, M11, H11, G11⟩ := id V7
  have hin11 : ¬ ((1 : Int32) < 0 ∨ cl11.slots.size ≤ ((1 : Int32)).toNatClampNeg) := inb_of S11 ⟨by decide, by decide⟩
  obtain ⟨T11, h11, X11, e11, W11, st11⟩ := stB X7 hx hZ e7 Ar11 (j := (1 : Int32)) hin11 (g := (mkF m 16 #[.val (.int p0), .val (.int p1), .val (.int p2), .val (.int p3), .val (.int qq), .val (.ref bq1), .unset, .unset, .unset] [(.int (p1.toInt8.toInt32)), (.int (1 : Int32)), (.ref bq1)])) rfl rfl (hb hby at_16)
  have V11 : Arv Z h11 bq1 k1 .byte (4 : Int32) [(.int (nar .byte (p0.toInt8.toInt32))), (.int (nar .byte (p1.toInt8.toInt32))), (.int (0 : Int32)), (.int (0 : Int32))] (.int (0 : Int32)) := Arv.set Ar11 q11 S11 M11 H11 G11 (fits_nar_byte _) W11 1 rfl (Nat.le_of_ble_eq_true rfl)
  have f12 := f8.wr W11 f2
  have f13 := Nat.le_trans f9 (Keep.of_wr W11).1
  have f14 := f10.wr W11 (Or.inr f3)
  have N11 := Fr.snoc X11 N7 f2
  refine OFin.back st11 ?_
  show OFin p e below s _ _ Q (T11.setTop (mkF m 17 #[.val (.int p0), .val (.int p1), .val (.int p2), .val (.int p3), .val (.int qq), .val (.ref bq1), .unset, .unset, .unset] []))
  refine OFin.back (fun _ hr => XS.aload X11.here hx rfl (hb hby at_17) rfl rfl hr) ?_
  show OFin p e below s _ _ Q (T11.setTop (mkF m 19 #[.val (.int p0), .val (.int p1), .val (.int p2), .val (.int p3), .val (.int qq), .val (.ref bq1), .unset, .unset, .unset] [(.ref bq1)]))
  refine OFin.back (fun _ hr => XS.iconst X11.here hx rfl (hb hby at_19) hr) ?_
  show OFin p e below s _ _ Q (T11.setTop (mkF m 20 #[.val (.int p0), .val (.int p1), .val (.int p2), .val (.int p3), .val (.int qq), .val (.ref bq1), .unset, .unset, .unset] [(.int (2 : Int32)), (.ref bq1)]))
  refine OFin.back (fun _ hr => XS.iloadN X11.here hx rfl (hb hby at_20) rfl hr) ?_
  show OFin p e below s _ _ Q (T11.setTop (mkF m 21 #[.val (.int p0), .val (.int p1), .val (.int p2), .val (.int p3), .val (.int qq), .val (.ref bq1), .unset, .unset, .unset] [(.int p2), (.int (2 : Int32)), (.ref bq1)]))
  refine OFin.back (fun _ hr => XS.i2b X11.here hx rfl (hb hby at_21) rfl hr) ?_
  show OFin p e below s _ _ Q (T11.setTop (mkF m 22 #[.val (.int p0), .val (.int p1), .val (.int p2), .val (.int p3), .val (.int qq), .val (.ref bq1), .unset, .unset, .unset] [(.int (p2.toInt8.toInt32)), (.int (2 : Int32)), (.ref bq1)]))
  obtain ⟨cl15, Ar15, q15, S15, M15, H15, G15⟩ := id V11
  have hin15 : ¬ ((2 : Int32) < 0 ∨ cl15.slots.size ≤ ((2 : Int32)).toNatClampNeg) := inb_of S15 ⟨by decide, by decide⟩
  obtain ⟨T15, h15, X15, e15, W15, st15⟩ := stB X11 hx hZ e11 Ar15 (j := (2 : Int32)) hin15 (g := (mkF m 22 #[.val (.int p0), .val (.int p1), .val (.int p2), .val (.int p3), .val (.int qq), .val (.ref bq1), .unset, .unset, .unset] [(.int (p2.toInt8.toInt32)), (.int (2 : Int32)), (.ref bq1)])) rfl rfl (hb hby at_22)
  have V15 : Arv Z h15 bq1 k1 .byte (4 : Int32) [(.int (nar .byte (p0.toInt8.toInt32))), (.int (nar .byte (p1.toInt8.toInt32))), (.int (nar .byte (p2.toInt8.toInt32))), (.int (0 : Int32))] (.int (0 : Int32)) := Arv.set Ar15 q15 S15 M15 H15 G15 (fits_nar_byte _) W15 2 rfl (Nat.le_of_ble_eq_true rfl)
  have f16 := f12.wr W15 f2
  have f17 := Nat.le_trans f13 (Keep.of_wr W15).1
  have f18 := f14.wr W15 (Or.inr f3)
  have N15 := Fr.snoc X15 N11 f2
  refine OFin.back st15 ?_
  show OFin p e below s _ _ Q (T15.setTop (mkF m 23 #[.val (.int p0), .val (.int p1), .val (.int p2), .val (.int p3), .val (.int qq), .val (.ref bq1), .unset, .unset, .unset] []))
  refine OFin.back (fun _ hr => XS.aload X15.here hx rfl (hb hby at_23) rfl rfl hr) ?_
  show OFin p e below s _ _ Q (T15.setTop (mkF m 25 #[.val (.int p0), .val (.int p1), .val (.int p2), .val (.int p3), .val (.int qq), .val (.ref bq1), .unset, .unset, .unset] [(.ref bq1)]))
  refine OFin.back (fun _ hr => XS.iconst X15.here hx rfl (hb hby at_25) hr) ?_
  show OFin p e below s _ _ Q (T15.setTop (mkF m 26 #[.val (.int p0), .val (.int p1), .val (.int p2), .val (.int p3), .val (.int qq), .val (.ref bq1), .unset, .unset, .unset] [(.int (3 : Int32)), (.ref bq1)]))
  refine OFin.back (fun _ hr => XS.iloadN X15.here hx rfl (hb hby at_26) rfl hr) ?_
  show OFin p e below s _ _ Q (T15.setTop (mkF m 27 #[.val (.int p0), .val (.int p1), .val (.int p2), .val (.int p3), .val (.int qq), .val (.ref bq1), .unset, .unset, .unset] [(.int p3), (.int (3 : Int32)), (.ref bq1)]))
  refine OFin.back (fun _ hr => XS.i2b X15.here hx rfl (hb hby at_27) rfl hr) ?_
  show OFin p e below s _ _ Q (T15.setTop (mkF m 28 #[.val (.int p0), .val (.int p1), .val (.int p2), .val (.int p3), .val (.int qq), .val (.ref bq1), .unset, .unset, .unset] [(.int (p3.toInt8.toInt32)), (.int (3 : Int32)), (.ref bq1)]))
  obtain ⟨cl19, Ar19, q19, S19, M19, H19, G19⟩ := id V15
  have hin19 : ¬ ((3 : Int32) < 0 ∨ cl19.slots.size ≤ ((3 : Int32)).toNatClampNeg) := inb_of S19 ⟨by decide, by decide⟩
  obtain ⟨T19, h19, X19, e19, W19, st19⟩ := stB X15 hx hZ e15 Ar19 (j := (3 : Int32)) hin19 (g := (mkF m 28 #[.val (.int p0), .val (.int p1), .val (.int p2), .val (.int p3), .val (.int qq), .val (.ref bq1), .unset, .unset, .unset] [(.int (p3.toInt8.toInt32)), (.int (3 : Int32)), (.ref bq1)])) rfl rfl (hb hby at_28)
  have V19 : Arv Z h19 bq1 k1 .byte (4 : Int32) [(.int (nar .byte (p0.toInt8.toInt32))), (.int (nar .byte (p1.toInt8.toInt32))), (.int (nar .byte (p2.toInt8.toInt32))), (.int (nar .byte (p3.toInt8.toInt32)))] (.int (0 : Int32)) := Arv.set Ar19 q19 S19 M19 H19 G19 (fits_nar_byte _) W19 3 rfl (Nat.le_of_ble_eq_true rfl)
  have f20 := f16.wr W19 f2
  have f21 := Nat.le_trans f17 (Keep.of_wr W19).1
  have f22 := f18.wr W19 (Or.inr f3)
  have N19 := Fr.snoc X19 N15 f2
  refine OFin.back st19 ?_
  show OFin p e below s _ _ Q (T19.setTop (mkF m 29 #[.val (.int p0), .val (.int p1), .val (.int p2), .val (.int p3), .val (.int qq), .val (.ref bq1), .unset, .unset, .unset] []))
  obtain ⟨b0, hb0⟩ : ∃ z, z = (nar .byte (p0.toInt8.toInt32)) := ⟨_, rfl⟩
  have hB0 : -128 ≤ b0.toInt ∧ b0.toInt < 128 := by rw [hb0]; exact own_brng _
  obtain ⟨b1, hb1⟩ : ∃ z, z = (nar .byte (p1.toInt8.toInt32)) := ⟨_, rfl⟩
  have hB1 : -128 ≤ b1.toInt ∧ b1.toInt < 128 := by rw [hb1]; exact own_brng _
  obtain ⟨b2, hb2⟩ : ∃ z, z = (nar .byte (p2.toInt8.toInt32)) := ⟨_, rfl⟩
  have hB2 : -128 ≤ b2.toInt ∧ b2.toInt < 128 := by rw [hb2]; exact own_brng _
  obtain ⟨b3, hb3⟩ : ∃ z, z = (nar .byte (p3.toInt8.toInt32)) := ⟨_, rfl⟩
  have hB3 : -128 ≤ b3.toInt ∧ b3.toInt < 128 := by rw [hb3]; exact own_brng _
  rw [← hb0, ← hb1, ← hb2, ← hb3] at V19
  refine OFin.back (fun _ hr => XS.iload X19.here hx rfl (hb hby at_29) rfl hr) ?_
  show OFin p e below s _ _ Q (T19.setTop (mkF m 31 #[.val (.int p0), .val (.int p1), .val (.int p2), .val (.int p3), .val (.int qq), .val (.ref bq1), .unset, .unset, .unset] [(.int qq)]))
  refine OFin.back (X19.ldcInt hx hown (mvT hZ (hw _ (List.mem_of_getElem? (i := 1) rfl))) (g := (mkF m 31 #[.val (.int p0), .val (.int p1), .val (.int p2), .val (.int p3), .val (.int qq), .val (.ref bq1), .unset, .unset, .unset] [(.int qq)])) rfl (hb hby at_31)) ?_
  show OFin p e below s _ _ Q (T19.setTop (mkF m 33 #[.val (.int p0), .val (.int p1), .val (.int p2), .val (.int p3), .val (.int qq), .val (.ref bq1), .unset, .unset, .unset] [(.int (2147483647 : Int32)), (.int qq)]))
  refine OFin.back (fun _ hr => XS.iand X19.here hx rfl (hb hby at_33) rfl hr) ?_
  show OFin p e below s _ _ Q (T19.setTop (mkF m 34 #[.val (.int p0), .val (.int p1), .val (.int p2), .val (.int p3), .val (.int qq), .val (.ref bq1), .unset, .unset, .unset] [(.int (qq &&& (2147483647 : Int32)))]))
  refine OFin.back (fun _ hr => XS.iconst X19.here hx rfl (hb hby at_34) hr) ?_
  show OFin p e below s _ _ Q (T19.setTop (mkF m 35 #[.val (.int p0), .val (.int p1), .val (.int p2), .val (.int p3), .val (.int qq), .val (.ref bq1), .unset, .unset, .unset] [(.int (5 : Int32)), (.int (qq &&& (2147483647 : Int32)))]))
  refine OFin.back (fun _ hr => iremM (g := (mkF m 35 #[.val (.int p0), .val (.int p1), .val (.int p2), .val (.int p3), .val (.int qq), .val (.ref bq1), .unset, .unset, .unset] [(.int (5 : Int32)), (.int (qq &&& (2147483647 : Int32)))])) X19 hx rfl (hb hby at_35) rfl (by decide) hr) ?_
  show OFin p e below s _ _ Q (T19.setTop (mkF m 36 #[.val (.int p0), .val (.int p1), .val (.int p2), .val (.int p3), .val (.int qq), .val (.ref bq1), .unset, .unset, .unset] [(.int ((qq &&& (2147483647 : Int32)) % (5 : Int32)))]))
  refine OFin.back (fun _ hr => XS.istore X19.here hx rfl (hb hby at_36) rfl (l' := #[.val (.int p0), .val (.int p1), .val (.int p2), .val (.int p3), .val (.int qq), .val (.ref bq1), .val (.int ((qq &&& (2147483647 : Int32)) % (5 : Int32))), .unset, .unset]) rfl hr) ?_
  show OFin p e below s _ _ Q (T19.setTop (mkF m 38 #[.val (.int p0), .val (.int p1), .val (.int p2), .val (.int p3), .val (.int qq), .val (.ref bq1), .val (.int ((qq &&& (2147483647 : Int32)) % (5 : Int32))), .unset, .unset] []))
  obtain ⟨v6, hv6⟩ : ∃ z, z = ((qq &&& (2147483647 : Int32)) % (5 : Int32)) := ⟨_, rfl⟩
  rw [← hv6]
  have hs : 0 ≤ v6.toInt ∧ v6.toInt ≤ 4 := by rw [hv6]; exact own_l5 _
  show OFin p e below s _ _ Q (T19.setTop (mkF m 38 #[.val (.int p0), .val (.int p1), .val (.int p2), .val (.int p3), .val (.int qq), .val (.ref bq1), .val (.int v6), .unset, .unset] []))
  refine OFin.back (fun _ hr => XS.iload X19.here hx rfl (hb hby at_38) rfl hr) ?_
  show OFin p e below s _ _ Q (T19.setTop (mkF m 40 #[.val (.int p0), .val (.int p1), .val (.int p2), .val (.int p3), .val (.int qq), .val (.ref bq1), .val (.int v6), .unset, .unset] [(.int qq)]))
  refine OFin.back (fun _ hr => XS.bipush X19.here hx rfl (hb hby at_40) hr) ?_
  show OFin p e below s _ _ Q (T19.setTop (mkF m 42 #[.val (.int p0), .val (.int p1), .val (.int p2), .val (.int p3), .val (.int qq), .val (.ref bq1), .val (.int v6), .unset, .unset] [(.int (8 : Int32)), (.int qq)]))
  refine OFin.back (fun _ hr => XS.iushr X19.here hx rfl (hb hby at_42) rfl hr) ?_
  show OFin p e below s _ _ Q (T19.setTop (mkF m 43 #[.val (.int p0), .val (.int p1), .val (.int p2), .val (.int p3), .val (.int qq), .val (.ref bq1), .val (.int v6), .unset, .unset] [(.int ((qq.toUInt32 >>> ((8 : Int32) &&& 31).toUInt32).toInt32))]))
  refine OFin.back (X19.ldcInt hx hown (mvT hZ (hw _ (List.mem_of_getElem? (i := 1) rfl))) (g := (mkF m 43 #[.val (.int p0), .val (.int p1), .val (.int p2), .val (.int p3), .val (.int qq), .val (.ref bq1), .val (.int v6), .unset, .unset] [(.int ((qq.toUInt32 >>> ((8 : Int32) &&& 31).toUInt32).toInt32))])) rfl (hb hby at_43)) ?_
  show OFin p e below s _ _ Q (T19.setTop (mkF m 45 #[.val (.int p0), .val (.int p1), .val (.int p2), .val (.int p3), .val (.int qq), .val (.ref bq1), .val (.int v6), .unset, .unset] [(.int (2147483647 : Int32)), (.int ((qq.toUInt32 >>> ((8 : Int32) &&& 31).toUInt32).toInt32))]))
  refine OFin.back (fun _ hr => XS.iand X19.here hx rfl (hb hby at_45) rfl hr) ?_
  show OFin p e below s _ _ Q (T19.setTop (mkF m 46 #[.val (.int p0), .val (.int p1), .val (.int p2), .val (.int p3), .val (.int qq), .val (.ref bq1), .val (.int v6), .unset, .unset] [(.int (((qq.toUInt32 >>> ((8 : Int32) &&& 31).toUInt32).toInt32) &&& (2147483647 : Int32)))]))
  refine OFin.back (fun _ hr => XS.iconst X19.here hx rfl (hb hby at_46) hr) ?_
  show OFin p e below s _ _ Q (T19.setTop (mkF m 47 #[.val (.int p0), .val (.int p1), .val (.int p2), .val (.int p3), .val (.int qq), .val (.ref bq1), .val (.int v6), .unset, .unset] [(.int (5 : Int32)), (.int (((qq.toUInt32 >>> ((8 : Int32) &&& 31).toUInt32).toInt32) &&& (2147483647 : Int32)))]))
  refine OFin.back (fun _ hr => iremM (g := (mkF m 47 #[.val (.int p0), .val (.int p1), .val (.int p2), .val (.int p3), .val (.int qq), .val (.ref bq1), .val (.int v6), .unset, .unset] [(.int (5 : Int32)), (.int (((qq.toUInt32 >>> ((8 : Int32) &&& 31).toUInt32).toInt32) &&& (2147483647 : Int32)))])) X19 hx rfl (hb hby at_47) rfl (by decide) hr) ?_
  show OFin p e below s _ _ Q (T19.setTop (mkF m 48 #[.val (.int p0), .val (.int p1), .val (.int p2), .val (.int p3), .val (.int qq), .val (.ref bq1), .val (.int v6), .unset, .unset] [(.int ((((qq.toUInt32 >>> ((8 : Int32) &&& 31).toUInt32).toInt32) &&& (2147483647 : Int32)) % (5 : Int32)))]))
  refine OFin.back (fun _ hr => XS.istore X19.here hx rfl (hb hby at_48) rfl (l' := #[.val (.int p0), .val (.int p1), .val (.int p2), .val (.int p3), .val (.int qq), .val (.ref bq1), .val (.int v6), .val (.int ((((qq.toUInt32 >>> ((8 : Int32) &&& 31).toUInt32).toInt32) &&& (2147483647 : Int32)) % (5 : Int32))), .unset]) rfl hr) ?_
  show OFin p e below s _ _ Q (T19.setTop (mkF m 50 #[.val (.int p0), .val (.int p1), .val (.int p2), .val (.int p3), .val (.int qq), .val (.ref bq1), .val (.int v6), .val (.int ((((qq.toUInt32 >>> ((8 : Int32) &&& 31).toUInt32).toInt32) &&& (2147483647 : Int32)) % (5 : Int32))), .unset] []))
  obtain ⟨v7, hv7⟩ : ∃ z, z = ((((qq.toUInt32 >>> ((8 : Int32) &&& 31).toUInt32).toInt32) &&& (2147483647 : Int32)) % (5 : Int32)) := ⟨_, rfl⟩
  rw [← hv7]
  have he : 0 ≤ v7.toInt ∧ v7.toInt ≤ 4 := by rw [hv7]; exact own_l5 _
  show OFin p e below s _ _ Q (T19.setTop (mkF m 50 #[.val (.int p0), .val (.int p1), .val (.int p2), .val (.int p3), .val (.int qq), .val (.ref bq1), .val (.int v6), .val (.int v7), .unset] []))
  refine OFin.back (fun _ hr => XS.aload X19.here hx rfl (hb hby at_50) rfl rfl hr) ?_
  show OFin p e below s _ _ Q (T19.setTop (mkF m 52 #[.val (.int p0), .val (.int p1), .val (.int p2), .val (.int p3), .val (.int qq), .val (.ref bq1), .val (.int v6), .val (.int v7), .unset] [(.ref bq1)]))
  refine OFin.back (fun _ hr => XS.iload X19.here hx rfl (hb hby at_52) rfl hr) ?_
  show OFin p e below s _ _ Q (T19.setTop (mkF m 54 #[.val (.int p0), .val (.int p1), .val (.int p2), .val (.int p3), .val (.int qq), .val (.ref bq1), .val (.int v6), .val (.int v7), .unset] [(.int v6), (.ref bq1)]))
  refine OFin.back (fun _ hr => XS.iload X19.here hx rfl (hb hby at_54) rfl hr) ?_
  show OFin p e below s _ _ Q (T19.setTop (mkF m 56 #[.val (.int p0), .val (.int p1), .val (.int p2), .val (.int p3), .val (.int qq), .val (.ref bq1), .val (.int v6), .val (.int v7), .unset] [(.int v7), (.int v6), (.ref bq1)]))
  refine OFin.back (fun _ hr => XS.iconst X19.here hx rfl (hb hby at_56) hr) ?_
  show OFin p e below s _ _ Q (T19.setTop (mkF m 57 #[.val (.int p0), .val (.int p1), .val (.int p2), .val (.int p3), .val (.int qq), .val (.ref bq1), .val (.int v6), .val (.int v7), .unset] [(.int (0 : Int32)), (.int v7), (.int v6), (.ref bq1)]))
  obtain ⟨_, _, ⟨T23, L23, k23, n23⟩, -, X23, ⟨Lc23, hQ23, l23, y23, z23⟩, st23⟩ := Jvm.LawKit.callS X19 hx (y := (⟨"com/example/bytelore/bytelore/classfile/NamesIsModuleNamePinLaw", "posOk", "([BIII)Z"⟩ : MethodName)) hown (mvT hZ (hw _ (List.mem_of_getElem? (i := 2) rfl))) (mvT hZ (hw _ (List.mem_of_getElem? (i := 3) rfl))) (mvT hZ (hw _ (List.mem_of_getElem? (i := 4) rfl))) (mvT hZ (hw _ (List.mem_of_getElem? (i := 5) rfl))) (by decide) (backOf (W := 0) (rm3 l Z a0 hw [] bq1 v6 v7 (0 : Int32) k1 b0 b1 b2 b3 (h19) n0 f21 V19 hs.1 (by decide)) hZ (hw _ (List.mem_of_getElem? (i := 5) rfl)) (hw _ (List.mem_of_getElem? (i := 4) rfl)) (by decide) (by decide)) (g := (mkF m 57 #[.val (.int p0), .val (.int p1), .val (.int p2), .val (.int p3), .val (.int qq), .val (.ref bq1), .val (.int v6), .val (.int v7), .unset] [(.int (0 : Int32)), (.int v7), (.int v6), (.ref bq1)])) rfl (by rw [hml]; rfl) (argsL := [(.ref bq1), (.int v6), (.int v7), (.int (0 : Int32))]) (rest := []) (lenOf pd0_0 rfl) rfl (by show 2 * 0 + _ ≤ _; exact Nat.le_of_eq rfl) (hb hby at_57) (fun _ _ => ⟨rfl, e19, (by decide : 1 + 0 ≤ _), (by decide : 4 + 0 ≤ _)⟩)
  dsimp only [Pt.U, Pt.locs, Pt.cells, Pt.slots] at X23 l23 y23 z23 st23 hQ23
  subst l23 y23 z23
  obtain ⟨rfl, N23q, e23⟩ := hQ23
  have N23 := Fr.app N19 N23q
  refine OFin.back st23 ?_
  show OFin p e below s _ _ Q (T23.setTop (mkF m 60 #[.val (.int p0), .val (.int p1), .val (.int p2), .val (.int p3), .val (.int qq), .val (.ref bq1), .val (.int v6), .val (.int v7), .unset] [(.int (own_pos b0 b1 b2 b3 v6 v7 (0 : Int32)))]))
  by_cases hc60_24 : (own_pos b0 b1 b2 b3 v6 v7 (0 : Int32)) = (0 : Int32)
  · -- (own_pos b0 b1 b2 b3 v6 v7 (0 : Int32)) = (0 : Int32)
    refine OFin.back (fun _ hr => XS.ifYes X23.here hx rfl (pc0 := 60) (pc' := 106) rfl (hb hby at_60) rfl ((if0 _ _).trans (teq hc60_24).1) (by decide) (by decide) hr) ?_
    show OFin p e below s _ _ Q (T23.setTop (mkF m 106 #[.val (.int p0), .val (.int p1), .val (.int p2), .val (.int p3), .val (.int qq), .val (.ref bq1), .val (.int v6), .val (.int v7), .unset] []))
    refine OFin.back (fun _ hr => XS.iconst X23.here hx rfl (hb hby at_106) hr) ?_
    show OFin p e below s _ _ Q (T23.setTop (mkF m 107 #[.val (.int p0), .val (.int p1), .val (.int p2), .val (.int p3), .val (.int qq), .val (.ref bq1), .val (.int v6), .val (.int v7), .unset] [(.int (0 : Int32))]))
    refine OFin.back (fun _ hr => XS.istore X23.here hx rfl (hb hby at_107) rfl (l' := #[.val (.int p0), .val (.int p1), .val (.int p2), .val (.int p3), .val (.int qq), .val (.ref bq1), .val (.int v6), .val (.int v7), .val (.int (0 : Int32))]) rfl hr) ?_
    show OFin p e below s _ _ Q (T23.setTop (mkF m 109 #[.val (.int p0), .val (.int p1), .val (.int p2), .val (.int p3), .val (.int qq), .val (.ref bq1), .val (.int v6), .val (.int v7), .val (.int (0 : Int32))] []))
    refine OFin.back (fun _ hr => XS.aload X23.here hx rfl (hb hby at_109) rfl rfl hr) ?_
    show OFin p e below s _ _ Q (T23.setTop (mkF m 111 #[.val (.int p0), .val (.int p1), .val (.int p2), .val (.int p3), .val (.int qq), .val (.ref bq1), .val (.int v6), .val (.int v7), .val (.int (0 : Int32))] [(.ref bq1)]))
    refine OFin.back (fun _ hr => XS.iload X23.here hx rfl (hb hby at_111) rfl hr) ?_
    show OFin p e below s _ _ Q (T23.setTop (mkF m 113 #[.val (.int p0), .val (.int p1), .val (.int p2), .val (.int p3), .val (.int qq), .val (.ref bq1), .val (.int v6), .val (.int v7), .val (.int (0 : Int32))] [(.int v6), (.ref bq1)]))
    refine OFin.back (fun _ hr => XS.iload X23.here hx rfl (hb hby at_113) rfl hr) ?_
    show OFin p e below s _ _ Q (T23.setTop (mkF m 115 #[.val (.int p0), .val (.int p1), .val (.int p2), .val (.int p3), .val (.int qq), .val (.ref bq1), .val (.int v6), .val (.int v7), .val (.int (0 : Int32))] [(.int v7), (.int v6), (.ref bq1)]))
    obtain ⟨_, _, ⟨T25, L25, k25, n25⟩, -, X25, ⟨Lc25, hQ25, l25, y25, z25⟩, st25⟩ := Jvm.LawKit.callS X23 hx (y := (⟨"com/example/bytelore/bytelore/classfile/Names", "isModuleName", "([BII)Z"⟩ : MethodName)) hown (mvT hZ (hw _ (List.mem_of_getElem? (i := 6) rfl))) (mvT hZ (hw _ (List.mem_of_getElem? (i := 7) rfl))) (mvT hZ (hw _ (List.mem_of_getElem? (i := 8) rfl))) (mvT hZ (hw _ (List.mem_of_getElem? (i := 9) rfl))) (by decide) (backOf (W := 0) (rm4 l Z a0 hw [] bq1 v6 v7 k1 b0 b1 b2 b3 ka cl (h19) n0 f21 V19 hs.1 he.2 (own_sta S_KINDS f20) (Ar.ext f20.2) HK) hZ (hw _ (List.mem_of_getElem? (i := 9) rfl)) (hw _ (List.mem_of_getElem? (i := 8) rfl)) (by decide) (by decide)) (g := (mkF m 115 #[.val (.int p0), .val (.int p1), .val (.int p2), .val (.int p3), .val (.int qq), .val (.ref bq1), .val (.int v6), .val (.int v7), .val (.int (0 : Int32))] [(.int v7), (.int v6), (.ref bq1)])) rfl (by rw [hml]; rfl) (argsL := [(.ref bq1), (.int v6), (.int v7)]) (rest := []) (lenOf pd0_1 rfl) rfl (by show 2 * 0 + _ ≤ _; exact Nat.le_of_eq rfl) (hb hby at_115) (fun _ _ => ⟨rfl, e23, (by decide : 1 + 0 ≤ _), (by decide : 4 + 0 ≤ _)⟩)
    dsimp only [Pt.U, Pt.locs, Pt.cells, Pt.slots] at X25 l25 y25 z25 st25 hQ25
    subst l25 y25 z25
    obtain ⟨rfl, N25q, e25⟩ := hQ25
    have N25 := Fr.app N23 N25q
    refine OFin.back st25 ?_
    show OFin p e below s _ _ Q (T25.setTop (mkF m 118 #[.val (.int p0), .val (.int p1), .val (.int p2), .val (.int p3), .val (.int qq), .val (.ref bq1), .val (.int v6), .val (.int v7), .val (.int (0 : Int32))] [(.int (own_imn b0 b1 b2 b3 v6 v7))]))
    refine OFin.back (fun _ hr => XS.iload X25.here hx rfl (hb hby at_118) rfl hr) ?_
    show OFin p e below s _ _ Q (T25.setTop (mkF m 120 #[.val (.int p0), .val (.int p1), .val (.int p2), .val (.int p3), .val (.int qq), .val (.ref bq1), .val (.int v6), .val (.int v7), .val (.int (0 : Int32))] [(.int (0 : Int32)), (.int (own_imn b0 b1 b2 b3 v6 v7))]))
    have hlaw := own_lawF0 hB0 hB1 hB2 hB3 hs he hc60_24
    refine OFin.back (fun _ hr => XS.icmpNo X25.here hx rfl (hb hby at_120) rfl (teq hlaw).2 hr) ?_
    show OFin p e below s _ _ Q (T25.setTop (mkF m 123 #[.val (.int p0), .val (.int p1), .val (.int p2), .val (.int p3), .val (.int qq), .val (.ref bq1), .val (.int v6), .val (.int v7), .val (.int (0 : Int32))] []))
    refine OFin.back (fun _ hr => XS.iconst X25.here hx rfl (hb hby at_123) hr) ?_
    show OFin p e below s _ _ Q (T25.setTop (mkF m 124 #[.val (.int p0), .val (.int p1), .val (.int p2), .val (.int p3), .val (.int qq), .val (.ref bq1), .val (.int v6), .val (.int v7), .val (.int (0 : Int32))] [(.int (1 : Int32))]))
    refine OFin.back (fun _ hr => XS.goto X25.here hx rfl (pc0 := 124) (pc' := 128) rfl (hb hby at_124) (by decide) (by decide) hr) ?_
    show OFin p e below s _ _ Q (T25.setTop (mkF m 128 #[.val (.int p0), .val (.int p1), .val (.int p2), .val (.int p3), .val (.int qq), .val (.ref bq1), .val (.int v6), .val (.int v7), .val (.int (0 : Int32))] [(.int (1 : Int32))]))
    exact OFin.outN (t := .boolean) X25 hx Bd.returns (by simp) Bd.notSynchronized (hb hby at_128) (by decide) (by decide) e25 (by rw [hQ]; exact ⟨rfl, N25⟩)
  · -- not (own_pos b0 b1 b2 b3 v6 v7 (0 : Int32)) = (0 : Int32)
    refine OFin.back (fun _ hr => XS.ifNo X23.here hx rfl (hb hby at_60) rfl ((if0 _ _).trans (feq hc60_24).1) hr) ?_
    show OFin p e below s _ _ Q (T23.setTop (mkF m 63 #[.val (.int p0), .val (.int p1), .val (.int p2), .val (.int p3), .val (.int qq), .val (.ref bq1), .val (.int v6), .val (.int v7), .unset] []))
    refine OFin.back (fun _ hr => XS.aload X23.here hx rfl (hb hby at_63) rfl rfl hr) ?_
    show OFin p e below s _ _ Q (T23.setTop (mkF m 65 #[.val (.int p0), .val (.int p1), .val (.int p2), .val (.int p3), .val (.int qq), .val (.ref bq1), .val (.int v6), .val (.int v7), .unset] [(.ref bq1)]))
    refine OFin.back (fun _ hr => XS.iload X23.here hx rfl (hb hby at_65) rfl hr) ?_
    show OFin p e below s _ _ Q (T23.setTop (mkF m 67 #[.val (.int p0), .val (.int p1), .val (.int p2), .val (.int p3), .val (.int qq), .val (.ref bq1), .val (.int v6), .val (.int v7), .unset] [(.int v6), (.ref bq1)]))
    refine OFin.back (fun _ hr => XS.iload X23.here hx rfl (hb hby at_67) rfl hr) ?_
    show OFin p e below s _ _ Q (T23.setTop (mkF m 69 #[.val (.int p0), .val (.int p1), .val (.int p2), .val (.int p3), .val (.int qq), .val (.ref bq1), .val (.int v6), .val (.int v7), .unset] [(.int v7), (.int v6), (.ref bq1)]))
    refine OFin.back (fun _ hr => XS.iconst X23.here hx rfl (hb hby at_69) hr) ?_
    show OFin p e below s _ _ Q (T23.setTop (mkF m 70 #[.val (.int p0), .val (.int p1), .val (.int p2), .val (.int p3), .val (.int qq), .val (.ref bq1), .val (.int v6), .val (.int v7), .unset] [(.int (1 : Int32)), (.int v7), (.int v6), (.ref bq1)]))
    obtain ⟨_, _, ⟨T26, L26, k26, n26⟩, -, X26, ⟨Lc26, hQ26, l26, y26, z26⟩, st26⟩ := Jvm.LawKit.callS X23 hx (y := (⟨"com/example/bytelore/bytelore/classfile/NamesIsModuleNamePinLaw", "posOk", "([BIII)Z"⟩ : MethodName)) hown (mvT hZ (hw _ (List.mem_of_getElem? (i := 2) rfl))) (mvT hZ (hw _ (List.mem_of_getElem? (i := 3) rfl))) (mvT hZ (hw _ (List.mem_of_getElem? (i := 4) rfl))) (mvT hZ (hw _ (List.mem_of_getElem? (i := 5) rfl))) (by decide) (backOf (W := 0) (rm3 l Z a0 hw [] bq1 v6 v7 (1 : Int32) k1 b0 b1 b2 b3 (h19) n0 f21 V19 hs.1 (by decide)) hZ (hw _ (List.mem_of_getElem? (i := 5) rfl)) (hw _ (List.mem_of_getElem? (i := 4) rfl)) (by decide) (by decide)) (g := (mkF m 70 #[.val (.int p0), .val (.int p1), .val (.int p2), .val (.int p3), .val (.int qq), .val (.ref bq1), .val (.int v6), .val (.int v7), .unset] [(.int (1 : Int32)), (.int v7), (.int v6), (.ref bq1)])) rfl (by rw [hml]; rfl) (argsL := [(.ref bq1), (.int v6), (.int v7), (.int (1 : Int32))]) (rest := []) (lenOf pd0_0 rfl) rfl (by show 2 * 0 + _ ≤ _; exact Nat.le_of_eq rfl) (hb hby at_70) (fun _ _ => ⟨rfl, e23, (by decide : 1 + 0 ≤ _), (by decide : 4 + 0 ≤ _)⟩)
    dsimp only [Pt.U, Pt.locs, Pt.cells, Pt.slots] at X26 l26 y26 z26 st26 hQ26
    subst l26 y26 z26
    obtain ⟨rfl, N26q, e26⟩ := hQ26
    have N26 := Fr.app N23 N26q
    refine OFin.back st26 ?_
    show OFin p e below s _ _ Q (T26.setTop (mkF m 73 #[.val (.int p0), .val (.int p1), .val (.int p2), .val (.int p3), .val (.int qq), .val (.ref bq1), .val (.int v6), .val (.int v7), .unset] [(.int (own_pos b0 b1 b2 b3 v6 v7 (1 : Int32)))]))
    by_cases hc73_27 : (own_pos b0 b1 b2 b3 v6 v7 (1 : Int32)) = (0 : Int32)
    · -- (own_pos b0 b1 b2 b3 v6 v7 (1 : Int32)) = (0 : Int32)
      refine OFin.back (fun _ hr => XS.ifYes X26.here hx rfl (pc0 := 73) (pc' := 106) rfl (hb hby at_73) rfl ((if0 _ _).trans (teq hc73_27).1) (by decide) (by decide) hr) ?_
      show OFin p e below s _ _ Q (T26.setTop (mkF m 106 #[.val (.int p0), .val (.int p1), .val (.int p2), .val (.int p3), .val (.int qq), .val (.ref bq1), .val (.int v6), .val (.int v7), .unset] []))
      refine OFin.back (fun _ hr => XS.iconst X26.here hx rfl (hb hby at_106) hr) ?_
      show OFin p e below s _ _ Q (T26.setTop (mkF m 107 #[.val (.int p0), .val (.int p1), .val (.int p2), .val (.int p3), .val (.int qq), .val (.ref bq1), .val (.int v6), .val (.int v7), .unset] [(.int (0 : Int32))]))
      refine OFin.back (fun _ hr => XS.istore X26.here hx rfl (hb hby at_107) rfl (l' := #[.val (.int p0), .val (.int p1), .val (.int p2), .val (.int p3), .val (.int qq), .val (.ref bq1), .val (.int v6), .val (.int v7), .val (.int (0 : Int32))]) rfl hr) ?_
      show OFin p e below s _ _ Q (T26.setTop (mkF m 109 #[.val (.int p0), .val (.int p1), .val (.int p2), .val (.int p3), .val (.int qq), .val (.ref bq1), .val (.int v6), .val (.int v7), .val (.int (0 : Int32))] []))
      refine OFin.back (fun _ hr => XS.aload X26.here hx rfl (hb hby at_109) rfl rfl hr) ?_
      show OFin p e below s _ _ Q (T26.setTop (mkF m 111 #[.val (.int p0), .val (.int p1), .val (.int p2), .val (.int p3), .val (.int qq), .val (.ref bq1), .val (.int v6), .val (.int v7), .val (.int (0 : Int32))] [(.ref bq1)]))
      refine OFin.back (fun _ hr => XS.iload X26.here hx rfl (hb hby at_111) rfl hr) ?_
      show OFin p e below s _ _ Q (T26.setTop (mkF m 113 #[.val (.int p0), .val (.int p1), .val (.int p2), .val (.int p3), .val (.int qq), .val (.ref bq1), .val (.int v6), .val (.int v7), .val (.int (0 : Int32))] [(.int v6), (.ref bq1)]))
      refine OFin.back (fun _ hr => XS.iload X26.here hx rfl (hb hby at_113) rfl hr) ?_
      show OFin p e below s _ _ Q (T26.setTop (mkF m 115 #[.val (.int p0), .val (.int p1), .val (.int p2), .val (.int p3), .val (.int qq), .val (.ref bq1), .val (.int v6), .val (.int v7), .val (.int (0 : Int32))] [(.int v7), (.int v6), (.ref bq1)]))
      obtain ⟨_, _, ⟨T28, L28, k28, n28⟩, -, X28, ⟨Lc28, hQ28, l28, y28, z28⟩, st28⟩ := Jvm.LawKit.callS X26 hx (y := (⟨"com/example/bytelore/bytelore/classfile/Names", "isModuleName", "([BII)Z"⟩ : MethodName)) hown (mvT hZ (hw _ (List.mem_of_getElem? (i := 6) rfl))) (mvT hZ (hw _ (List.mem_of_getElem? (i := 7) rfl))) (mvT hZ (hw _ (List.mem_of_getElem? (i := 8) rfl))) (mvT hZ (hw _ (List.mem_of_getElem? (i := 9) rfl))) (by decide) (backOf (W := 0) (rm4 l Z a0 hw [] bq1 v6 v7 k1 b0 b1 b2 b3 ka cl (h19) n0 f21 V19 hs.1 he.2 (own_sta S_KINDS f20) (Ar.ext f20.2) HK) hZ (hw _ (List.mem_of_getElem? (i := 9) rfl)) (hw _ (List.mem_of_getElem? (i := 8) rfl)) (by decide) (by decide)) (g := (mkF m 115 #[.val (.int p0), .val (.int p1), .val (.int p2), .val (.int p3), .val (.int qq), .val (.ref bq1), .val (.int v6), .val (.int v7), .val (.int (0 : Int32))] [(.int v7), (.int v6), (.ref bq1)])) rfl (by rw [hml]; rfl) (argsL := [(.ref bq1), (.int v6), (.int v7)]) (rest := []) (lenOf pd0_1 rfl) rfl (by show 2 * 0 + _ ≤ _; exact Nat.le_of_eq rfl) (hb hby at_115) (fun _ _ => ⟨rfl, e26, (by decide : 1 + 0 ≤ _), (by decide : 4 + 0 ≤ _)⟩)
      dsimp only [Pt.U, Pt.locs, Pt.cells, Pt.slots] at X28 l28 y28 z28 st28 hQ28
      subst l28 y28 z28
      obtain ⟨rfl, N28q, e28⟩ := hQ28
      have N28 := Fr.app N26 N28q
      refine OFin.back st28 ?_
      show OFin p e below s _ _ Q (T28.setTop (mkF m 118 #[.val (.int p0), .val (.int p1), .val (.int p2), .val (.int p3), .val (.int qq), .val (.ref bq1), .val (.int v6), .val (.int v7), .val (.int (0 : Int32))] [(.int (own_imn b0 b1 b2 b3 v6 v7))]))
      refine OFin.back (fun _ hr => XS.iload X28.here hx rfl (hb hby at_118) rfl hr) ?_
      show OFin p e below s _ _ Q (T28.setTop (mkF m 120 #[.val (.int p0), .val (.int p1), .val (.int p2), .val (.int p3), .val (.int qq), .val (.ref bq1), .val (.int v6), .val (.int v7), .val (.int (0 : Int32))] [(.int (0 : Int32)), (.int (own_imn b0 b1 b2 b3 v6 v7))]))
      have hlaw := own_lawF1 hB0 hB1 hB2 hB3 hs he hc73_27
      refine OFin.back (fun _ hr => XS.icmpNo X28.here hx rfl (hb hby at_120) rfl (teq hlaw).2 hr) ?_
      show OFin p e below s _ _ Q (T28.setTop (mkF m 123 #[.val (.int p0), .val (.int p1), .val (.int p2), .val (.int p3), .val (.int qq), .val (.ref bq1), .val (.int v6), .val (.int v7), .val (.int (0 : Int32))] []))
      refine OFin.back (fun _ hr => XS.iconst X28.here hx rfl (hb hby at_123) hr) ?_
      show OFin p e below s _ _ Q (T28.setTop (mkF m 124 #[.val (.int p0), .val (.int p1), .val (.int p2), .val (.int p3), .val (.int qq), .val (.ref bq1), .val (.int v6), .val (.int v7), .val (.int (0 : Int32))] [(.int (1 : Int32))]))
      refine OFin.back (fun _ hr => XS.goto X28.here hx rfl (pc0 := 124) (pc' := 128) rfl (hb hby at_124) (by decide) (by decide) hr) ?_
      show OFin p e below s _ _ Q (T28.setTop (mkF m 128 #[.val (.int p0), .val (.int p1), .val (.int p2), .val (.int p3), .val (.int qq), .val (.ref bq1), .val (.int v6), .val (.int v7), .val (.int (0 : Int32))] [(.int (1 : Int32))]))
      exact OFin.outN (t := .boolean) X28 hx Bd.returns (by simp) Bd.notSynchronized (hb hby at_128) (by decide) (by decide) e28 (by rw [hQ]; exact ⟨rfl, N28⟩)
    · -- not (own_pos b0 b1 b2 b3 v6 v7 (1 : Int32)) = (0 : Int32)
      refine OFin.back (fun _ hr => XS.ifNo X26.here hx rfl (hb hby at_73) rfl ((if0 _ _).trans (feq hc73_27).1) hr) ?_
      show OFin p e below s _ _ Q (T26.setTop (mkF m 76 #[.val (.int p0), .val (.int p1), .val (.int p2), .val (.int p3), .val (.int qq), .val (.ref bq1), .val (.int v6), .val (.int v7), .unset] []))
      refine OFin.back (fun _ hr => XS.aload X26.here hx rfl (hb hby at_76) rfl rfl hr) ?_
      show OFin p e below s _ _ Q (T26.setTop (mkF m 78 #[.val (.int p0), .val (.int p1), .val (.int p2), .val (.int p3), .val (.int qq), .val (.ref bq1), .val (.int v6), .val (.int v7), .unset] [(.ref bq1)]))
      refine OFin.back (fun _ hr => XS.iload X26.here hx rfl (hb hby at_78) rfl hr) ?_
      show OFin p e below s _ _ Q (T26.setTop (mkF m 80 #[.val (.int p0), .val (.int p1), .val (.int p2), .val (.int p3), .val (.int qq), .val (.ref bq1), .val (.int v6), .val (.int v7), .unset] [(.int v6), (.ref bq1)]))
      refine OFin.back (fun _ hr => XS.iload X26.here hx rfl (hb hby at_80) rfl hr) ?_
      show OFin p e below s _ _ Q (T26.setTop (mkF m 82 #[.val (.int p0), .val (.int p1), .val (.int p2), .val (.int p3), .val (.int qq), .val (.ref bq1), .val (.int v6), .val (.int v7), .unset] [(.int v7), (.int v6), (.ref bq1)]))
      refine OFin.back (fun _ hr => XS.iconst X26.here hx rfl (hb hby at_82) hr) ?_
      show OFin p e below s _ _ Q (T26.setTop (mkF m 83 #[.val (.int p0), .val (.int p1), .val (.int p2), .val (.int p3), .val (.int qq), .val (.ref bq1), .val (.int v6), .val (.int v7), .unset] [(.int (2 : Int32)), (.int v7), (.int v6), (.ref bq1)]))
      obtain ⟨_, _, ⟨T29, L29, k29, n29⟩, -, X29, ⟨Lc29, hQ29, l29, y29, z29⟩, st29⟩ := Jvm.LawKit.callS X26 hx (y := (⟨"com/example/bytelore/bytelore/classfile/NamesIsModuleNamePinLaw", "posOk", "([BIII)Z"⟩ : MethodName)) hown (mvT hZ (hw _ (List.mem_of_getElem? (i := 2) rfl))) (mvT hZ (hw _ (List.mem_of_getElem? (i := 3) rfl))) (mvT hZ (hw _ (List.mem_of_getElem? (i := 4) rfl))) (mvT hZ (hw _ (List.mem_of_getElem? (i := 5) rfl))) (by decide) (backOf (W := 0) (rm3 l Z a0 hw [] bq1 v6 v7 (2 : Int32) k1 b0 b1 b2 b3 (h19) n0 f21 V19 hs.1 (by decide)) hZ (hw _ (List.mem_of_getElem? (i := 5) rfl)) (hw _ (List.mem_of_getElem? (i := 4) rfl)) (by decide) (by decide)) (g := (mkF m 83 #[.val (.int p0), .val (.int p1), .val (.int p2), .val (.int p3), .val (.int qq), .val (.ref bq1), .val (.int v6), .val (.int v7), .unset] [(.int (2 : Int32)), (.int v7), (.int v6), (.ref bq1)])) rfl (by rw [hml]; rfl) (argsL := [(.ref bq1), (.int v6), (.int v7), (.int (2 : Int32))]) (rest := []) (lenOf pd0_0 rfl) rfl (by show 2 * 0 + _ ≤ _; exact Nat.le_of_eq rfl) (hb hby at_83) (fun _ _ => ⟨rfl, e26, (by decide : 1 + 0 ≤ _), (by decide : 4 + 0 ≤ _)⟩)
      dsimp only [Pt.U, Pt.locs, Pt.cells, Pt.slots] at X29 l29 y29 z29 st29 hQ29
      subst l29 y29 z29
      obtain ⟨rfl, N29q, e29⟩ := hQ29
      have N29 := Fr.app N26 N29q
      refine OFin.back st29 ?_
      show OFin p e below s _ _ Q (T29.setTop (mkF m 86 #[.val (.int p0), .val (.int p1), .val (.int p2), .val (.int p3), .val (.int qq), .val (.ref bq1), .val (.int v6), .val (.int v7), .unset] [(.int (own_pos b0 b1 b2 b3 v6 v7 (2 : Int32)))]))
      by_cases hc86_30 : (own_pos b0 b1 b2 b3 v6 v7 (2 : Int32)) = (0 : Int32)
      · -- (own_pos b0 b1 b2 b3 v6 v7 (2 : Int32)) = (0 : Int32)
        refine OFin.back (fun _ hr => XS.ifYes X29.here hx rfl (pc0 := 86) (pc' := 106) rfl (hb hby at_86) rfl ((if0 _ _).trans (teq hc86_30).1) (by decide) (by decide) hr) ?_
        show OFin p e below s _ _ Q (T29.setTop (mkF m 106 #[.val (.int p0), .val (.int p1), .val (.int p2), .val (.int p3), .val (.int qq), .val (.ref bq1), .val (.int v6), .val (.int v7), .unset] []))
        refine OFin.back (fun _ hr => XS.iconst X29.here hx rfl (hb hby at_106) hr) ?_
        show OFin p e below s _ _ Q (T29.setTop (mkF m 107 #[.val (.int p0), .val (.int p1), .val (.int p2), .val (.int p3), .val (.int qq), .val (.ref bq1), .val (.int v6), .val (.int v7), .unset] [(.int (0 : Int32))]))
        refine OFin.back (fun _ hr => XS.istore X29.here hx rfl (hb hby at_107) rfl (l' := #[.val (.int p0), .val (.int p1), .val (.int p2), .val (.int p3), .val (.int qq), .val (.ref bq1), .val (.int v6), .val (.int v7), .val (.int (0 : Int32))]) rfl hr) ?_
        show OFin p e below s _ _ Q (T29.setTop (mkF m 109 #[.val (.int p0), .val (.int p1), .val (.int p2), .val (.int p3), .val (.int qq), .val (.ref bq1), .val (.int v6), .val (.int v7), .val (.int (0 : Int32))] []))
        refine OFin.back (fun _ hr => XS.aload X29.here hx rfl (hb hby at_109) rfl rfl hr) ?_
        show OFin p e below s _ _ Q (T29.setTop (mkF m 111 #[.val (.int p0), .val (.int p1), .val (.int p2), .val (.int p3), .val (.int qq), .val (.ref bq1), .val (.int v6), .val (.int v7), .val (.int (0 : Int32))] [(.ref bq1)]))
        refine OFin.back (fun _ hr => XS.iload X29.here hx rfl (hb hby at_111) rfl hr) ?_
        show OFin p e below s _ _ Q (T29.setTop (mkF m 113 #[.val (.int p0), .val (.int p1), .val (.int p2), .val (.int p3), .val (.int qq), .val (.ref bq1), .val (.int v6), .val (.int v7), .val (.int (0 : Int32))] [(.int v6), (.ref bq1)]))
        refine OFin.back (fun _ hr => XS.iload X29.here hx rfl (hb hby at_113) rfl hr) ?_
        show OFin p e below s _ _ Q (T29.setTop (mkF m 115 #[.val (.int p0), .val (.int p1), .val (.int p2), .val (.int p3), .val (.int qq), .val (.ref bq1), .val (.int v6), .val (.int v7), .val (.int (0 : Int32))] [(.int v7), (.int v6), (.ref bq1)]))
        obtain ⟨_, _, ⟨T31, L31, k31, n31⟩, -, X31, ⟨Lc31, hQ31, l31, y31, z31⟩, st31⟩ := Jvm.LawKit.callS X29 hx (y := (⟨"com/example/bytelore/bytelore/classfile/Names", "isModuleName", "([BII)Z"⟩ : MethodName)) hown (mvT hZ (hw _ (List.mem_of_getElem? (i := 6) rfl))) (mvT hZ (hw _ (List.mem_of_getElem? (i := 7) rfl))) (mvT hZ (hw _ (List.mem_of_getElem? (i := 8) rfl))) (mvT hZ (hw _ (List.mem_of_getElem? (i := 9) rfl))) (by decide) (backOf (W := 0) (rm4 l Z a0 hw [] bq1 v6 v7 k1 b0 b1 b2 b3 ka cl (h19) n0 f21 V19 hs.1 he.2 (own_sta S_KINDS f20) (Ar.ext f20.2) HK) hZ (hw _ (List.mem_of_getElem? (i := 9) rfl)) (hw _ (List.mem_of_getElem? (i := 8) rfl)) (by decide) (by decide)) (g := (mkF m 115 #[.val (.int p0), .val (.int p1), .val (.int p2), .val (.int p3), .val (.int qq), .val (.ref bq1), .val (.int v6), .val (.int v7), .val (.int (0 : Int32))] [(.int v7), (.int v6), (.ref bq1)])) rfl (by rw [hml]; rfl) (argsL := [(.ref bq1), (.int v6), (.int v7)]) (rest := []) (lenOf pd0_1 rfl) rfl (by show 2 * 0 + _ ≤ _; exact Nat.le_of_eq rfl) (hb hby at_115) (fun _ _ => ⟨rfl, e29, (by decide : 1 + 0 ≤ _), (by decide : 4 + 0 ≤ _)⟩)
        dsimp only [Pt.U, Pt.locs, Pt.cells, Pt.slots] at X31 l31 y31 z31 st31 hQ31
        subst l31 y31 z31
        obtain ⟨rfl, N31q, e31⟩ := hQ31
        have N31 := Fr.app N29 N31q
        refine OFin.back st31 ?_
        show OFin p e below s _ _ Q (T31.setTop (mkF m 118 #[.val (.int p0), .val (.int p1), .val (.int p2), .val (.int p3), .val (.int qq), .val (.ref bq1), .val (.int v6), .val (.int v7), .val (.int (0 : Int32))] [(.int (own_imn b0 b1 b2 b3 v6 v7))]))
        refine OFin.back (fun _ hr => XS.iload X31.here hx rfl (hb hby at_118) rfl hr) ?_
        show OFin p e below s _ _ Q (T31.setTop (mkF m 120 #[.val (.int p0), .val (.int p1), .val (.int p2), .val (.int p3), .val (.int qq), .val (.ref bq1), .val (.int v6), .val (.int v7), .val (.int (0 : Int32))] [(.int (0 : Int32)), (.int (own_imn b0 b1 b2 b3 v6 v7))]))
        have hlaw := own_lawF2 hB0 hB1 hB2 hB3 hs he hc86_30
        refine OFin.back (fun _ hr => XS.icmpNo X31.here hx rfl (hb hby at_120) rfl (teq hlaw).2 hr) ?_
        show OFin p e below s _ _ Q (T31.setTop (mkF m 123 #[.val (.int p0), .val (.int p1), .val (.int p2), .val (.int p3), .val (.int qq), .val (.ref bq1), .val (.int v6), .val (.int v7), .val (.int (0 : Int32))] []))
        refine OFin.back (fun _ hr => XS.iconst X31.here hx rfl (hb hby at_123) hr) ?_
        show OFin p e below s _ _ Q (T31.setTop (mkF m 124 #[.val (.int p0), .val (.int p1), .val (.int p2), .val (.int p3), .val (.int qq), .val (.ref bq1), .val (.int v6), .val (.int v7), .val (.int (0 : Int32))] [(.int (1 : Int32))]))
        refine OFin.back (fun _ hr => XS.goto X31.here hx rfl (pc0 := 124) (pc' := 128) rfl (hb hby at_124) (by decide) (by decide) hr) ?_
        show OFin p e below s _ _ Q (T31.setTop (mkF m 128 #[.val (.int p0), .val (.int p1), .val (.int p2), .val (.int p3), .val (.int qq), .val (.ref bq1), .val (.int v6), .val (.int v7), .val (.int (0 : Int32))] [(.int (1 : Int32))]))
        exact OFin.outN (t := .boolean) X31 hx Bd.returns (by simp) Bd.notSynchronized (hb hby at_128) (by decide) (by decide) e31 (by rw [hQ]; exact ⟨rfl, N31⟩)
      · -- not (own_pos b0 b1 b2 b3 v6 v7 (2 : Int32)) = (0 : Int32)
        refine OFin.back (fun _ hr => XS.ifNo X29.here hx rfl (hb hby at_86) rfl ((if0 _ _).trans (feq hc86_30).1) hr) ?_
        show OFin p e below s _ _ Q (T29.setTop (mkF m 89 #[.val (.int p0), .val (.int p1), .val (.int p2), .val (.int p3), .val (.int qq), .val (.ref bq1), .val (.int v6), .val (.int v7), .unset] []))
        refine OFin.back (fun _ hr => XS.aload X29.here hx rfl (hb hby at_89) rfl rfl hr) ?_
        show OFin p e below s _ _ Q (T29.setTop (mkF m 91 #[.val (.int p0), .val (.int p1), .val (.int p2), .val (.int p3), .val (.int qq), .val (.ref bq1), .val (.int v6), .val (.int v7), .unset] [(.ref bq1)]))
        refine OFin.back (fun _ hr => XS.iload X29.here hx rfl (hb hby at_91) rfl hr) ?_
        show OFin p e below s _ _ Q (T29.setTop (mkF m 93 #[.val (.int p0), .val (.int p1), .val (.int p2), .val (.int p3), .val (.int qq), .val (.ref bq1), .val (.int v6), .val (.int v7), .unset] [(.int v6), (.ref bq1)]))
        refine OFin.back (fun _ hr => XS.iload X29.here hx rfl (hb hby at_93) rfl hr) ?_
        show OFin p e below s _ _ Q (T29.setTop (mkF m 95 #[.val (.int p0), .val (.int p1), .val (.int p2), .val (.int p3), .val (.int qq), .val (.ref bq1), .val (.int v6), .val (.int v7), .unset] [(.int v7), (.int v6), (.ref bq1)]))
        refine OFin.back (fun _ hr => XS.iconst X29.here hx rfl (hb hby at_95) hr) ?_
        show OFin p e below s _ _ Q (T29.setTop (mkF m 96 #[.val (.int p0), .val (.int p1), .val (.int p2), .val (.int p3), .val (.int qq), .val (.ref bq1), .val (.int v6), .val (.int v7), .unset] [(.int (3 : Int32)), (.int v7), (.int v6), (.ref bq1)]))
        obtain ⟨_, _, ⟨T32, L32, k32, n32⟩, -, X32, ⟨Lc32, hQ32, l32, y32, z32⟩, st32⟩ := Jvm.LawKit.callS X29 hx (y := (⟨"com/example/bytelore/bytelore/classfile/NamesIsModuleNamePinLaw", "posOk", "([BIII)Z"⟩ : MethodName)) hown (mvT hZ (hw _ (List.mem_of_getElem? (i := 2) rfl))) (mvT hZ (hw _ (List.mem_of_getElem? (i := 3) rfl))) (mvT hZ (hw _ (List.mem_of_getElem? (i := 4) rfl))) (mvT hZ (hw _ (List.mem_of_getElem? (i := 5) rfl))) (by decide) (backOf (W := 0) (rm3 l Z a0 hw [] bq1 v6 v7 (3 : Int32) k1 b0 b1 b2 b3 (h19) n0 f21 V19 hs.1 (by decide)) hZ (hw _ (List.mem_of_getElem? (i := 5) rfl)) (hw _ (List.mem_of_getElem? (i := 4) rfl)) (by decide) (by decide)) (g := (mkF m 96 #[.val (.int p0), .val (.int p1), .val (.int p2), .val (.int p3), .val (.int qq), .val (.ref bq1), .val (.int v6), .val (.int v7), .unset] [(.int (3 : Int32)), (.int v7), (.int v6), (.ref bq1)])) rfl (by rw [hml]; rfl) (argsL := [(.ref bq1), (.int v6), (.int v7), (.int (3 : Int32))]) (rest := []) (lenOf pd0_0 rfl) rfl (by show 2 * 0 + _ ≤ _; exact Nat.le_of_eq rfl) (hb hby at_96) (fun _ _ => ⟨rfl, e29, (by decide : 1 + 0 ≤ _), (by decide : 4 + 0 ≤ _)⟩)
        dsimp only [Pt.U, Pt.locs, Pt.cells, Pt.slots] at X32 l32 y32 z32 st32 hQ32
        subst l32 y32 z32
        obtain ⟨rfl, N32q, e32⟩ := hQ32
        have N32 := Fr.app N29 N32q
        refine OFin.back st32 ?_
        show OFin p e below s _ _ Q (T32.setTop (mkF m 99 #[.val (.int p0), .val (.int p1), .val (.int p2), .val (.int p3), .val (.int qq), .val (.ref bq1), .val (.int v6), .val (.int v7), .unset] [(.int (own_pos b0 b1 b2 b3 v6 v7 (3 : Int32)))]))
        by_cases hc99_33 : (own_pos b0 b1 b2 b3 v6 v7 (3 : Int32)) = (0 : Int32)
        · -- (own_pos b0 b1 b2 b3 v6 v7 (3 : Int32)) = (0 : Int32)
          refine OFin.back (fun _ hr => XS.ifYes X32.here hx rfl (pc0 := 99) (pc' := 106) rfl (hb hby at_99) rfl ((if0 _ _).trans (teq hc99_33).1) (by decide) (by decide) hr) ?_
          show OFin p e below s _ _ Q (T32.setTop (mkF m 106 #[.val (.int p0), .val (.int p1), .val (.int p2), .val (.int p3), .val (.int qq), .val (.ref bq1), .val (.int v6), .val (.int v7), .unset] []))
          refine OFin.back (fun _ hr => XS.iconst X32.here hx rfl (hb hby at_106) hr) ?_
          show OFin p e below s _ _ Q (T32.setTop (mkF m 107 #[.val (.int p0), .val (.int p1), .val (.int p2), .val (.int p3), .val (.int qq), .val (.ref bq1), .val (.int v6), .val (.int v7), .unset] [(.int (0 : Int32))]))
          refine OFin.back (fun _ hr => XS.istore X32.here hx rfl (hb hby at_107) rfl (l' := #[.val (.int p0), .val (.int p1), .val (.int p2), .val (.int p3), .val (.int qq), .val (.ref bq1), .val (.int v6), .val (.int v7), .val (.int (0 : Int32))]) rfl hr) ?_
          show OFin p e below s _ _ Q (T32.setTop (mkF m 109 #[.val (.int p0), .val (.int p1), .val (.int p2), .val (.int p3), .val (.int qq), .val (.ref bq1), .val (.int v6), .val (.int v7), .val (.int (0 : Int32))] []))
          refine OFin.back (fun _ hr => XS.aload X32.here hx rfl (hb hby at_109) rfl rfl hr) ?_
          show OFin p e below s _ _ Q (T32.setTop (mkF m 111 #[.val (.int p0), .val (.int p1), .val (.int p2), .val (.int p3), .val (.int qq), .val (.ref bq1), .val (.int v6), .val (.int v7), .val (.int (0 : Int32))] [(.ref bq1)]))
          refine OFin.back (fun _ hr => XS.iload X32.here hx rfl (hb hby at_111) rfl hr) ?_
          show OFin p e below s _ _ Q (T32.setTop (mkF m 113 #[.val (.int p0), .val (.int p1), .val (.int p2), .val (.int p3), .val (.int qq), .val (.ref bq1), .val (.int v6), .val (.int v7), .val (.int (0 : Int32))] [(.int v6), (.ref bq1)]))
          refine OFin.back (fun _ hr => XS.iload X32.here hx rfl (hb hby at_113) rfl hr) ?_
          show OFin p e below s _ _ Q (T32.setTop (mkF m 115 #[.val (.int p0), .val (.int p1), .val (.int p2), .val (.int p3), .val (.int qq), .val (.ref bq1), .val (.int v6), .val (.int v7), .val (.int (0 : Int32))] [(.int v7), (.int v6), (.ref bq1)]))
          obtain ⟨_, _, ⟨T34, L34, k34, n34⟩, -, X34, ⟨Lc34, hQ34, l34, y34, z34⟩, st34⟩ := Jvm.LawKit.callS X32 hx (y := (⟨"com/example/bytelore/bytelore/classfile/Names", "isModuleName", "([BII)Z"⟩ : MethodName)) hown (mvT hZ (hw _ (List.mem_of_getElem? (i := 6) rfl))) (mvT hZ (hw _ (List.mem_of_getElem? (i := 7) rfl))) (mvT hZ (hw _ (List.mem_of_getElem? (i := 8) rfl))) (mvT hZ (hw _ (List.mem_of_getElem? (i := 9) rfl))) (by decide) (backOf (W := 0) (rm4 l Z a0 hw [] bq1 v6 v7 k1 b0 b1 b2 b3 ka cl (h19) n0 f21 V19 hs.1 he.2 (own_sta S_KINDS f20) (Ar.ext f20.2) HK) hZ (hw _ (List.mem_of_getElem? (i := 9) rfl)) (hw _ (List.mem_of_getElem? (i := 8) rfl)) (by decide) (by decide)) (g := (mkF m 115 #[.val (.int p0), .val (.int p1), .val (.int p2), .val (.int p3), .val (.int qq), .val (.ref bq1), .val (.int v6), .val (.int v7), .val (.int (0 : Int32))] [(.int v7), (.int v6), (.ref bq1)])) rfl (by rw [hml]; rfl) (argsL := [(.ref bq1), (.int v6), (.int v7)]) (rest := []) (lenOf pd0_1 rfl) rfl (by show 2 * 0 + _ ≤ _; exact Nat.le_of_eq rfl) (hb hby at_115) (fun _ _ => ⟨rfl, e32, (by decide : 1 + 0 ≤ _), (by decide : 4 + 0 ≤ _)⟩)
          dsimp only [Pt.U, Pt.locs, Pt.cells, Pt.slots] at X34 l34 y34 z34 st34 hQ34
          subst l34 y34 z34
          obtain ⟨rfl, N34q, e34⟩ := hQ34
          have N34 := Fr.app N32 N34q
          refine OFin.back st34 ?_
          show OFin p e below s _ _ Q (T34.setTop (mkF m 118 #[.val (.int p0), .val (.int p1), .val (.int p2), .val (.int p3), .val (.int qq), .val (.ref bq1), .val (.int v6), .val (.int v7), .val (.int (0 : Int32))] [(.int (own_imn b0 b1 b2 b3 v6 v7))]))
          refine OFin.back (fun _ hr => XS.iload X34.here hx rfl (hb hby at_118) rfl hr) ?_
          show OFin p e below s _ _ Q (T34.setTop (mkF m 120 #[.val (.int p0), .val (.int p1), .val (.int p2), .val (.int p3), .val (.int qq), .val (.ref bq1), .val (.int v6), .val (.int v7), .val (.int (0 : Int32))] [(.int (0 : Int32)), (.int (own_imn b0 b1 b2 b3 v6 v7))]))
          have hlaw := own_lawF3 hB0 hB1 hB2 hB3 hs he hc99_33
          refine OFin.back (fun _ hr => XS.icmpNo X34.here hx rfl (hb hby at_120) rfl (teq hlaw).2 hr) ?_
          show OFin p e below s _ _ Q (T34.setTop (mkF m 123 #[.val (.int p0), .val (.int p1), .val (.int p2), .val (.int p3), .val (.int qq), .val (.ref bq1), .val (.int v6), .val (.int v7), .val (.int (0 : Int32))] []))
          refine OFin.back (fun _ hr => XS.iconst X34.here hx rfl (hb hby at_123) hr) ?_
          show OFin p e below s _ _ Q (T34.setTop (mkF m 124 #[.val (.int p0), .val (.int p1), .val (.int p2), .val (.int p3), .val (.int qq), .val (.ref bq1), .val (.int v6), .val (.int v7), .val (.int (0 : Int32))] [(.int (1 : Int32))]))
          refine OFin.back (fun _ hr => XS.goto X34.here hx rfl (pc0 := 124) (pc' := 128) rfl (hb hby at_124) (by decide) (by decide) hr) ?_
          show OFin p e below s _ _ Q (T34.setTop (mkF m 128 #[.val (.int p0), .val (.int p1), .val (.int p2), .val (.int p3), .val (.int qq), .val (.ref bq1), .val (.int v6), .val (.int v7), .val (.int (0 : Int32))] [(.int (1 : Int32))]))
          exact OFin.outN (t := .boolean) X34 hx Bd.returns (by simp) Bd.notSynchronized (hb hby at_128) (by decide) (by decide) e34 (by rw [hQ]; exact ⟨rfl, N34⟩)
        · -- not (own_pos b0 b1 b2 b3 v6 v7 (3 : Int32)) = (0 : Int32)
          refine OFin.back (fun _ hr => XS.ifNo X32.here hx rfl (hb hby at_99) rfl ((if0 _ _).trans (feq hc99_33).1) hr) ?_
          show OFin p e below s _ _ Q (T32.setTop (mkF m 102 #[.val (.int p0), .val (.int p1), .val (.int p2), .val (.int p3), .val (.int qq), .val (.ref bq1), .val (.int v6), .val (.int v7), .unset] []))
          refine OFin.back (fun _ hr => XS.iconst X32.here hx rfl (hb hby at_102) hr) ?_
          show OFin p e below s _ _ Q (T32.setTop (mkF m 103 #[.val (.int p0), .val (.int p1), .val (.int p2), .val (.int p3), .val (.int qq), .val (.ref bq1), .val (.int v6), .val (.int v7), .unset] [(.int (1 : Int32))]))
          refine OFin.back (fun _ hr => XS.goto X32.here hx rfl (pc0 := 103) (pc' := 107) rfl (hb hby at_103) (by decide) (by decide) hr) ?_
          show OFin p e below s _ _ Q (T32.setTop (mkF m 107 #[.val (.int p0), .val (.int p1), .val (.int p2), .val (.int p3), .val (.int qq), .val (.ref bq1), .val (.int v6), .val (.int v7), .unset] [(.int (1 : Int32))]))
          refine OFin.back (fun _ hr => XS.istore X32.here hx rfl (hb hby at_107) rfl (l' := #[.val (.int p0), .val (.int p1), .val (.int p2), .val (.int p3), .val (.int qq), .val (.ref bq1), .val (.int v6), .val (.int v7), .val (.int (1 : Int32))]) rfl hr) ?_
          show OFin p e below s _ _ Q (T32.setTop (mkF m 109 #[.val (.int p0), .val (.int p1), .val (.int p2), .val (.int p3), .val (.int qq), .val (.ref bq1), .val (.int v6), .val (.int v7), .val (.int (1 : Int32))] []))
          refine OFin.back (fun _ hr => XS.aload X32.here hx rfl (hb hby at_109) rfl rfl hr) ?_
          show OFin p e below s _ _ Q (T32.setTop (mkF m 111 #[.val (.int p0), .val (.int p1), .val (.int p2), .val (.int p3), .val (.int qq), .val (.ref bq1), .val (.int v6), .val (.int v7), .val (.int (1 : Int32))] [(.ref bq1)]))
          refine OFin.back (fun _ hr => XS.iload X32.here hx rfl (hb hby at_111) rfl hr) ?_
          show OFin p e below s _ _ Q (T32.setTop (mkF m 113 #[.val (.int p0), .val (.int p1), .val (.int p2), .val (.int p3), .val (.int qq), .val (.ref bq1), .val (.int v6), .val (.int v7), .val (.int (1 : Int32))] [(.int v6), (.ref bq1)]))
          refine OFin.back (fun _ hr => XS.iload X32.here hx rfl (hb hby at_113) rfl hr) ?_
          show OFin p e below s _ _ Q (T32.setTop (mkF m 115 #[.val (.int p0), .val (.int p1), .val (.int p2), .val (.int p3), .val (.int qq), .val (.ref bq1), .val (.int v6), .val (.int v7), .val (.int (1 : Int32))] [(.int v7), (.int v6), (.ref bq1)]))
          obtain ⟨_, _, ⟨T35, L35, k35, n35⟩, -, X35, ⟨Lc35, hQ35, l35, y35, z35⟩, st35⟩ := Jvm.LawKit.callS X32 hx (y := (⟨"com/example/bytelore/bytelore/classfile/Names", "isModuleName", "([BII)Z"⟩ : MethodName)) hown (mvT hZ (hw _ (List.mem_of_getElem? (i := 6) rfl))) (mvT hZ (hw _ (List.mem_of_getElem? (i := 7) rfl))) (mvT hZ (hw _ (List.mem_of_getElem? (i := 8) rfl))) (mvT hZ (hw _ (List.mem_of_getElem? (i := 9) rfl))) (by decide) (backOf (W := 0) (rm4 l Z a0 hw [] bq1 v6 v7 k1 b0 b1 b2 b3 ka cl (h19) n0 f21 V19 hs.1 he.2 (own_sta S_KINDS f20) (Ar.ext f20.2) HK) hZ (hw _ (List.mem_of_getElem? (i := 9) rfl)) (hw _ (List.mem_of_getElem? (i := 8) rfl)) (by decide) (by decide)) (g := (mkF m 115 #[.val (.int p0), .val (.int p1), .val (.int p2), .val (.int p3), .val (.int qq), .val (.ref bq1), .val (.int v6), .val (.int v7), .val (.int (1 : Int32))] [(.int v7), (.int v6), (.ref bq1)])) rfl (by rw [hml]; rfl) (argsL := [(.ref bq1), (.int v6), (.int v7)]) (rest := []) (lenOf pd0_1 rfl) rfl (by show 2 * 0 + _ ≤ _; exact Nat.le_of_eq rfl) (hb hby at_115) (fun _ _ => ⟨rfl, e32, (by decide : 1 + 0 ≤ _), (by decide : 4 + 0 ≤ _)⟩)
          dsimp only [Pt.U, Pt.locs, Pt.cells, Pt.slots] at X35 l35 y35 z35 st35 hQ35
          subst l35 y35 z35
          obtain ⟨rfl, N35q, e35⟩ := hQ35
          have N35 := Fr.app N32 N35q
          refine OFin.back st35 ?_
          show OFin p e below s _ _ Q (T35.setTop (mkF m 118 #[.val (.int p0), .val (.int p1), .val (.int p2), .val (.int p3), .val (.int qq), .val (.ref bq1), .val (.int v6), .val (.int v7), .val (.int (1 : Int32))] [(.int (own_imn b0 b1 b2 b3 v6 v7))]))
          refine OFin.back (fun _ hr => XS.iload X35.here hx rfl (hb hby at_118) rfl hr) ?_
          show OFin p e below s _ _ Q (T35.setTop (mkF m 120 #[.val (.int p0), .val (.int p1), .val (.int p2), .val (.int p3), .val (.int qq), .val (.ref bq1), .val (.int v6), .val (.int v7), .val (.int (1 : Int32))] [(.int (1 : Int32)), (.int (own_imn b0 b1 b2 b3 v6 v7))]))
          have hlaw := own_lawT hB0 hB1 hB2 hB3 hs he hc60_24 hc73_27 hc86_30 hc99_33
          refine OFin.back (fun _ hr => XS.icmpNo X35.here hx rfl (hb hby at_120) rfl (teq hlaw).2 hr) ?_
          show OFin p e below s _ _ Q (T35.setTop (mkF m 123 #[.val (.int p0), .val (.int p1), .val (.int p2), .val (.int p3), .val (.int qq), .val (.ref bq1), .val (.int v6), .val (.int v7), .val (.int (1 : Int32))] []))
          refine OFin.back (fun _ hr => XS.iconst X35.here hx rfl (hb hby at_123) hr) ?_
          show OFin p e below s _ _ Q (T35.setTop (mkF m 124 #[.val (.int p0), .val (.int p1), .val (.int p2), .val (.int p3), .val (.int qq), .val (.ref bq1), .val (.int v6), .val (.int v7), .val (.int (1 : Int32))] [(.int (1 : Int32))]))
          refine OFin.back (fun _ hr => XS.goto X35.here hx rfl (pc0 := 124) (pc' := 128) rfl (hb hby at_124) (by decide) (by decide) hr) ?_
          show OFin p e below s _ _ Q (T35.setTop (mkF m 128 #[.val (.int p0), .val (.int p1), .val (.int p2), .val (.int p3), .val (.int qq), .val (.ref bq1), .val (.int v6), .val (.int v7), .val (.int (1 : Int32))] [(.int (1 : Int32))]))
          exact OFin.outN (t := .boolean) X35 hx Bd.returns (by simp) Bd.notSynchronized (hb hby at_128) (by decide) (by decide) e35 (by rw [hQ]; exact ⟨rfl, N35⟩)
set_option maxRecDepth 65536 in
set_option maxHeartbeats 40000000 in
theorem comes_1 {Post : Tables → Env → Array Value → State → Outcome → State → Prop} (hpost : ∀ tb e args s v u, (limb_1_1.after args s (.returned v) u = true ∧ limb_1_2.after args s (.returned v) u = true ∧ True) → FrameEnd s (.returned v) u (Jvm.fieldLocs frame_1_writes args s ++ Jvm.arrayLocs frame_1_arrays args s ++ Jvm.staticLocs frame_1_statics s) 16 128 → Post tb e args s (.returned v) u) :
    ArmFor flags0 classFile x code maxLocals ret World_1 tables_1 room_1 Calls_1 rest_1 Pre_1 Post := by
  intro l hfl _ _ p e ha hc hk s m args below hf hA hF happ hP
  obtain ⟨hcalls, hrest, hpre⟩ := hP
  obtain ⟨-, -, -, hnamed, -, -, -, hat⟩ := (Spec.applies_iff hf).mp happ
  obtain ⟨hg, hn⟩ := and_e (Cond.before_iff.mp (show (Jvm.Cond.and given_1 narrow_1).before args s = true from hpre))
  obtain ⟨hga, hgb⟩ := and_e hg
  obtain ⟨hgba, hgbb⟩ := and_e hgb
  obtain ⟨hgbba, hgbbb⟩ := and_e hgbb
  obtain ⟨hgbbba, hgbbbb⟩ := and_e hgbbb
  obtain ⟨hgbbbba, hgbbbbb⟩ := and_e hgbbbb
  obtain ⟨w0, w1, w2, w3, w4, rfl⟩ : ∃ w0 w1 w2 w3 w4 : Value, args = #[w0, w1, w2, w3, w4] := by
    have hs : args.size = 5 := by simpa [Cond.value, given_1] using hga
    obtain ⟨L⟩ := args
    match L, hs with
    | [w0, w1, w2, w3, w4], _ => exact ⟨w0, w1, w2, w3, w4, rfl⟩
  have hw := fun d (hd : d ∈ tables_1) => atoms_spec (ws := Jvm.Cond.code x code maxLocals ret :: tables_1) hat d (List.mem_cons_of_mem _ hd)
  have hfit : Fit s := fun {y c} hc i hi => by
    obtain ⟨ha, rfl⟩ := Array.getElem?_eq_some_iff.mp hc
    have q := List.all_eq_true.mp ((Array.all_eq_true_iff_forall_mem.mp hF) _ (Array.getElem_mem ha)) i (List.mem_range.mpr hi)
    simpa [Array.getElem?_eq_getElem hi] using q
  obtain ⟨i0, ei0⟩ := is_v hgba
  obtain rfl : w0 = (.int i0) := Option.some.inj ei0
  obtain ⟨i1, ei1⟩ := is_v hgbba
  obtain rfl : w1 = (.int i1) := Option.some.inj ei1
  obtain ⟨i2, ei2⟩ := is_v hgbbba
  obtain rfl : w2 = (.int i2) := Option.some.inj ei2
  obtain ⟨i3, ei3⟩ := is_v hgbbbba
  obtain rfl : w3 = (.int i3) := Option.some.inj ei3
  obtain ⟨i4, ei4⟩ := is_v hgbbbbb
  obtain rfl : w4 = (.int i4) := Option.some.inj ei4
  obtain ⟨hna, hnb⟩ := and_e hn
  obtain ⟨hnba, hnbb⟩ := and_e hnb
  obtain ⟨hnbba, hnbbb⟩ := and_e hnbb
  obtain ⟨hnbbba, hnbbbb⟩ := and_e hnbbb
  obtain ⟨hnbbbba, hnbbbbb⟩ := and_e hnbbbb
  obtain ⟨hnbbbbba, hnbbbbbb⟩ := and_e hnbbbbb
  obtain ⟨hnbbbbbba, hnbbbbbbb⟩ := and_e hnbbbbbb
  obtain ⟨hnbbbbbbba, hnbbbbbbbb⟩ := and_e hnbbbbbbb
  obtain ⟨hnbbbbbbbba, hnbbbbbbbbb⟩ := and_e hnbbbbbbbb
  obtain ⟨hnbbbbbbbbba, hnbbbbbbbbbb⟩ := and_e hnbbbbbbbbb
  obtain ⟨hnbbbbbbbbbba, hnbbbbbbbbbbb⟩ := and_e hnbbbbbbbbbb
  obtain ⟨hnbbbbbbbbbbba, hnbbbbbbbbbbbb⟩ := and_e hnbbbbbbbbbbb
  obtain ⟨hnbbbbbbbbbbbba, hnbbbbbbbbbbbbb⟩ := and_e hnbbbbbbbbbbbb
  obtain ⟨hnbbbbbbbbbbbbba, hnbbbbbbbbbbbbbb⟩ := and_e hnbbbbbbbbbbbbb
  obtain ⟨hnbbbbbbbbbbbbbba, hnbbbbbbbbbbbbbbb⟩ := and_e hnbbbbbbbbbbbbbb
  obtain ⟨hnbbbbbbbbbbbbbbba, hnbbbbbbbbbbbbbbbb⟩ := and_e hnbbbbbbbbbbbbbbb
  obtain ⟨hnbbbbbbbbbbbbbbbba, hnbbbbbbbbbbbbbbbbb⟩ := and_e hnbbbbbbbbbbbbbbbb
  obtain ⟨hnbbbbbbbbbbbbbbbbba, hnbbbbbbbbbbbbbbbbbb⟩ := and_e hnbbbbbbbbbbbbbbbbb
  obtain ⟨hnbbbbbbbbbbbbbbbbbba, hnbbbbbbbbbbbbbbbbbbb⟩ := and_e hnbbbbbbbbbbbbbbbbbb
  obtain ⟨hnbbbbbbbbbbbbbbbbbbba, hnbbbbbbbbbbbbbbbbbbbb⟩ := and_e hnbbbbbbbbbbbbbbbbbbb
  obtain ⟨ka, evk⟩ := arr_v hna
  have S_KINDS := Sta.start evk (Or.inr ⟨(hw _ (List.mem_of_getElem? (i := 8) rfl)), (hw _ (List.mem_of_getElem? (i := 17) rfl))⟩)
  obtain ⟨cl, Ar⟩ := Arr.start evk hna
  have et : ∀ idx, (Jvm.Term.static "com/example/bytelore/bytelore/classfile/Names" "KINDS" "[B").eval #[(.int i0), (.int i1), (.int i2), (.int i3), (.int i4)] s none idx s = some (.ref ka) := fun _ => evk
  have harr := Ar.fin (Vm.Alike.refl _)
  obtain ⟨z1, z2⟩ := own_len evk harr (eqv_i (F := Jvm.Term.int (256 : Int32)) rfl hnba)
  have hsz : cl.slots.size = 256 := own_256 z1 z2
  have HK : ∀ j : Int32, ¬ j < 0 ∧ j < (256 : Int32) → ¬ (j < 0 ∨ cl.slots.size ≤ j.toNatClampNeg) ∧ cl.slots[j.toNatClampNeg]? = some (.int (own_kind j)) := by
    intro j hj
    have hnat := nat_of hj.1
    have a1 : (256 : Int32).toInt = 256 := by decide
    have h2 := hj.2
    rw [Int32.lt_iff_toInt_lt, a1] at h2
    have hlt : j.toNatClampNeg < cl.slots.size := by rw [hsz]; omega
    refine ⟨fun q => q.elim hj.1 (fun q => absurd hlt (Nat.not_lt.mpr q)), ?_⟩
    unfold own_kind
    by_cases q0 : j.toInt = 0
    · rw [if_pos q0]; exact own_el et harr (by decide) hnbba (q0.trans (by decide))
    rw [if_neg q0]
    by_cases q1 : j.toInt < 32
    · rw [if_pos q1]
      rcases own_all3 et harr hnbbba hj.1 hlt with q | q | q
      · exfalso; have b1 : (1 : Int32).toInt = 1 := by decide
        omega
      · exfalso; have b1 : (32 : Int32).toInt = 32 := by decide
        omega
      · exact q
    rw [if_neg q1]
    by_cases q32 : j.toInt < 46
    · rw [if_pos q32]
      rcases own_all3 et harr hnbbbba hj.1 hlt with q | q | q
      · exfalso; have b1 : (32 : Int32).toInt = 32 := by decide
        omega
      · exfalso; have b1 : (46 : Int32).toInt = 46 := by decide
        omega
      · exact q
    rw [if_neg q32]
    by_cases q46 : j.toInt = 46
    · rw [if_pos q46]; exact own_el et harr (by decide) hnbbbbba (q46.trans (by decide))
    rw [if_neg q46]
    by_cases q47 : j.toInt = 47
    · rw [if_pos q47]; exact own_el et harr (by decide) hnbbbbbba (q47.trans (by decide))
    rw [if_neg q47]
    by_cases q48 : j.toInt < 58
    · rw [if_pos q48]
      rcases own_all3 et harr hnbbbbbbba hj.1 hlt with q | q | q
      · exfalso; have b1 : (48 : Int32).toInt = 48 := by decide
        omega
      · exfalso; have b1 : (58 : Int32).toInt = 58 := by decide
        omega
      · exact q
    rw [if_neg q48]
    by_cases q58 : j.toInt = 58
    · rw [if_pos q58]; exact own_el et harr (by decide) hnbbbbbbbba (q58.trans (by decide))
    rw [if_neg q58]
    by_cases q59 : j.toInt = 59
    · rw [if_pos q59]; exact own_el et harr (by decide) hnbbbbbbbbba (q59.trans (by decide))
    rw [if_neg q59]
    by_cases q60 : j.toInt = 60
    · rw [if_pos q60]; exact own_el et harr (by decide) hnbbbbbbbbbba (q60.trans (by decide))
    rw [if_neg q60]
    by_cases q61 : j.toInt = 61
    · rw [if_pos q61]; exact own_el et harr (by decide) hnbbbbbbbbbbba (q61.trans (by decide))
    rw [if_neg q61]
    by_cases q62 : j.toInt = 62
    · rw [if_pos q62]; exact own_el et harr (by decide) hnbbbbbbbbbbbba (q62.trans (by decide))
    rw [if_neg q62]
    by_cases q63 : j.toInt = 63
    · rw [if_pos q63]; exact own_el et harr (by decide) hnbbbbbbbbbbbbba (q63.trans (by decide))
    rw [if_neg q63]
    by_cases q64 : j.toInt = 64
    · rw [if_pos q64]; exact own_el et harr (by decide) hnbbbbbbbbbbbbbba (q64.trans (by decide))
    rw [if_neg q64]
    by_cases q65 : j.toInt < 91
    · rw [if_pos q65]
      rcases own_all3 et harr hnbbbbbbbbbbbbbbba hj.1 hlt with q | q | q
      · exfalso; have b1 : (65 : Int32).toInt = 65 := by decide
        omega
      · exfalso; have b1 : (91 : Int32).toInt = 91 := by decide
        omega
      · exact q
    rw [if_neg q65]
    by_cases q91 : j.toInt = 91
    · rw [if_pos q91]; exact own_el et harr (by decide) hnbbbbbbbbbbbbbbbba (q91.trans (by decide))
    rw [if_neg q91]
    by_cases q92 : j.toInt = 92
    · rw [if_pos q92]; exact own_el et harr (by decide) hnbbbbbbbbbbbbbbbbba (q92.trans (by decide))
    rw [if_neg q92]
    by_cases q93 : j.toInt < 192
    · rw [if_pos q93]
      rcases own_all3 et harr hnbbbbbbbbbbbbbbbbbba hj.1 hlt with q | q | q
      · exfalso; have b1 : (93 : Int32).toInt = 93 := by decide
        omega
      · exfalso; have b1 : (192 : Int32).toInt = 192 := by decide
        omega
      · exact q
    rw [if_neg q93]
    by_cases q192 : j.toInt = 192
    · rw [if_pos q192]; exact own_el et harr (by decide) hnbbbbbbbbbbbbbbbbbbba (q192.trans (by decide))
    rw [if_neg q192]
    rcases own_all2 et harr hnbbbbbbbbbbbbbbbbbbbb hj.1 hlt with q | q
    · exfalso; have b1 : (193 : Int32).toInt = 193 := by decide
      omega
    · exact q
  obtain ⟨n, o, h1, h2, h3, _, L, rfl, ⟨rfl, N⟩, hq⟩ := rm0 l s _ hw tables_1 i0 i1 i2 i3 i4 ka cl s.heap s.heap.size (Nat.le_refl _) (Old.start s) S_KINDS Ar HK p e ha hc hk s m _ below hf ((Spec.applies_iff_loose hf).mp happ).1 ⟨rfl, State.Warmed39.refl s, rfl⟩ trivial
  refine ⟨n, _, h1, h2, h3, hpost _ _ _ _ _ _ ⟨Cond.after_iff.mpr rfl, Cond.after_iff.mpr (eq_i res_at (Term.int_eval (1)) rfl), trivial⟩ ⟨hq.1, hq.2.1, (hq.2.2.sift fun y hy => Or.inr (N y hy)).mono (by decide) (by decide)⟩⟩
theorem main_1_1 : Claimed_1_1 := comes_1 fun _ _ _ _ _ _ h hF => ⟨h.1, hF⟩
theorem main_1_2 : Claimed_1_2 := comes_1 fun _ _ _ _ _ _ h hF => ⟨h.2.1, hF⟩
end Jvm.Pilot.@@N@@
namespace Jvm.Pilot.@@N@@
open Jvm Jvm.ClassFile Sem Op Lib Jvm.Free Jvm.Stand Jvm.Pilot.@@N@@.Jvm.D
/-! MADE BY PROGRAM (witnessworld.py) out of the Statement's table words and the real class files: 9 classes; the members and pool entries that the words name. The judged class is class 1, her method 1. -/
namespace start1
open Jvm.ClassFile
def u (s : String) : CpInfo := .utf8 (stringToUtf16 s)
/-- a pool by its gaps: so many unusable entries, then the entry; so many at the end -/
def gap : Nat → List CpInfo → List CpInfo
  | 0, r => r
  | n + 1, r => .unusable :: gap n r
def poolList (es : List (Nat × CpInfo)) (last : Nat) : List CpInfo := es.foldr (fun e r => gap e.1 (e.2 :: r)) (gap last [])
def pool (es : List (Nat × CpInfo)) (last : Nat) : Array CpInfo := ⟨poolList es last⟩
def fileOf (pool : Array CpInfo) (this : Nat) (attrs : Array Attribute := #[]) (ms : Array MethodInfo := #[]) (fl : Nat := 33) (sup : Nat := 0) (ifs : Array Nat := #[]) (fds : Array FieldInfo := #[]) : ClassFile where
  minorVersion := 0
  majorVersion := 65
  constantPool := pool
  accessFlags := fl
  thisClass := this
  superClass := sup
  interfaces := ifs
  fields := fds
  methods := ms
  attributes := attrs
def plain (name : String) (sup : Option ClassId) : Class where
  name := name
  kind := .ordinary
  loader := none
  accessFlags := 33
  super := sup
  interfaces := #[]
  cf := none
  fields := #[]
  methods := #[]
  instanceTypes := #[]
  staticTypes := #[]
  resolved := #[]
  callSites := []
  init := .initialized
  statics := none
  mirror := none

def pool0 : Array CpInfo := pool [(5, u "<init>"), (0, u "()V"), (1, .class_ 10), (1, u "java/lang/Object")] 113

def k0m0 : Method := { name := "<init>", desc := "()V", sig := { parameters := [], returnType := none }, accessFlags := 1, code := none }
/-- java/lang/Object -/
def k0 : Class := { plain "java/lang/Object" none with
  accessFlags := 33
  interfaces := #[]
  cf := some (fileOf pool0 8 #[] #[{ accessFlags := 1, nameIndex := 5, descriptorIndex := 6, attributes := #[] }] 33 0 #[] #[])
  fields := #[]
  methods := #[k0m0]
  instanceTypes := #[]
  staticTypes := #[]
  resolved := Array.replicate 124 none
  statics := none }

def pool1 : Array CpInfo := pool [(2, .class_ 4), (1, u "java/lang/Object"), (0, u "<init>"), (0, u "()V"), (0, .integer 2147483647), (0, .methodref 9 10), (0, .class_ 11), (0, .nameAndType 12 13), (0, u "com/example/bytelore/bytelore/classfile/NamesIsModuleNamePinLaw"), (0, u "posOk"), (0, u "([BIII)Z"), (0, .methodref 15 16), (0, .class_ 17), (0, .nameAndType 18 19), (0, u "com/example/bytelore/bytelore/classfile/Names"), (0, u "isModuleName"), (0, u "([BII)Z"), (0, .methodref 9 21), (0, .nameAndType 22 23), (0, u "isBackslash"), (0, u "([BI)Z"), (0, .methodref 9 25), (0, .nameAndType 26 19), (0, u "escaped"), (2, u "law"), (0, u "(IIIII)Z")] 5

def k1m0 : Method := { name := "<init>", desc := "()V", sig := { parameters := [], returnType := none }, accessFlags := 2, code := none }
def k1c1 : Code := { maxStack := 4, maxLocals := 9, code := code, exceptionTable := #[], attributes := #[] }
def k1m1 : Method := { name := "law", desc := "(IIIII)Z", sig := { parameters := [.int, .int, .int, .int, .int], returnType := some .boolean }, accessFlags := 9, code := some k1c1 }
def k1c2 : Code := { maxStack := 2, maxLocals := 2, code := method_3_code, exceptionTable := #[], attributes := #[] }
def k1m2 : Method := { name := "isBackslash", desc := "([BI)Z", sig := { parameters := [(.array .byte), .int], returnType := some .boolean }, accessFlags := 10, code := some k1c2 }
def k1c3 : Code := { maxStack := 3, maxLocals := 4, code := method_4_code, exceptionTable := #[], attributes := #[] }
def k1m3 : Method := { name := "escaped", desc := "([BII)Z", sig := { parameters := [(.array .byte), .int, .int], returnType := some .boolean }, accessFlags := 10, code := some k1c3 }
def k1c4 : Code := { maxStack := 3, maxLocals := 6, code := method_5_code, exceptionTable := #[], attributes := #[] }
def k1m4 : Method := { name := "posOk", desc := "([BIII)Z", sig := { parameters := [(.array .byte), .int, .int, .int], returnType := some .boolean }, accessFlags := 10, code := some k1c4 }
/-- com/example/bytelore/bytelore/classfile/NamesIsModuleNamePinLaw -/
def k1 : Class := { plain "com/example/bytelore/bytelore/classfile/NamesIsModuleNamePinLaw" (some 0) with
  accessFlags := 49
  interfaces := #[]
  cf := some (fileOf pool1 9 #[] #[{ accessFlags := 2, nameIndex := 5, descriptorIndex := 6, attributes := #[] }, { accessFlags := 9, nameIndex := 29, descriptorIndex := 30, attributes := #[] }, { accessFlags := 10, nameIndex := 22, descriptorIndex := 23, attributes := #[] }, { accessFlags := 10, nameIndex := 26, descriptorIndex := 19, attributes := #[] }, { accessFlags := 10, nameIndex := 12, descriptorIndex := 13, attributes := #[] }] 49 2 #[] #[])
  fields := #[]
  methods := #[k1m0, k1m1, k1m2, k1m3, k1m4]
  instanceTypes := #[]
  staticTypes := #[]
  resolved := Array.replicate 36 none
  statics := none }

def pool2 : Array CpInfo := pool [(2, .class_ 4), (1, u "java/lang/Object"), (0, u "<init>"), (0, u "()V"), (1, .class_ 10), (1, u "com/example/bytelore/bytelore/classfile/Names"), (2, .fieldref 8 14), (0, .nameAndType 15 16), (0, u "KINDS"), (0, u "[B"), (0, u "CONSTRUCTOR"), (0, u "Ljava/lang/String;"), (2, u "CLASS_INITIALIZER"), (2, u "OBJECT"), (1, u "MODULE_INFO"), (2, u "SLASH"), (0, u "I"), (1, u "ENDS_BINARY_NAME"), (1, u "NOT_UNQUALIFIED"), (1, u "NOT_IN_METHOD_NAME"), (1, u "NOT_IN_MODULE_NAME"), (1, u "BACKSLASH"), (4, u "([BII)Z"), (3, u "isModuleName")] 4

def k2m0 : Method := { name := "<init>", desc := "()V", sig := { parameters := [], returnType := none }, accessFlags := 2, code := none }
def k2c1 : Code := { maxStack := 3, maxLocals := 6, code := prog_107_method_5_code, exceptionTable := #[], attributes := #[] }
def k2m1 : Method := { name := "isModuleName", desc := "([BII)Z", sig := { parameters := [(.array .byte), .int, .int], returnType := some .boolean }, accessFlags := 8, code := some k2c1 }
/-- com/example/bytelore/bytelore/classfile/Names -/
def k2 : Class := { plain "com/example/bytelore/bytelore/classfile/Names" (some 0) with
  accessFlags := 48
  interfaces := #[]
  cf := some (fileOf pool2 8 #[] #[{ accessFlags := 2, nameIndex := 5, descriptorIndex := 6, attributes := #[] }, { accessFlags := 8, nameIndex := 49, descriptorIndex := 45, attributes := #[] }] 48 2 #[] #[{ accessFlags := 24, nameIndex := 17, descriptorIndex := 18, attributes := #[] }, { accessFlags := 24, nameIndex := 21, descriptorIndex := 18, attributes := #[] }, { accessFlags := 24, nameIndex := 24, descriptorIndex := 18, attributes := #[] }, { accessFlags := 24, nameIndex := 26, descriptorIndex := 18, attributes := #[] }, { accessFlags := 26, nameIndex := 29, descriptorIndex := 30, attributes := #[] }, { accessFlags := 26, nameIndex := 32, descriptorIndex := 30, attributes := #[] }, { accessFlags := 26, nameIndex := 34, descriptorIndex := 30, attributes := #[] }, { accessFlags := 26, nameIndex := 36, descriptorIndex := 30, attributes := #[] }, { accessFlags := 26, nameIndex := 38, descriptorIndex := 30, attributes := #[] }, { accessFlags := 26, nameIndex := 40, descriptorIndex := 30, attributes := #[] }, { accessFlags := 26, nameIndex := 15, descriptorIndex := 16, attributes := #[] }])
  fields := #[{ name := "CONSTRUCTOR", type := (.object "java/lang/String"), accessFlags := 24, slot := 0, constantValue := 0 }, { name := "CLASS_INITIALIZER", type := (.object "java/lang/String"), accessFlags := 24, slot := 1, constantValue := 0 }, { name := "OBJECT", type := (.object "java/lang/String"), accessFlags := 24, slot := 2, constantValue := 0 }, { name := "MODULE_INFO", type := (.object "java/lang/String"), accessFlags := 24, slot := 3, constantValue := 0 }, { name := "SLASH", type := .int, accessFlags := 26, slot := 4, constantValue := 0 }, { name := "ENDS_BINARY_NAME", type := .int, accessFlags := 26, slot := 5, constantValue := 0 }, { name := "NOT_UNQUALIFIED", type := .int, accessFlags := 26, slot := 6, constantValue := 0 }, { name := "NOT_IN_METHOD_NAME", type := .int, accessFlags := 26, slot := 7, constantValue := 0 }, { name := "NOT_IN_MODULE_NAME", type := .int, accessFlags := 26, slot := 8, constantValue := 0 }, { name := "BACKSLASH", type := .int, accessFlags := 26, slot := 9, constantValue := 0 }, { name := "KINDS", type := (.array .byte), accessFlags := 26, slot := 10, constantValue := 0 }]
  methods := #[k2m0, k2m1]
  instanceTypes := #[]
  staticTypes := #[(.object "java/lang/String"), (.object "java/lang/String"), (.object "java/lang/String"), (.object "java/lang/String"), .int, .int, .int, .int, .int, .int, (.array .byte)]
  resolved := Array.replicate 54 none
  statics := some 0 }

def pool3 : Array CpInfo := pool [(1, u "java/lang/Cloneable"), (0, .class_ 1), (0, u "java/lang/Object"), (0, .class_ 3)] 3

/-- java/lang/Cloneable -/
def k3 : Class := { plain "java/lang/Cloneable" (some 0) with
  accessFlags := 1537
  interfaces := #[]
  cf := some (fileOf pool3 2 #[] #[] 1537 4 #[] #[])
  fields := #[]
  methods := #[]
  instanceTypes := #[]
  staticTypes := #[]
  resolved := Array.replicate 8 none
  statics := none }

def pool4 : Array CpInfo := pool [(1, u "java/io/Serializable"), (0, .class_ 1), (0, u "java/lang/Object"), (0, .class_ 3)] 3

/-- java/io/Serializable -/
def k4 : Class := { plain "java/io/Serializable" (some 0) with
  accessFlags := 1537
  interfaces := #[]
  cf := some (fileOf pool4 2 #[] #[] 1537 4 #[] #[])
  fields := #[]
  methods := #[]
  instanceTypes := #[]
  staticTypes := #[]
  resolved := Array.replicate 8 none
  statics := none }

/-- the primitive byte -/
def k5 : Class := { plain "byte" none with kind := .primitive 'B', accessFlags := 0x411 }
/-- [B -/
def k6 : Class := { plain "[B" (some 0) with kind := .array 5 .byte, interfaces := #[3, 4], accessFlags := 1041 }

/-- the primitive int -/
def k7 : Class := { plain "int" none with kind := .primitive 'I', accessFlags := 0x411 }
/-- [I -/
def k8 : Class := { plain "[I" (some 0) with kind := .array 7 .int, interfaces := #[3, 4], accessFlags := 1041 }

def heap : Heap := #[{ cls := 2, slots := #[.null, .null, .null, .null, .int 0, .int 0, .int 0, .int 0, .int 0, .int 0, .ref 1], vm := .statics 2 },
  { cls := 6, slots := #[.int 0, .int 16, .int 16, .int 16, .int 16, .int 16, .int 16, .int 16, .int 16, .int 16, .int 16, .int 16, .int 16, .int 16, .int 16, .int 16, .int 16, .int 16, .int 16, .int 16, .int 16, .int 16, .int 16, .int 16, .int 16, .int 16, .int 16, .int 16, .int 16, .int 16, .int 16, .int 16, .int 0, .int 0, .int 0, .int 0, .int 0, .int 0, .int 0, .int 0, .int 0, .int 0, .int 0, .int 0, .int 0, .int 0, .int 6, .int 5, .int 0, .int 0, .int 0, .int 0, .int 0, .int 0, .int 0, .int 0, .int 0, .int 0, .int 16, .int 6, .int 8, .int 0, .int 8, .int 0, .int 16, .int 0, .int 0, .int 0, .int 0, .int 0, .int 0, .int 0, .int 0, .int 0, .int 0, .int 0, .int 0, .int 0, .int 0, .int 0, .int 0, .int 0, .int 0, .int 0, .int 0, .int 0, .int 0, .int 0, .int 0, .int 0, .int 0, .int 6, .int 32, .int 0, .int 0, .int 0, .int 0, .int 0, .int 0, .int 0, .int 0, .int 0, .int 0, .int 0, .int 0, .int 0, .int 0, .int 0, .int 0, .int 0, .int 0, .int 0, .int 0, .int 0, .int 0, .int 0, .int 0, .int 0, .int 0, .int 0, .int 0, .int 0, .int 0, .int 0, .int 0, .int 0, .int 0, .int 0, .int 0, .int 0, .int 0, .int 0, .int 0, .int 0, .int 0, .int 0, .int 0, .int 0, .int 0, .int 0, .int 0, .int 0, .int 0, .int 0, .int 0, .int 0, .int 0, .int 0, .int 0, .int 0, .int 0, .int 0, .int 0, .int 0, .int 0, .int 0, .int 0, .int 0, .int 0, .int 0, .int 0, .int 0, .int 0, .int 0, .int 0, .int 0, .int 0, .int 0, .int 0, .int 0, .int 0, .int 0, .int 0, .int 0, .int 0, .int 0, .int 0, .int 0, .int 0, .int 0, .int 0, .int 0, .int 0, .int 0, .int 0, .int 0, .int 0, .int 0, .int 0, .int 0, .int 0, .int 0, .int 16, .int 0, .int 0, .int 0, .int 0, .int 0, .int 0, .int 0, .int 0, .int 0, .int 0, .int 0, .int 0, .int 0, .int 0, .int 0, .int 0, .int 0, .int 0, .int 0, .int 0, .int 0, .int 0, .int 0, .int 0, .int 0, .int 0, .int 0, .int 0, .int 0, .int 0, .int 0, .int 0, .int 0, .int 0, .int 0, .int 0, .int 0, .int 0, .int 0, .int 0, .int 0, .int 0, .int 0, .int 0, .int 0, .int 0, .int 0, .int 0, .int 0, .int 0, .int 0, .int 0, .int 0, .int 0, .int 0, .int 0, .int 0, .int 0, .int 0, .int 0, .int 0, .int 0, .int 0], vm := .none }]
def classes : Array Class := #[k0, k1, k2, k3, k4, k5, k6, k7, k8]
def interned : List (Array UInt16 × Addr) := []
def slotsUsed : Nat := 267
def theMethod : MethodId := ⟨1, 1⟩
def args0 : Array Value := #[.int 97, .int 98, .int 99, .int 100, .int 1024]
def aboutOver (below : List Frame) : State where
  vm := { classes := classes, interned := interned.toArray }
  heap := heap
  slotsUsed := slotsUsed
  threads := #[{ frames := .invoking theMethod args0 :: below }]
def below0 : List Frame := [.native { method := ⟨0, 0⟩, args := #[] }]
def about1 : State := aboutOver below0
def p0 : Program := .bare "" "" ""
def e0 : Env := launch0.env 0 0 0
theorem w_frames : about1.frames = Frame.invoking theMethod args0 :: below0 := rfl
set_option maxRecDepth 65536 in
theorem w_args : argsFit about1.vm theMethod args0 = true := by decide +kernel
set_option maxRecDepth 65536 in
theorem w_heap : heapFits about1 = true := by decide +kernel
set_option maxRecDepth 65536 in
theorem w_runnable : about1.curStatus? = some .runnable := by decide +kernel
set_option maxRecDepth 65536 in
theorem w_alone : about1.alone = true := by decide +kernel
set_option maxRecDepth 65536 in
theorem w_named : about1.methodNamed? x = some theMethod := by decide +kernel
set_option maxRecDepth 65536 in
theorem w_hears : about1.hears theMethod below0 = true := by decide +kernel
set_option maxRecDepth 65536 in
theorem w_ripe : about1.ripe theMethod args0 below0 = true := by decide +kernel
theorem w_running : about1.status = .running := rfl
set_option maxRecDepth 65536 in
theorem w_room : about1.hasRoom e0.platform room_1 = true :=
  launch0.hasRoom_least _ room_1 (by decide +kernel) (by decide +kernel) (by decide +kernel) (by decide +kernel) (by decide +kernel) (by decide +kernel)
theorem allAtoms_all (ts : List Jvm.Cond) (a : Array Jvm.Value) (st : Jvm.State) : (allAtoms ts).before a st = ts.all (fun c => c.before a st) := by
  induction ts with
  | nil => rfl
  | cons c t ih =>
    show (Jvm.Cond.and c (allAtoms t)).before a st = _
    rw [Jvm.Cond.before_and, ih, List.all_cons]
def words1 : List Jvm.Cond := Jvm.Cond.code x code maxLocals ret :: tables_1
/-- a 'code' word, met by the world's own term for the bytes: nothing is compared byte by byte -/
theorem code_word {y : MethodName} {bytes : ByteArray} {mx : Nat} {rt : Option FieldType} {a : Array Value} {s : State} {m : MethodId} {meth : Method} {c : Code} (h1 : s.methodNamed? y = some m) (h2 : s.vm.method? m = some meth) (h3 : meth.code = some c) (h4 : c.code = bytes)
    (h5 : (c.maxLocals == mx && c.exceptionTable.isEmpty && decide (c.maxStack ≤ mostOperands) && decide (meth.sig.returnType = rt) && !meth.locks && decide (parseMethodDescriptor y.desc = some meth.sig)) = true) : (Jvm.Cond.code y bytes mx rt).before a s = true := by
  simp only [Bool.and_eq_true, beq_iff_eq, Bool.not_eq_true', decide_eq_true_eq] at h5
  obtain ⟨⟨⟨⟨⟨g1, g2⟩, g3⟩, g4⟩, g5⟩, g6⟩ := h5
  simp [Cond.before, Cond.holds, Cond.value, h1, h2, h3, h4, g1, g2, g3, g4, g5, g6]
def isCode : Jvm.Cond → Bool
  | .code _ _ _ _ => true
  | _ => false
theorem all_split {L : List Jvm.Cond} {P : Jvm.Cond → Bool} (h1 : L.all (fun c => isCode c || P c) = true) (h2 : ∀ c ∈ L.filter isCode, P c = true) : L.all P = true := by
  refine List.all_eq_true.mpr fun c hc => ?_
  have h := List.all_eq_true.mp h1 c hc
  rcases Bool.eq_false_or_eq_true (isCode c) with hi | hi
  · exact h2 c (List.mem_filter.mpr ⟨hc, hi⟩)
  · simpa [hi] using h
set_option maxRecDepth 65536 in
theorem w_c0 : (Jvm.Cond.code x code maxLocals ret).before args0 about1 = true := code_word (m := ⟨1, 1⟩) (meth := k1m1) (c := k1c1) (by decide +kernel) rfl rfl rfl (by decide +kernel)
set_option maxRecDepth 65536 in
theorem w_c1 : (Jvm.Cond.code ({ cls := "com/example/bytelore/bytelore/classfile/NamesIsModuleNamePinLaw", name := "posOk", desc := "([BIII)Z" } : Jvm.MethodName) method_5_code (6 : Nat) (Option.some Jvm.ClassFile.FieldType.boolean)).before args0 about1 = true := code_word (m := ⟨1, 4⟩) (meth := k1m4) (c := k1c4) (by decide +kernel) rfl rfl rfl (by decide +kernel)
set_option maxRecDepth 65536 in
theorem w_c2 : (Jvm.Cond.code ({ cls := "com/example/bytelore/bytelore/classfile/Names", name := "isModuleName", desc := "([BII)Z" } : Jvm.MethodName) prog_107_method_5_code (6 : Nat) (Option.some Jvm.ClassFile.FieldType.boolean)).before args0 about1 = true := code_word (m := ⟨2, 1⟩) (meth := k2m1) (c := k2c1) (by decide +kernel) rfl rfl rfl (by decide +kernel)
set_option maxRecDepth 65536 in
theorem w_c3 : (Jvm.Cond.code ({ cls := "com/example/bytelore/bytelore/classfile/NamesIsModuleNamePinLaw", name := "escaped", desc := "([BII)Z" } : Jvm.MethodName) method_4_code (4 : Nat) (Option.some Jvm.ClassFile.FieldType.boolean)).before args0 about1 = true := code_word (m := ⟨1, 3⟩) (meth := k1m3) (c := k1c3) (by decide +kernel) rfl rfl rfl (by decide +kernel)
set_option maxRecDepth 65536 in
theorem w_c4 : (Jvm.Cond.code ({ cls := "com/example/bytelore/bytelore/classfile/NamesIsModuleNamePinLaw", name := "isBackslash", desc := "([BI)Z" } : Jvm.MethodName) method_3_code (2 : Nat) (Option.some Jvm.ClassFile.FieldType.boolean)).before args0 about1 = true := code_word (m := ⟨1, 2⟩) (meth := k1m2) (c := k1c2) (by decide +kernel) rfl rfl rfl (by decide +kernel)
def codes1 : List Jvm.Cond := [Jvm.Cond.code x code maxLocals ret, Jvm.Cond.code ({ cls := "com/example/bytelore/bytelore/classfile/NamesIsModuleNamePinLaw", name := "posOk", desc := "([BIII)Z" } : Jvm.MethodName) method_5_code (6 : Nat) (Option.some Jvm.ClassFile.FieldType.boolean), Jvm.Cond.code ({ cls := "com/example/bytelore/bytelore/classfile/Names", name := "isModuleName", desc := "([BII)Z" } : Jvm.MethodName) prog_107_method_5_code (6 : Nat) (Option.some Jvm.ClassFile.FieldType.boolean), Jvm.Cond.code ({ cls := "com/example/bytelore/bytelore/classfile/NamesIsModuleNamePinLaw", name := "escaped", desc := "([BII)Z" } : Jvm.MethodName) method_4_code (4 : Nat) (Option.some Jvm.ClassFile.FieldType.boolean), Jvm.Cond.code ({ cls := "com/example/bytelore/bytelore/classfile/NamesIsModuleNamePinLaw", name := "isBackslash", desc := "([BI)Z" } : Jvm.MethodName) method_3_code (2 : Nat) (Option.some Jvm.ClassFile.FieldType.boolean)]
set_option maxRecDepth 65536 in
theorem codes_eq : words1.filter isCode = codes1 := rfl
theorem w_codes : ∀ c ∈ words1.filter isCode, c.before args0 about1 = true := by
  rw [codes_eq]
  intro c hc
  simp only [codes1, List.mem_cons, List.not_mem_nil, or_false] at hc
  rcases hc with rfl | rfl | rfl | rfl | rfl
  · exact w_c0
  · exact w_c1
  · exact w_c2
  · exact w_c3
  · exact w_c4
set_option maxRecDepth 65536 in
theorem w_t1 : words1.all (fun c => isCode c || c.before args0 about1) = true := by decide +kernel
theorem w_tables : (allAtoms (Jvm.Cond.code x code maxLocals ret :: tables_1)).before args0 about1 = true := by
  rw [allAtoms_all]
  show words1.all (fun c => c.before args0 about1) = true
  refine all_split ?_ w_codes
  rw [w_t1]
set_option maxRecDepth 65536 in
theorem w_case : (Jvm.Cond.and given_1 narrow_1).before args0 about1 = true := by decide +kernel
theorem w_applies : (headSpec (Jvm.Cond.code x code maxLocals ret :: tables_1) room_1).applies x e0.platform about1 = true :=
  (Spec.applies_iff w_frames).mpr ⟨w_running, w_runnable, w_alone, w_named, w_hears, w_ripe, w_room, w_tables⟩
theorem atStart : AtStart classFile x code maxLocals ret World_1 tables_1 room_1 Calls_1 rest_1 Pre_1 launch0 p0 e0 about1 theMethod args0 below0 :=
  ⟨lists_1, trivial, launch0.admits_env _ _ _, launch0.least_env, fairChoices_fair.cas, fairChoices_fair.clock, w_frames, w_args, w_heap, w_applies, trivial, trivial, w_case⟩
end start1
theorem witness_1 : WitnessClaimed_1 := ⟨start1.p0, start1.e0, start1.about1, start1.theMethod, start1.args0, start1.below0, start1.atStart⟩
end Jvm.Pilot.@@N@@
