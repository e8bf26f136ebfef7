import JvmDerived
import JvmDerived.Pilot.@@N@@Statement
import JvmDerived.Pilot.@@N@@Code
set_option linter.unusedVariables false
set_option linter.unusedSimpArgs false
namespace Jvm.Pilot.@@N@@
open Jvm Jvm.ClassFile Sem Op Lib Jvm.Free Jvm.Stand Jvm.LawKit Jvm.RoadKit Bundle Jvm.Pilot.@@N@@.Jvm.D
/-! own_Go: from t the run comes to a state where G holds. A walk is written backwards from the goal, so that a case split may stand anywhere. -/
def own_Go (p : Program) (e : Env) (below : List Frame) (G : State → Prop) (t : State) : Prop := ∃ u, Steps p.tables e below t u ∧ G u
theorem own_st {p : Program} {e : Env} {below : List Frame} {G : State → Prop} {t u : State} (f : ∀ w, Steps p.tables e below u w → Steps p.tables e below t w) (k : own_Go p e below G u) : own_Go p e below G t := by
  obtain ⟨w, s, g⟩ := k
  exact ⟨w, f w s, g⟩
theorem own_jp {p : Program} {e : Env} {below : List Frame} {G : State → Prop} {t u : State} (f : Steps p.tables e below t u) (k : own_Go p e below G u) : own_Go p e below G t := by
  obtain ⟨w, s, g⟩ := k
  exact ⟨w, f.trans s, g⟩
theorem own_out {p : Program} {e : Env} {below : List Frame} {t : State} {Q : Outcome → State → Prop} (k : own_Go p e below (fun u => ∃ o, u.status = .running ∧ Ended u below o ∧ Q o u) t) : ∃ s₂ o, Steps p.tables e below t s₂ ∧ s₂.status = .running ∧ Ended s₂ below o ∧ Q o s₂ := by
  obtain ⟨w, s, o, g⟩ := k
  exact ⟨w, o, s, g⟩
theorem own_nm {p : Program} {e : Env} {below : List Frame} {G0 : State → Prop} {t : State} (k : ∀ G, G = G0 → own_Go p e below G t) : own_Go p e below G0 t := k _ rfl
theorem own_tll {x y : Int64} (h : x < y) : lcmpW x y < 0 := (lw_lt x y).mpr h
theorem own_fll {x y : Int64} (h : ¬ x < y) : ¬ lcmpW x y < 0 := fun q => h ((lw_lt x y).mp q)
theorem own_tlg {x y : Int64} (h : y < x) : 0 < lcmpW x y := (lw_gt x y).mpr h
theorem own_flg {x y : Int64} (h : ¬ y < x) : ¬ 0 < lcmpW x y := fun q => h ((lw_gt x y).mp q)
theorem own_tle {x y : Int64} (h : x = y) : lcmpW x y = 0 := (lw_eq x y).mpr h
theorem own_fle {x y : Int64} (h : ¬ x = y) : ¬ lcmpW x y = 0 := fun q => h ((lw_eq x y).mp q)
section Own
variable {p : Program} {l : Launch} {e : Env} {R : Room} {s : State} {m : MethodId} {args : Array Value} {below : List Frame} {meth : Method} {c : Code} {T : State} {locs : List Loc} {cells slots : Nat} {Z : State} {h h' : Heap} {a b : Addr} {ty : FieldType} {vs : List Value} {v : Value}
theorem own_retI (X : Stand p l e R s m args below meth c T locs cells slots) (hx : p.tables.exec = Jvm.exec) {pc : Nat} {Ls : Array Slot} {z : Int32} {rest : List Value} (hret : meth.sig.returnType = some .int) (hd : decode c.code pc = .ok (.ireturn, 1)) {fs : List Frame}
    (hl : ∀ (f : JFrame) (acts : List Action), f.method = m → f.locked = none → f.entered = [] → (doReturn e (T.setTop f) acts (some (.int z))).1 = T.setFrames fs) : Steps p.tables e below (T.setTop (mkF m pc Ls (.int z :: rest))) (T.setFrames fs) :=
  retOut X hx hret rfl (Or.inl ⟨rfl, Or.inl rfl, z, rfl⟩) hd hl
theorem own_retJ (X : Stand p l e R s m args below meth c T locs cells slots) (hx : p.tables.exec = Jvm.exec) {pc : Nat} {Ls : Array Slot} {z : Int64} {rest : List Value} (hret : meth.sig.returnType = some .long) (hd : decode c.code pc = .ok (.lreturn, 1)) {fs : List Frame}
    (hl : ∀ (f : JFrame) (acts : List Action), f.method = m → f.locked = none → f.entered = [] → (doReturn e (T.setTop f) acts (some (.long z))).1 = T.setFrames fs) : Steps p.tables e below (T.setTop (mkF m pc Ls (.long z :: rest))) (T.setFrames fs) :=
  retOut X hx hret rfl (Or.inr (Or.inl ⟨rfl, rfl, z, rfl⟩)) hd hl
/-! own_L: the array at a holds just the list vs -/
def own_L (Z : State) (h : Heap) (a : Addr) (ty : FieldType) (vs : List Value) : Prop := ∃ cl : Cell, Arr Z h a cl ty ∧ cl.slots = vs.toArray
theorem own_L.lt (F : own_L Z h a ty vs) : a < h.size := by obtain ⟨cl, A, -⟩ := F; exact A.lt
theorem own_L.ext (F : own_L Z h a ty vs) (E : Ext h h') : own_L Z h' a ty vs := by obtain ⟨cl, A, q⟩ := F; exact ⟨cl, A.ext E, q⟩
theorem own_L.other {sl : Nat} (F : own_L Z h b ty vs) (W : Wr h h' a sl v) (q : b ≠ a) : own_L Z h' b ty vs := by obtain ⟨cl, A, r⟩ := F; exact ⟨cl, A.other W q, r⟩
theorem own_L.keep {ws : List Addr} (F : own_L Z h a ty vs) (K : Keep h h' ws) (q : a ∉ ws) : own_L Z h' a ty vs := by obtain ⟨cl, A, r⟩ := F; exact ⟨cl, ⟨K.2.1 a cl A.1 q, A.2⟩, r⟩
theorem own_L.new {k : ClassId} {z : Int32} (A : Arr Z h a (newA k ty z) ty) : own_L Z h a ty (List.replicate z.toNatClampNeg (defaultValue ty)) := ⟨_, A, by simp [newA]⟩
theorem own_L.same {k : Nat} (F : own_L Z h a ty vs) (W : Wr h h' a k v) : own_L Z h' a ty (vs.set k v) := by
  obtain ⟨cl, A, q⟩ := F
  exact ⟨_, A.same W, by simp [Cell.setSlot, q]⟩
theorem own_in {cl : Cell} {j : Int32} (q : cl.slots = vs.toArray) (h1 : ¬ j < 0) (h2 : j.toNatClampNeg < vs.length) : ¬ (j < 0 ∨ cl.slots.size ≤ j.toNatClampNeg) := by
  rw [q]
  rintro (r | r)
  · exact h1 r
  · simp at r; omega
theorem own_at {cl : Cell} {k : Nat} (q : cl.slots = vs.toArray) (hv : vs[k]? = some v) : cl.slots[k]? = some v := by rw [q]; simpa using hv
theorem own_lt {k : Nat} (hv : vs[k]? = some v) : k < vs.length := by
  obtain ⟨q, -⟩ := List.getElem?_eq_some_iff.mp hv
  exact q
theorem own_bld (X : Stand p l e R s m args below meth c T locs cells slots) (hx : p.tables.exec = Jvm.exec) (hZ : Z.Warmed39 s.vm) (eT : T.heap = h) (F : own_L Z h a .byte vs) {j : Int32} {i : Nat} (h1 : ¬ j < 0) (hi : j.toNatClampNeg = i) (hv : vs[i]? = some v) {g : JFrame} (hg : g.method = m) {rest : List Value} (hs : g.stack = .int j :: .ref a :: rest) (hd : decode c.code g.pc = .ok (.baload, 1)) :
    ∀ target, Steps p.tables e below (T.setTop { g with pc := g.pc + 1, stack := v :: rest }) target → Steps p.tables e below (T.setTop g) target := by
  obtain ⟨cl, A, q⟩ := F
  subst hi
  exact X.baloadBytes hx (by rw [eT]; exact A.1) (State.isArrayOf_alike hZ.alike A.2.1) A.2.2 (own_in q h1 (own_lt hv)) (own_at q hv) hg hs hd
theorem own_jld (X : Stand p l e R s m args below meth c T locs cells slots) (hx : p.tables.exec = Jvm.exec) (hZ : Z.Warmed39 s.vm) (eT : T.heap = h) (F : own_L Z h a .long vs) {j : Int32} {i : Nat} (h1 : ¬ j < 0) (hi : j.toNatClampNeg = i) (hv : vs[i]? = some v) {g : JFrame} (hg : g.method = m) {rest : List Value} (hs : g.stack = .int j :: .ref a :: rest) (hd : decode c.code g.pc = .ok (.laload, 1)) :
    ∀ target, Steps p.tables e below (T.setTop { g with pc := g.pc + 1, stack := v :: rest }) target → Steps p.tables e below (T.setTop g) target := by
  obtain ⟨cl, A, q⟩ := F
  subst hi
  exact X.laload hx (by rw [eT]; exact A.1) (State.isArrayOf_alike hZ.alike A.2.1) A.2.2 (own_in q h1 (own_lt hv)) (own_at q hv) hg hs hd
theorem own_ild (X : Stand p l e R s m args below meth c T locs cells slots) (hx : p.tables.exec = Jvm.exec) (hZ : Z.Warmed39 s.vm) (eT : T.heap = h) (F : own_L Z h a .int vs) {j : Int32} {i : Nat} (h1 : ¬ j < 0) (hi : j.toNatClampNeg = i) (hv : vs[i]? = some v) {g : JFrame} (hg : g.method = m) {rest : List Value} (hs : g.stack = .int j :: .ref a :: rest) (hd : decode c.code g.pc = .ok (.iaload, 1)) :
    ∀ target, Steps p.tables e below (T.setTop { g with pc := g.pc + 1, stack := v :: rest }) target → Steps p.tables e below (T.setTop g) target := by
  obtain ⟨cl, A, q⟩ := F
  subst hi
  exact X.iaload hx (by rw [eT]; exact A.1) (State.isArrayOf_alike hZ.alike A.2.1) A.2.2 (own_in q h1 (own_lt hv)) (own_at q hv) hg hs hd
theorem own_zld (X : Stand p l e R s m args below meth c T locs cells slots) (hx : p.tables.exec = Jvm.exec) (hZ : Z.Warmed39 s.vm) (eT : T.heap = h) (F : own_L Z h a .boolean vs) {j : Int32} {i : Nat} (h1 : ¬ j < 0) (hi : j.toNatClampNeg = i) (hv : vs[i]? = some v) {g : JFrame} (hg : g.method = m) {rest : List Value} (hs : g.stack = .int j :: .ref a :: rest) (hd : decode c.code g.pc = .ok (.baload, 1)) :
    ∀ target, Steps p.tables e below (T.setTop { g with pc := g.pc + 1, stack := v :: rest }) target → Steps p.tables e below (T.setTop g) target := by
  obtain ⟨cl, A, q⟩ := F
  subst hi
  exact X.baloadBooleans hx (by rw [eT]; exact A.1) (State.isArrayOf_alike hZ.alike A.2.1) A.2.2 (own_in q h1 (own_lt hv)) (own_at q hv) hg hs hd
theorem own_len (X : Stand p l e R s m args below meth c T locs cells slots) (hx : p.tables.exec = Jvm.exec) (hZ : Z.Warmed39 s.vm) (eT : T.heap = h) (F : own_L Z h a ty vs) {z : Int32} (hz : vs.length.toInt32 = z) {g : JFrame} (hg : g.method = m) {rest : List Value} (hs : g.stack = .ref a :: rest) (hd : decode c.code g.pc = .ok (.arraylength, 1)) :
    ∀ target, Steps p.tables e below (T.setTop { g with pc := g.pc + 1, stack := .int z :: rest }) target → Steps p.tables e below (T.setTop g) target := by
  obtain ⟨cl, A, q⟩ := F
  intro w k
  refine X.arraylength hx (by rw [eT]; exact A.1) (State.isArrayOf_alike hZ.alike A.2.1) hg hs hd w ?_
  have q2 : cl.slots.size.toInt32 = z := by rw [← hz, q]; simp
  rw [q2]; exact k
theorem own_bst (X : Stand p l e R s m args below meth c T locs cells slots) (hx : p.tables.exec = Jvm.exec) (hZ : Z.Warmed39 s.vm) (eT : T.heap = h) (F : own_L Z h a .byte vs) {j x : Int32} (i : Nat) (h1 : ¬ j < 0) (hi : j.toNatClampNeg = i) (h2 : i < vs.length) {g : JFrame} (hg : g.method = m) {rest : List Value} (hs : g.stack = .int x :: .int j :: .ref a :: rest) (hd : decode c.code g.pc = .ok (.bastore, 1)) :
    ∃ T' h', Stand p l e R s m args below meth c T' (locs ++ [⟨a, i⟩]) cells slots ∧ T'.heap = h' ∧ Wr h h' a i (.int x.toInt8.toInt32) ∧ own_L Z h' a .byte (vs.set i (.int x.toInt8.toInt32)) ∧ ∀ target, Steps p.tables e below (T'.setTop { g with pc := g.pc + 1, stack := rest }) target → Steps p.tables e below (T.setTop g) target := by
  obtain ⟨cl, A, q⟩ := F
  subst hi
  obtain ⟨T', h', X', e', W, st⟩ := stB X hx hZ eT A (own_in q h1 h2) hg hs hd
  exact ⟨T', h', X', e', W, own_L.same ⟨cl, A, q⟩ W, st⟩
theorem own_zst (X : Stand p l e R s m args below meth c T locs cells slots) (hx : p.tables.exec = Jvm.exec) (hZ : Z.Warmed39 s.vm) (eT : T.heap = h) (F : own_L Z h a .boolean vs) {j x : Int32} (i : Nat) (h1 : ¬ j < 0) (hi : j.toNatClampNeg = i) (h2 : i < vs.length) {g : JFrame} (hg : g.method = m) {rest : List Value} (hs : g.stack = .int x :: .int j :: .ref a :: rest) (hd : decode c.code g.pc = .ok (.bastore, 1)) :
    ∃ T' h', Stand p l e R s m args below meth c T' (locs ++ [⟨a, i⟩]) cells slots ∧ T'.heap = h' ∧ Wr h h' a i (.int (x &&& 1)) ∧ own_L Z h' a .boolean (vs.set i (.int (x &&& 1))) ∧ ∀ target, Steps p.tables e below (T'.setTop { g with pc := g.pc + 1, stack := rest }) target → Steps p.tables e below (T.setTop g) target := by
  obtain ⟨cl, A, q⟩ := F
  subst hi
  obtain ⟨T', h', X', e', W, st⟩ := stZ X hx hZ eT A (own_in q h1 h2) hg hs hd
  exact ⟨T', h', X', e', W, own_L.same ⟨cl, A, q⟩ W, st⟩
theorem own_jst (X : Stand p l e R s m args below meth c T locs cells slots) (hx : p.tables.exec = Jvm.exec) (hZ : Z.Warmed39 s.vm) (eT : T.heap = h) (F : own_L Z h a .long vs) {j : Int32} {x : Int64} (i : Nat) (h1 : ¬ j < 0) (hi : j.toNatClampNeg = i) (h2 : i < vs.length) {g : JFrame} (hg : g.method = m) {rest : List Value} (hs : g.stack = .long x :: .int j :: .ref a :: rest) (hd : decode c.code g.pc = .ok (.lastore, 1)) :
    ∃ T' h', Stand p l e R s m args below meth c T' (locs ++ [⟨a, i⟩]) cells slots ∧ T'.heap = h' ∧ Wr h h' a i (.long x) ∧ own_L Z h' a .long (vs.set i (.long x)) ∧ ∀ target, Steps p.tables e below (T'.setTop { g with pc := g.pc + 1, stack := rest }) target → Steps p.tables e below (T.setTop g) target := by
  obtain ⟨cl, A, q⟩ := F
  subst hi
  obtain ⟨T', h', X', e', W, st⟩ := stJ X hx hZ eT A (own_in q h1 h2) hg hs hd
  exact ⟨T', h', X', e', W, own_L.same ⟨cl, A, q⟩ W, st⟩
theorem own_ist (X : Stand p l e R s m args below meth c T locs cells slots) (hx : p.tables.exec = Jvm.exec) (hZ : Z.Warmed39 s.vm) (eT : T.heap = h) (F : own_L Z h a .int vs) {j x : Int32} (i : Nat) (h1 : ¬ j < 0) (hi : j.toNatClampNeg = i) (h2 : i < vs.length) {g : JFrame} (hg : g.method = m) {rest : List Value} (hs : g.stack = .int x :: .int j :: .ref a :: rest) (hd : decode c.code g.pc = .ok (.iastore, 1)) :
    ∃ T' h', Stand p l e R s m args below meth c T' (locs ++ [⟨a, i⟩]) cells slots ∧ T'.heap = h' ∧ Wr h h' a i (.int x) ∧ own_L Z h' a .int (vs.set i (.int x)) ∧ ∀ target, Steps p.tables e below (T'.setTop { g with pc := g.pc + 1, stack := rest }) target → Steps p.tables e below (T.setTop g) target := by
  obtain ⟨cl, A, q⟩ := F
  subst hi
  obtain ⟨T', h', X', e', W, st⟩ := stI X hx hZ eT A (own_in q h1 h2) hg hs hd
  exact ⟨T', h', X', e', W, own_L.same ⟨cl, A, q⟩ W, st⟩
theorem own_clone (X : Stand p l e R s m args below meth c T locs cells slots) (hx : p.tables.exec = Jvm.exec) (hZ : Z.Warmed39 s.vm) {a0 : Array Value} {own ad : String} {index : Nat} (hown : s.vm.findClass own = some m.cls)
    (w1 : (Cond.methodLink own index ⟨ad, "clone", "()Ljava/lang/Object;"⟩).before a0 Z = true) (w2 : (Cond.sameMethod ad "java/lang/Object" "clone" "()Ljava/lang/Object;").before a0 Z = true) (w3 : (Cond.native ⟨"java/lang/Object", "clone", "()Ljava/lang/Object;"⟩).before a0 Z = true)
    (w4 : (Cond.instanceMethod ⟨"java/lang/Object", "clone", "()Ljava/lang/Object;"⟩).before a0 Z = true) (w5 : (Cond.selects ad ⟨ad, "clone", "()Ljava/lang/Object;"⟩ ⟨"java/lang/Object", "clone", "()Ljava/lang/Object;"⟩).before a0 Z = true) (w6 : (Cond.castable ad "java/lang/Cloneable").before a0 Z = true)
    (eT : T.heap = h) (F : own_L Z h a ty vs) (E : Exa Z h a ad) (hfit : ∀ v ∈ vs, fits ty v = true) {g : JFrame} (hg : g.method = m) (hsize : g.locals.size = c.maxLocals) {rest : List Value} (hs : g.stack = .ref a :: rest) (hd : decode c.code g.pc = .ok (.invokevirtual index, 3))
    (hf : 1 ≤ R.frames) {W cap : Nat} (hW : 2 * g.monitorRoom + (rest.map fun v => v.category).sum ≤ W) (hl : W + 14 ≤ R.locals) (hcap : vs.length ≤ cap) (hc : cells + 1 ≤ R.cells) (hsl : slots + cap ≤ R.slots) :
    ∃ T' h', Stand p l e R s m args below meth c T' locs (cells + 1) (slots + cap) ∧ T'.heap = h' ∧ Ext h h' ∧ own_L Z h' h.size ty vs ∧ Exa Z h' h.size ad ∧
      ∀ target, Steps p.tables e below (T'.setTop { g with pc := g.pc + 3, stack := .ref h.size :: rest }) target → Steps p.tables e below (T.setTop g) target := by
  obtain ⟨cl, A, q⟩ := F
  have FC : FitC Z cl := fitC_of A fun i hi v hv => hfit v (by
    rw [q] at hv
    exact List.mem_of_getElem? (by simpa using hv))
  obtain ⟨T', h', X', e', ex, A', E', st⟩ := cloneA X hx hZ hown w1 w2 w3 w4 w5 w6 eT A E FC hg hsize hs hd hf hW hl (by rw [q]; simpa using hcap) hc hsl
  exact ⟨T', h', X', e', ex, ⟨cloneOf cl, A', q⟩, E', st⟩
end Own
theorem own_nn {i : Int32} {n : Nat} (h : i.toInt = n) : ¬ i < 0 := by
  have z0 : (0 : Int32).toInt = 0 := by decide
  rw [Int32.lt_iff_toInt_lt, z0]; omega
theorem own_nat {i : Int32} {n : Nat} (h : i.toInt = n) : i.toNatClampNeg = n := by
  show i.toInt.toNat = n
  omega
theorem own_up {i : Int32} {n : Nat} (h : i.toInt = n) (hn : n < 2147483647) : (i + (1 : Int32)).toInt = (n + 1 : Nat) := by
  have h1 := c_iadd i 1
  have r1 := rng32 (i + 1)
  have z1 : (1 : Int32).toInt = 1 := by decide
  rw [z1] at h1
  omega
theorem own_ltn {i j : Int32} {n k : Nat} (h : i.toInt = n) (h' : j.toInt = k) (hc : i < j) : n < k := by rw [Int32.lt_iff_toInt_lt] at hc; omega
theorem own_gen {i j : Int32} {n k : Nat} (h : i.toInt = n) (h' : j.toInt = k) (hc : ¬ i < j) : k - n = 0 := by rw [Int32.lt_iff_toInt_lt] at hc; omega
theorem own_of {i : Int32} {n : Nat} (h : i.toInt = n) : i = Int32.ofNat n := by
  have := rng32 i
  apply Int32.toInt_inj.mp
  rw [Int32.toInt_ofNat_of_lt (by omega)]; exact h
/-! a list of ints as an array's values -/
def own_bl (B : Nat → Int32) (n : Nat) : List Value := (List.range n).map fun j => .int (B j)
theorem own_bl_at (B : Nat → Int32) {n k : Nat} (hk : k < n) : (own_bl B n)[k]? = some (.int (B k)) := by simp [own_bl, hk]
theorem own_bl_len (B : Nat → Int32) (n : Nat) : (own_bl B n).length = n := by simp [own_bl]
theorem own_start (s : Int32) : ∃ ns : Nat, ((s &&& (2147483647 : Int32)) % (9 : Int32)).toInt = ns ∧ ns ≤ 8 := by
  have h := c_mask s 2147483647 31 (by decide) (by decide)
  have z9 : (9 : Int32).toInt = 9 := by decide
  have h0 : 0 ≤ (s &&& (2147483647 : Int32)).toInt := by rw [h]; omega
  have h1 := (c_irem (s &&& 2147483647) 9 9 z9).1 h0
  exact ⟨((s &&& (2147483647 : Int32)) % (9 : Int32)).toInt.toNat, by omega, by omega⟩
theorem own_nz9 {s : Int32} {ns : Nat} (h : s.toInt = ns) (h8 : ns ≤ 8) : (9 : Int32) - s ≠ 0 := by
  intro q
  have h1 := c_isub 9 s
  have z9 : (9 : Int32).toInt = 9 := by decide
  have z0 : (0 : Int32).toInt = 0 := by decide
  rw [q, z0, z9] at h1
  omega
theorem own_stop {s : Int32} (e : Int32) {ns : Nat} (h : s.toInt = ns) (h8 : ns ≤ 8) : ∃ ne : Nat, (s + ((e &&& (2147483647 : Int32)) % ((9 : Int32) - s))).toInt = ne ∧ ns ≤ ne ∧ ne ≤ 8 := by
  have h1 := c_isub 9 s
  have r1 := rng32 (9 - s)
  have z9 : (9 : Int32).toInt = 9 := by decide
  rw [z9] at h1
  have e1 := c_mask e 2147483647 31 (by decide) (by decide)
  have h0 : 0 ≤ (e &&& (2147483647 : Int32)).toInt := by rw [e1]; omega
  have h2 := (c_iremV (e &&& 2147483647) (9 - s)).1 h0 (by omega)
  have h3 := c_iadd s ((e &&& (2147483647 : Int32)) % ((9 : Int32) - s))
  have r3 := rng32 (s + ((e &&& (2147483647 : Int32)) % ((9 : Int32) - s)))
  exact ⟨(s + ((e &&& (2147483647 : Int32)) % ((9 : Int32) - s))).toInt.toNat, by omega, by omega, by omega⟩
theorem pn_0 : plainName "com/example/passau/passau/drawing/IdListHashOfPinLaw" = true := by first | (simp [plainName, overriddenIn]; done) | decide +kernel
theorem d2_0 : decode method_4_code 0 = .ok (.iload_n 0, 1) := by decide +kernel
theorem d2_1 : decode method_4_code 1 = .ok (.ifCond .ne 5, 3) := by decide +kernel
theorem d2_4 : decode method_4_code 4 = .ok (.iconst 1, 1) := by decide +kernel
theorem d2_5 : decode method_4_code 5 = .ok (.ireturn, 1) := by decide +kernel
theorem d2_6 : decode method_4_code 6 = .ok (.iload_n 0, 1) := by decide +kernel
theorem d2_7 : decode method_4_code 7 = .ok (.iconst 1, 1) := by decide +kernel
theorem d2_8 : decode method_4_code 8 = .ok (.if_icmp .ne 6, 3) := by decide +kernel
theorem d2_11 : decode method_4_code 11 = .ok (.bipush 31, 2) := by decide +kernel
theorem d2_13 : decode method_4_code 13 = .ok (.ireturn, 1) := by decide +kernel
theorem d2_14 : decode method_4_code 14 = .ok (.iload_n 0, 1) := by decide +kernel
theorem d2_15 : decode method_4_code 15 = .ok (.iconst 2, 1) := by decide +kernel
theorem d2_16 : decode method_4_code 16 = .ok (.if_icmp .ne 7, 3) := by decide +kernel
theorem d2_19 : decode method_4_code 19 = .ok (.sipush 961, 3) := by decide +kernel
theorem d2_22 : decode method_4_code 22 = .ok (.ireturn, 1) := by decide +kernel
theorem d2_23 : decode method_4_code 23 = .ok (.iload_n 0, 1) := by decide +kernel
theorem d2_24 : decode method_4_code 24 = .ok (.iconst 3, 1) := by decide +kernel
theorem d2_25 : decode method_4_code 25 = .ok (.if_icmp .ne 7, 3) := by decide +kernel
theorem d2_28 : decode method_4_code 28 = .ok (.sipush 29791, 3) := by decide +kernel
theorem d2_31 : decode method_4_code 31 = .ok (.ireturn, 1) := by decide +kernel
theorem d2_32 : decode method_4_code 32 = .ok (.iload_n 0, 1) := by decide +kernel
theorem d2_33 : decode method_4_code 33 = .ok (.iconst 4, 1) := by decide +kernel
theorem d2_34 : decode method_4_code 34 = .ok (.if_icmp .ne 6, 3) := by decide +kernel
theorem d2_37 : decode method_4_code 37 = .ok (.ldc 24, 2) := by decide +kernel
theorem d2_39 : decode method_4_code 39 = .ok (.ireturn, 1) := by decide +kernel
theorem d2_40 : decode method_4_code 40 = .ok (.iload_n 0, 1) := by decide +kernel
theorem d2_41 : decode method_4_code 41 = .ok (.iconst 5, 1) := by decide +kernel
theorem d2_42 : decode method_4_code 42 = .ok (.if_icmp .ne 6, 3) := by decide +kernel
theorem d2_45 : decode method_4_code 45 = .ok (.ldc 25, 2) := by decide +kernel
theorem d2_47 : decode method_4_code 47 = .ok (.ireturn, 1) := by decide +kernel
theorem d2_48 : decode method_4_code 48 = .ok (.iload_n 0, 1) := by decide +kernel
theorem d2_49 : decode method_4_code 49 = .ok (.bipush 6, 2) := by decide +kernel
theorem d2_51 : decode method_4_code 51 = .ok (.if_icmp .ne 6, 3) := by decide +kernel
theorem d2_54 : decode method_4_code 54 = .ok (.ldc 26, 2) := by decide +kernel
theorem d2_56 : decode method_4_code 56 = .ok (.ireturn, 1) := by decide +kernel
theorem d2_57 : decode method_4_code 57 = .ok (.ldc 27, 2) := by decide +kernel
theorem d2_59 : decode method_4_code 59 = .ok (.ireturn, 1) := by decide +kernel
theorem ef_rm2 (m : MethodId) (u : Int32) : entryFrame m #[(.int u)] 1 = mkF m 0 #[.val (.int u)] [] := by first | rfl | (simp [entryFrame, mkF, argsToLocals, Value.category]; done)
def own_p31 (u : Int32) : Int32 := (if u = (0 : Int32) then (1 : Int32) else (if u = (1 : Int32) then (31 : Int32) else (if u = (2 : Int32) then (961 : Int32) else (if u = (3 : Int32) then (29791 : Int32) else (if u = (4 : Int32) then (923521 : Int32) else (if u = (5 : Int32) then (28629151 : Int32) else (if u = (6 : Int32) then (887503681 : Int32) else (1742810335 : Int32))))))))
def Q2 (Z : State) (u : Int32) (h0 : Heap) (n0 : Nat) (rv : Option Value) (hq : Heap) (Lq : List Loc) : Prop := rv = some (.int (own_p31 u)) ∧ Fr n0 Lq ∧ hq = h0
set_option maxRecDepth 65536 in
set_option maxHeartbeats 40000000 in
theorem rm2 (l : Launch) (Z : State) (a0 : Array Value) (hw : ∀ d ∈ tables_1, d.before a0 Z = true) (ws : List Jvm.Cond) (u : Int32) (h0 : Heap) (n0 : Nat) (Z0 : n0 ≤ h0.size) :
    MetFree l (⟨"com/example/passau/passau/drawing/IdListHashOfPinLaw", "pow31", "(I)I"⟩ : MethodName) (head1 (Jvm.Cond.code (⟨"com/example/passau/passau/drawing/IdListHashOfPinLaw", "pow31", "(I)I"⟩ : MethodName) method_4_code 1 (some .int) :: ws) ({ frames := 0, cells := 0, slots := 0, locals := 0 } : Room)) (fun za U => za = #[(.int u)] ∧ Z.Warmed39 U.vm ∧ U.heap = h0) (fun _ _ _ _ _ => True) (fun _ U o U' => ∃ rv Lq, o = .returned rv ∧ Q2 Z u h0 n0 rv U'.heap Lq ∧ FrameEnd U o U' Lq ({ frames := 0, cells := 0, slots := 0, locals := 0 } : Room).cells ({ frames := 0, cells := 0, slots := 0, locals := 0 } : Room).slots) := by
  refine MetFree.of_bodySF (plainFor_of_name pn_0) hisR ?_
  intro p e s m args below meth c s₁ Bd hml0 hP hK
  obtain ⟨rfl, hZ, hh⟩ := hP
  have hx := Bd.exec
  have hby := Bd.bytes
  have hml : c.maxLocals = 1 := hml0
  have hown : s.vm.findClass "com/example/passau/passau/drawing/IdListHashOfPinLaw" = some m.cls := findClass_of_methodNamed Bd.named
  have hnm := (name_of_methodNamed Bd.named Bd.method).1
  have X0 : Stand p l e ({ frames := 0, cells := 0, slots := 0, locals := 0 } : Room) s m #[(.int u)] below meth c s₁ [] 0 0 := Stand.of_body Bd
  have e0 : s₁.heap = h0 := by rw [← hh, Bd.state]; rfl
  have N0 := Fr.nil n0
  refine own_out (own_nm fun G hG => own_st (fun zt zk => castTop (ef_rm2 m u) zk) ?_)
  show own_Go p e below G (s₁.setTop (mkF m 0 #[.val (.int u)] []))
  refine own_st (fun zw zk => XS.iloadN X0.here hx rfl (hb hby d2_0) rfl zk) ?_
  by_cases hc1 : u = (0 : Int32)
  · refine own_st (fun zw zk => XS.ifNo X0.here hx rfl (hb hby d2_1) rfl ((if0 _ _).trans (teq hc1).2) zk) ?_
    refine own_st (fun zw zk => XS.iconst X0.here hx rfl (hb hby d2_4) zk) ?_
    subst hG
    obtain ⟨fs, hr, hrun, hended, hW, hsame⟩ := X0.leave (v := some (.int (1 : Int32))) (fun h => by rw [Bd.returns] at h; cases h)
    refine ⟨_, own_retI X0 hx Bd.returns (hb hby d2_5) hr, _, hrun, hended, _, _, rfl, ?_, ⟨_, rfl⟩, hW, hsame.mono (by decide) (by decide)⟩
    show Q2 Z u h0 n0 _ s₁.heap _
    rw [e0]
    exact ⟨by unfold own_p31; rw [if_pos hc1], N0, rfl⟩
  · refine own_st (fun zw zk => XS.ifYes X0.here hx rfl (pc0 := 1) (pc' := 6) rfl (hb hby d2_1) rfl ((if0 _ _).trans (feq hc1).2) (by decide) (by decide) zk) ?_
    refine own_st (fun zw zk => XS.iloadN X0.here hx rfl (hb hby d2_6) rfl zk) ?_
    refine own_st (fun zw zk => XS.iconst X0.here hx rfl (hb hby d2_7) zk) ?_
    by_cases hc8 : u = (1 : Int32)
    · refine own_st (fun zw zk => XS.icmpNo X0.here hx rfl (hb hby d2_8) rfl (teq hc8).2 zk) ?_
      refine own_st (fun zw zk => XS.bipush X0.here hx rfl (hb hby d2_11) zk) ?_
      subst hG
      obtain ⟨fs, hr, hrun, hended, hW, hsame⟩ := X0.leave (v := some (.int (31 : Int32))) (fun h => by rw [Bd.returns] at h; cases h)
      refine ⟨_, own_retI X0 hx Bd.returns (hb hby d2_13) hr, _, hrun, hended, _, _, rfl, ?_, ⟨_, rfl⟩, hW, hsame.mono (by decide) (by decide)⟩
      show Q2 Z u h0 n0 _ s₁.heap _
      rw [e0]
      exact ⟨by unfold own_p31; rw [if_neg hc1, if_pos hc8], N0, rfl⟩
    · refine own_st (fun zw zk => XS.icmpYes X0.here hx rfl (pc0 := 8) (pc' := 14) rfl (hb hby d2_8) rfl (feq hc8).2 (by decide) (by decide) zk) ?_
      refine own_st (fun zw zk => XS.iloadN X0.here hx rfl (hb hby d2_14) rfl zk) ?_
      refine own_st (fun zw zk => XS.iconst X0.here hx rfl (hb hby d2_15) zk) ?_
      by_cases hc16 : u = (2 : Int32)
      · refine own_st (fun zw zk => XS.icmpNo X0.here hx rfl (hb hby d2_16) rfl (teq hc16).2 zk) ?_
        show own_Go p e below G (s₁.setTop (mkF m 19 #[.val (.int u)] []))
        refine own_st (fun zw zk => XS.sipush X0.here hx rfl (hb hby d2_19) zk) ?_
        subst hG
        obtain ⟨fs, hr, hrun, hended, hW, hsame⟩ := X0.leave (v := some (.int (961 : Int32))) (fun h => by rw [Bd.returns] at h; cases h)
        refine ⟨_, own_retI X0 hx Bd.returns (hb hby d2_22) hr, _, hrun, hended, _, _, rfl, ?_, ⟨_, rfl⟩, hW, hsame.mono (by decide) (by decide)⟩
        show Q2 Z u h0 n0 _ s₁.heap _
        rw [e0]
        exact ⟨by unfold own_p31; rw [if_neg hc1, if_neg hc8, if_pos hc16], N0, rfl⟩
      · refine own_st (fun zw zk => XS.icmpYes X0.here hx rfl (pc0 := 16) (pc' := 23) rfl (hb hby d2_16) rfl (feq hc16).2 (by decide) (by decide) zk) ?_
        show own_Go p e below G (s₁.setTop (mkF m 23 #[.val (.int u)] []))
        refine own_st (fun zw zk => XS.iloadN X0.here hx rfl (hb hby d2_23) rfl zk) ?_
        refine own_st (fun zw zk => XS.iconst X0.here hx rfl (hb hby d2_24) zk) ?_
        by_cases hc25 : u = (3 : Int32)
        · refine own_st (fun zw zk => XS.icmpNo X0.here hx rfl (hb hby d2_25) rfl (teq hc25).2 zk) ?_
          refine own_st (fun zw zk => XS.sipush X0.here hx rfl (hb hby d2_28) zk) ?_
          subst hG
          obtain ⟨fs, hr, hrun, hended, hW, hsame⟩ := X0.leave (v := some (.int (29791 : Int32))) (fun h => by rw [Bd.returns] at h; cases h)
          refine ⟨_, own_retI X0 hx Bd.returns (hb hby d2_31) hr, _, hrun, hended, _, _, rfl, ?_, ⟨_, rfl⟩, hW, hsame.mono (by decide) (by decide)⟩
          show Q2 Z u h0 n0 _ s₁.heap _
          rw [e0]
          exact ⟨by unfold own_p31; rw [if_neg hc1, if_neg hc8, if_neg hc16, if_pos hc25], N0, rfl⟩
        · refine own_st (fun zw zk => XS.icmpYes X0.here hx rfl (pc0 := 25) (pc' := 32) rfl (hb hby d2_25) rfl (feq hc25).2 (by decide) (by decide) zk) ?_
          refine own_st (fun zw zk => XS.iloadN X0.here hx rfl (hb hby d2_32) rfl zk) ?_
          refine own_st (fun zw zk => XS.iconst X0.here hx rfl (hb hby d2_33) zk) ?_
          by_cases hc34 : u = (4 : Int32)
          · refine own_st (fun zw zk => XS.icmpNo X0.here hx rfl (hb hby d2_34) rfl (teq hc34).2 zk) ?_
            refine own_st (fun zw zk => X0.ldcInt hx hown (mvT hZ (hw _ (List.mem_of_getElem? (i := 15) rfl))) (g := (mkF m 37 #[.val (.int u)] [])) rfl (hb hby d2_37) _ zk) ?_
            subst hG
            obtain ⟨fs, hr, hrun, hended, hW, hsame⟩ := X0.leave (v := some (.int (923521 : Int32))) (fun h => by rw [Bd.returns] at h; cases h)
            refine ⟨_, own_retI X0 hx Bd.returns (hb hby d2_39) hr, _, hrun, hended, _, _, rfl, ?_, ⟨_, rfl⟩, hW, hsame.mono (by decide) (by decide)⟩
            show Q2 Z u h0 n0 _ s₁.heap _
            rw [e0]
            exact ⟨by unfold own_p31; rw [if_neg hc1, if_neg hc8, if_neg hc16, if_neg hc25, if_pos hc34], N0, rfl⟩
          · refine own_st (fun zw zk => XS.icmpYes X0.here hx rfl (pc0 := 34) (pc' := 40) rfl (hb hby d2_34) rfl (feq hc34).2 (by decide) (by decide) zk) ?_
            refine own_st (fun zw zk => XS.iloadN X0.here hx rfl (hb hby d2_40) rfl zk) ?_
            refine own_st (fun zw zk => XS.iconst X0.here hx rfl (hb hby d2_41) zk) ?_
            show own_Go p e below G (s₁.setTop (mkF m 42 #[.val (.int u)] [(.int (5 : Int32)), (.int u)]))
            by_cases hc42 : u = (5 : Int32)
            · refine own_st (fun zw zk => XS.icmpNo X0.here hx rfl (hb hby d2_42) rfl (teq hc42).2 zk) ?_
              refine own_st (fun zw zk => X0.ldcInt hx hown (mvT hZ (hw _ (List.mem_of_getElem? (i := 14) rfl))) (g := (mkF m 45 #[.val (.int u)] [])) rfl (hb hby d2_45) _ zk) ?_
              subst hG
              obtain ⟨fs, hr, hrun, hended, hW, hsame⟩ := X0.leave (v := some (.int (28629151 : Int32))) (fun h => by rw [Bd.returns] at h; cases h)
              refine ⟨_, own_retI X0 hx Bd.returns (hb hby d2_47) hr, _, hrun, hended, _, _, rfl, ?_, ⟨_, rfl⟩, hW, hsame.mono (by decide) (by decide)⟩
              show Q2 Z u h0 n0 _ s₁.heap _
              rw [e0]
              exact ⟨by unfold own_p31; rw [if_neg hc1, if_neg hc8, if_neg hc16, if_neg hc25, if_neg hc34, if_pos hc42], N0, rfl⟩
            · refine own_st (fun zw zk => XS.icmpYes X0.here hx rfl (pc0 := 42) (pc' := 48) rfl (hb hby d2_42) rfl (feq hc42).2 (by decide) (by decide) zk) ?_
              refine own_st (fun zw zk => XS.iloadN X0.here hx rfl (hb hby d2_48) rfl zk) ?_
              refine own_st (fun zw zk => XS.bipush X0.here hx rfl (hb hby d2_49) zk) ?_
              by_cases hc51 : u = (6 : Int32)
              · refine own_st (fun zw zk => XS.icmpNo X0.here hx rfl (hb hby d2_51) rfl (teq hc51).2 zk) ?_
                refine own_st (fun zw zk => X0.ldcInt hx hown (mvT hZ (hw _ (List.mem_of_getElem? (i := 13) rfl))) (g := (mkF m 54 #[.val (.int u)] [])) rfl (hb hby d2_54) _ zk) ?_
                subst hG
                obtain ⟨fs, hr, hrun, hended, hW, hsame⟩ := X0.leave (v := some (.int (887503681 : Int32))) (fun h => by rw [Bd.returns] at h; cases h)
                refine ⟨_, own_retI X0 hx Bd.returns (hb hby d2_56) hr, _, hrun, hended, _, _, rfl, ?_, ⟨_, rfl⟩, hW, hsame.mono (by decide) (by decide)⟩
                show Q2 Z u h0 n0 _ s₁.heap _
                rw [e0]
                exact ⟨by unfold own_p31; rw [if_neg hc1, if_neg hc8, if_neg hc16, if_neg hc25, if_neg hc34, if_neg hc42, if_pos hc51], N0, rfl⟩
              · refine own_st (fun zw zk => XS.icmpYes X0.here hx rfl (pc0 := 51) (pc' := 57) rfl (hb hby d2_51) rfl (feq hc51).2 (by decide) (by decide) zk) ?_
                refine own_st (fun zw zk => X0.ldcInt hx hown (mvT hZ (hw _ (List.mem_of_getElem? (i := 16) rfl))) (g := (mkF m 57 #[.val (.int u)] [])) rfl (hb hby d2_57) _ zk) ?_
                subst hG
                obtain ⟨fs, hr, hrun, hended, hW, hsame⟩ := X0.leave (v := some (.int (1742810335 : Int32))) (fun h => by rw [Bd.returns] at h; cases h)
                refine ⟨_, own_retI X0 hx Bd.returns (hb hby d2_59) hr, _, hrun, hended, _, _, rfl, ?_, ⟨_, rfl⟩, hW, hsame.mono (by decide) (by decide)⟩
                show Q2 Z u h0 n0 _ s₁.heap _
                rw [e0]
                exact ⟨by unfold own_p31; rw [if_neg hc1, if_neg hc8, if_neg hc16, if_neg hc25, if_neg hc34, if_neg hc42, if_neg hc51], N0, rfl⟩
theorem pd_0 : parseMethodDescriptor "(I)I" = some ⟨[.int], some .int⟩ := by decide +kernel
theorem d1_0 : decode method_3_code 0 = .ok (.iload_n 2, 1) := by decide +kernel
theorem d1_1 : decode method_3_code 1 = .ok (.iload_n 1, 1) := by decide +kernel
theorem d1_2 : decode method_3_code 2 = .ok (.if_icmp .gt 25, 3) := by decide +kernel
theorem d1_5 : decode method_3_code 5 = .ok (.iload_n 1, 1) := by decide +kernel
theorem d1_6 : decode method_3_code 6 = .ok (.iload_n 3, 1) := by decide +kernel
theorem d1_7 : decode method_3_code 7 = .ok (.if_icmp .ge 20, 3) := by decide +kernel
theorem d1_10 : decode method_3_code 10 = .ok (.aload_n 0, 1) := by decide +kernel
theorem d1_11 : decode method_3_code 11 = .ok (.iload_n 1, 1) := by decide +kernel
theorem d1_12 : decode method_3_code 12 = .ok (.baload, 1) := by decide +kernel
theorem d1_13 : decode method_3_code 13 = .ok (.sipush 255, 3) := by decide +kernel
theorem d1_16 : decode method_3_code 16 = .ok (.iand, 1) := by decide +kernel
theorem d1_17 : decode method_3_code 17 = .ok (.iload_n 3, 1) := by decide +kernel
theorem d1_18 : decode method_3_code 18 = .ok (.iconst 1, 1) := by decide +kernel
theorem d1_19 : decode method_3_code 19 = .ok (.isub, 1) := by decide +kernel
theorem d1_20 : decode method_3_code 20 = .ok (.iload_n 1, 1) := by decide +kernel
theorem d1_21 : decode method_3_code 21 = .ok (.isub, 1) := by decide +kernel
theorem d1_22 : decode method_3_code 22 = .ok (.invokestatic 20, 3) := by decide +kernel
theorem d1_25 : decode method_3_code 25 = .ok (.imul, 1) := by decide +kernel
theorem d1_26 : decode method_3_code 26 = .ok (.ireturn, 1) := by decide +kernel
theorem d1_27 : decode method_3_code 27 = .ok (.iconst 0, 1) := by decide +kernel
theorem d1_28 : decode method_3_code 28 = .ok (.ireturn, 1) := by decide +kernel
theorem ef_rm1 (m : MethodId) (t0 : Addr) (ii : Int32) (ss : Int32) (ee : Int32) : entryFrame m #[(.ref t0), (.int ii), (.int ss), (.int ee)] 4 = mkF m 0 #[.val (.ref t0), .val (.int ii), .val (.int ss), .val (.int ee)] [] := by first | rfl | (simp [entryFrame, mkF, argsToLocals, Value.category]; done)
def own_term (B : Nat → Int32) (k : Nat) (ii : Int32) (ss : Int32) (ee : Int32) : Int32 := (if ii < ss then (0 : Int32) else (if ii < ee then (((B k) &&& (255 : Int32)) * (own_p31 ((ee - (1 : Int32)) - ii))) else (0 : Int32)))
def Q1 (Z : State) (t0 : Addr) (ii : Int32) (ss : Int32) (ee : Int32) (B : Nat → Int32) (k : Nat) (h0 : Heap) (n0 : Nat) (rv : Option Value) (hq : Heap) (Lq : List Loc) : Prop := rv = some (.int (own_term B k ii ss ee)) ∧ Fr n0 Lq ∧ hq = h0
set_option maxRecDepth 65536 in
set_option maxHeartbeats 40000000 in
theorem rm1 (l : Launch) (Z : State) (a0 : Array Value) (hw : ∀ d ∈ tables_1, d.before a0 Z = true) (ws : List Jvm.Cond) (t0 : Addr) (ii : Int32) (ss : Int32) (ee : Int32) (B : Nat → Int32) (k : Nat) (h0 : Heap) (n0 : Nat) (Z0 : n0 ≤ h0.size) (F0_ : own_L Z h0 t0 .byte ((own_bl B 8))) (hi0 : ¬ ii < 0) (hik : ii.toNatClampNeg = k) (hk : k < 8) :
    MetFree l (⟨"com/example/passau/passau/drawing/IdListHashOfPinLaw", "term", "([BIII)I"⟩ : MethodName) (head1 (Jvm.Cond.code (⟨"com/example/passau/passau/drawing/IdListHashOfPinLaw", "term", "([BIII)I"⟩ : MethodName) method_3_code 4 (some .int) :: ws) ({ frames := 1, cells := 0, slots := 0, locals := 13 } : Room)) (fun za U => za = #[(.ref t0), (.int ii), (.int ss), (.int ee)] ∧ Z.Warmed39 U.vm ∧ U.heap = h0) (fun _ _ _ _ _ => True) (fun _ U o U' => ∃ rv Lq, o = .returned rv ∧ Q1 Z t0 ii ss ee B k h0 n0 rv U'.heap Lq ∧ FrameEnd U o U' Lq ({ frames := 1, cells := 0, slots := 0, locals := 13 } : Room).cells ({ frames := 1, cells := 0, slots := 0, locals := 13 } : Room).slots) := by
  refine MetFree.of_bodySF (plainFor_of_name pn_0) hisR ?_
  intro p e s m args below meth c s₁ Bd hml0 hP hK
  obtain ⟨rfl, hZ, hh⟩ := hP
  have hx := Bd.exec
  have hby := Bd.bytes
  have hml : c.maxLocals = 4 := hml0
  have hown : s.vm.findClass "com/example/passau/passau/drawing/IdListHashOfPinLaw" = some m.cls := findClass_of_methodNamed Bd.named
  have hnm := (name_of_methodNamed Bd.named Bd.method).1
  have X0 : Stand p l e ({ frames := 1, cells := 0, slots := 0, locals := 13 } : Room) s m #[(.ref t0), (.int ii), (.int ss), (.int ee)] below meth c s₁ [] 0 0 := Stand.of_body Bd
  have e0 : s₁.heap = h0 := by rw [← hh, Bd.state]; rfl
  have N0 := Fr.nil n0
  refine own_out (own_nm fun G hG => own_st (fun zt zk => castTop (ef_rm1 m t0 ii ss ee) zk) ?_)
  show own_Go p e below G (s₁.setTop (mkF m 0 #[.val (.ref t0), .val (.int ii), .val (.int ss), .val (.int ee)] []))
  refine own_st (fun zw zk => XS.iloadN X0.here hx rfl (hb hby d1_0) rfl zk) ?_
  refine own_st (fun zw zk => XS.iloadN X0.here hx rfl (hb hby d1_1) rfl zk) ?_
  by_cases hc2 : ii < ss
  · refine own_st (fun zw zk => XS.icmpYes X0.here hx rfl (pc0 := 2) (pc' := 27) rfl (hb hby d1_2) rfl (tlt hc2).2.2.1 (by decide) (by decide) zk) ?_
    refine own_st (fun zw zk => XS.iconst X0.here hx rfl (hb hby d1_27) zk) ?_
    subst hG
    obtain ⟨fs, hr, hrun, hended, hW, hsame⟩ := X0.leave (v := some (.int (0 : Int32))) (fun h => by rw [Bd.returns] at h; cases h)
    refine ⟨_, own_retI X0 hx Bd.returns (hb hby d1_28) hr, _, hrun, hended, _, _, rfl, ?_, ⟨_, rfl⟩, hW, hsame.mono (by decide) (by decide)⟩
    show Q1 Z t0 ii ss ee B k h0 n0 _ s₁.heap _
    rw [e0]
    exact ⟨by unfold own_term; rw [if_pos hc2], N0, rfl⟩
  · refine own_st (fun zw zk => XS.icmpNo X0.here hx rfl (hb hby d1_2) rfl (flt hc2).2.2.1 zk) ?_
    refine own_st (fun zw zk => XS.iloadN X0.here hx rfl (hb hby d1_5) rfl zk) ?_
    refine own_st (fun zw zk => XS.iloadN X0.here hx rfl (hb hby d1_6) rfl zk) ?_
    by_cases hc7 : ii < ee
    · refine own_st (fun zw zk => XS.icmpNo X0.here hx rfl (hb hby d1_7) rfl (tlt hc7).2.1 zk) ?_
      refine own_st (fun zw zk => XS.aloadN X0.here hx rfl (hb hby d1_10) rfl rfl zk) ?_
      refine own_st (fun zw zk => XS.iloadN X0.here hx rfl (hb hby d1_11) rfl zk) ?_
      show own_Go p e below G (s₁.setTop (mkF m 12 #[.val (.ref t0), .val (.int ii), .val (.int ss), .val (.int ee)] [(.int ii), (.ref t0)]))
      refine own_st (fun zw zk => own_bld X0 hx hZ e0 F0_ (j := ii) (v := (.int (B k))) (i := k) hi0 hik (own_bl_at B hk) (g := (mkF m 12 #[.val (.ref t0), .val (.int ii), .val (.int ss), .val (.int ee)] [(.int ii), (.ref t0)])) rfl rfl (hb hby d1_12) _ zk) ?_
      refine own_st (fun zw zk => XS.sipush X0.here hx rfl (hb hby d1_13) zk) ?_
      refine own_st (fun zw zk => XS.iand X0.here hx rfl (hb hby d1_16) rfl zk) ?_
      refine own_st (fun zw zk => XS.iloadN X0.here hx rfl (hb hby d1_17) rfl zk) ?_
      refine own_st (fun zw zk => XS.iconst X0.here hx rfl (hb hby d1_18) zk) ?_
      refine own_st (fun zw zk => XS.isub X0.here hx rfl (hb hby d1_19) rfl zk) ?_
      refine own_st (fun zw zk => XS.iloadN X0.here hx rfl (hb hby d1_20) rfl zk) ?_
      refine own_st (fun zw zk => XS.isub X0.here hx rfl (hb hby d1_21) rfl zk) ?_
      show own_Go p e below G (s₁.setTop (mkF m 22 #[.val (.ref t0), .val (.int ii), .val (.int ss), .val (.int ee)] [(.int ((ee - (1 : Int32)) - ii)), (.int ((B k) &&& (255 : Int32)))]))
      obtain ⟨_, _, ⟨T1, L1, k1, n1⟩, -, X1, ⟨Lc1, hQ1, l1, y1, z1⟩, st1⟩ := Jvm.LawKit.callS X0 hx (y := (⟨"com/example/passau/passau/drawing/IdListHashOfPinLaw", "pow31", "(I)I"⟩ : MethodName)) hown (mvT hZ (hw _ (List.mem_of_getElem? (i := 6) rfl))) (mvT hZ (hw _ (List.mem_of_getElem? (i := 7) rfl))) (mvT hZ (hw _ (List.mem_of_getElem? (i := 4) rfl))) (mvT hZ (hw _ (List.mem_of_getElem? (i := 8) rfl))) (by decide) (backOf (W := 1) (rm2 l Z a0 hw [] ((ee - (1 : Int32)) - ii) h0 n0 Z0) hZ (hw _ (List.mem_of_getElem? (i := 8) rfl)) (hw _ (List.mem_of_getElem? (i := 4) rfl)) (by decide) (by decide)) (g := (mkF m 22 #[.val (.ref t0), .val (.int ii), .val (.int ss), .val (.int ee)] [(.int ((ee - (1 : Int32)) - ii)), (.int ((B k) &&& (255 : Int32)))])) rfl (by rw [hml]; rfl) (argsL := [(.int ((ee - (1 : Int32)) - ii))]) (rest := [(.int ((B k) &&& (255 : Int32)))]) (lenOf pd_0 rfl) rfl (by show 2 * 0 + _ ≤ _; exact Nat.le_of_eq rfl) (hb hby d1_22) (fun _ _ => ⟨rfl, e0, (by decide : 0 + 0 ≤ _), (by decide : 0 + 0 ≤ _)⟩)
      dsimp only [Pt.U, Pt.locs, Pt.cells, Pt.slots] at X1 l1 y1 z1 st1 hQ1
      subst l1 y1 z1
      obtain ⟨rfl, N1q, e1⟩ := hQ1
      have N1 := Fr.app N0 N1q
      refine own_st (fun zw zk => st1 zw zk) ?_
      refine own_st (fun zw zk => XS.imul X1.here hx rfl (hb hby d1_25) rfl zk) ?_
      subst hG
      obtain ⟨fs, hr, hrun, hended, hW, hsame⟩ := X1.leave (v := some (.int (((B k) &&& (255 : Int32)) * (own_p31 ((ee - (1 : Int32)) - ii))))) (fun h => by rw [Bd.returns] at h; cases h)
      refine ⟨_, own_retI X1 hx Bd.returns (hb hby d1_26) hr, _, hrun, hended, _, _, rfl, ?_, ⟨_, rfl⟩, hW, hsame.mono (by decide) (by decide)⟩
      show Q1 Z t0 ii ss ee B k h0 n0 _ T1.heap _
      rw [e1]
      exact ⟨by unfold own_term; rw [if_neg hc2, if_pos hc7], N1, rfl⟩
    · refine own_st (fun zw zk => XS.icmpYes X0.here hx rfl (pc0 := 7) (pc' := 27) rfl (hb hby d1_7) rfl (flt hc7).2.1 (by decide) (by decide) zk) ?_
      refine own_st (fun zw zk => XS.iconst X0.here hx rfl (hb hby d1_27) zk) ?_
      subst hG
      obtain ⟨fs, hr, hrun, hended, hW, hsame⟩ := X0.leave (v := some (.int (0 : Int32))) (fun h => by rw [Bd.returns] at h; cases h)
      refine ⟨_, own_retI X0 hx Bd.returns (hb hby d1_28) hr, _, hrun, hended, _, _, rfl, ?_, ⟨_, rfl⟩, hW, hsame.mono (by decide) (by decide)⟩
      show Q1 Z t0 ii ss ee B k h0 n0 _ s₁.heap _
      rw [e0]
      exact ⟨by unfold own_term; rw [if_neg hc2, if_neg hc7], N0, rfl⟩
def own_hs (B : Nat → Int32) : Nat → Nat → Int32 → Int32
  | 0, _, h => h
  | k + 1, i, h => own_hs B k (i + 1) (((31 : Int32) * h) + ((B i) &&& (255 : Int32)))
def own_sum (B : Nat → Int32) (s e : Int32) : Int32 := ((((((((own_term B 0 0 s e) + (own_term B 1 1 s e)) + (own_term B 2 2 s e)) + (own_term B 3 3 s e)) + (own_term B 4 4 s e)) + (own_term B 5 5 s e)) + (own_term B 6 6 s e)) + (own_term B 7 7 s e))
theorem own_p0 : own_p31 0 = 1 ∧ own_p31 1 = 31 ∧ own_p31 2 = 961 ∧ own_p31 3 = 29791 ∧ own_p31 4 = 923521 ∧ own_p31 5 = 28629151 ∧ own_p31 6 = 887503681 ∧ own_p31 7 = 1742810335 := by decide
theorem own_lawF (B : Nat → Int32) : ∀ (d : Nat) (s : Nat) , s + d ≤ 8 → own_hs B d s 0 = own_sum B (Int32.ofNat s) (Int32.ofNat (s + d)) := by
  intro d s h
  obtain ⟨q0, q1, q2, q3, q4, q5, q6, q7⟩ := own_p0
  generalize hb0 : (B 0) &&& 255 = b0
  generalize hb1 : (B 1) &&& 255 = b1
  generalize hb2 : (B 2) &&& 255 = b2
  generalize hb3 : (B 3) &&& 255 = b3
  generalize hb4 : (B 4) &&& 255 = b4
  generalize hb5 : (B 5) &&& 255 = b5
  generalize hb6 : (B 6) &&& 255 = b6
  generalize hb7 : (B 7) &&& 255 = b7
  have hs : s = 0 ∨ s = 1 ∨ s = 2 ∨ s = 3 ∨ s = 4 ∨ s = 5 ∨ s = 6 ∨ s = 7 ∨ s = 8 := by omega
  have hd : d = 0 ∨ d = 1 ∨ d = 2 ∨ d = 3 ∨ d = 4 ∨ d = 5 ∨ d = 6 ∨ d = 7 ∨ d = 8 := by omega
  rcases hs with rfl | rfl | rfl | rfl | rfl | rfl | rfl | rfl | rfl <;> rcases hd with rfl | rfl | rfl | rfl | rfl | rfl | rfl | rfl | rfl <;> first
    | (exfalso; omega)
    | (simp +decide only [own_sum, own_hs, own_term, hb0, hb1, hb2, hb3, hb4, hb5, hb6, hb7, if_true, if_false, Nat.add_zero, Nat.zero_add, Nat.reduceAdd, q0, q1, q2, q3, q4, q5, q6, q7, Int32.reduceOfNat, Int32.reduceSub, Int32.reduceLT, Int32.zero_add, Int32.add_zero, Int32.mul_one]; try grind)
theorem own_hs_step (B : Nat → Int32) {n m : Nat} (h : n < m) (x : Int32) : own_hs B (m - n) n x = own_hs B (m - (n + 1)) (n + 1) (((31 : Int32) * x) + ((B n) &&& (255 : Int32))) := by
  rw [show m - n = (m - (n + 1)) + 1 by omega]; rfl
theorem own_law (B : Nat → Int32) {s e : Int32} {ns ne : Nat} (hs : s.toInt = ns) (he : e.toInt = ne) (hse : ns ≤ ne) (h8 : ne ≤ 8) : own_hs B (ne - ns) ns 0 = own_sum B s e := by
  rw [own_of hs, own_of he, own_lawF B (ne - ns) ns (by omega), show ns + (ne - ns) = ne by omega]
theorem pn_1 : plainName "com/example/passau/passau/drawing/IdList" = true := by first | (simp [plainName, overriddenIn]; done) | decide +kernel
theorem d3_0 : decode prog_18_method_17_code 0 = .ok (.iconst 0, 1) := by decide +kernel
theorem d3_1 : decode prog_18_method_17_code 1 = .ok (.istore_n 3, 1) := by decide +kernel
theorem d3_2 : decode prog_18_method_17_code 2 = .ok (.iload_n 1, 1) := by decide +kernel
theorem d3_3 : decode prog_18_method_17_code 3 = .ok (.istore 4, 2) := by decide +kernel
theorem d3_5 : decode prog_18_method_17_code 5 = .ok (.iload 4, 2) := by decide +kernel
theorem d3_7 : decode prog_18_method_17_code 7 = .ok (.iload_n 2, 1) := by decide +kernel
theorem d3_8 : decode prog_18_method_17_code 8 = .ok (.if_icmp .ge 23, 3) := by decide +kernel
theorem d3_11 : decode prog_18_method_17_code 11 = .ok (.bipush 31, 2) := by decide +kernel
theorem d3_13 : decode prog_18_method_17_code 13 = .ok (.iload_n 3, 1) := by decide +kernel
theorem d3_14 : decode prog_18_method_17_code 14 = .ok (.imul, 1) := by decide +kernel
theorem d3_15 : decode prog_18_method_17_code 15 = .ok (.aload_n 0, 1) := by decide +kernel
theorem d3_16 : decode prog_18_method_17_code 16 = .ok (.iload 4, 2) := by decide +kernel
theorem d3_18 : decode prog_18_method_17_code 18 = .ok (.baload, 1) := by decide +kernel
theorem d3_19 : decode prog_18_method_17_code 19 = .ok (.sipush 255, 3) := by decide +kernel
theorem d3_22 : decode prog_18_method_17_code 22 = .ok (.iand, 1) := by decide +kernel
theorem d3_23 : decode prog_18_method_17_code 23 = .ok (.iadd, 1) := by decide +kernel
theorem d3_24 : decode prog_18_method_17_code 24 = .ok (.istore_n 3, 1) := by decide +kernel
theorem d3_25 : decode prog_18_method_17_code 25 = .ok (.iinc 4 1, 3) := by decide +kernel
theorem d3_28 : decode prog_18_method_17_code 28 = .ok (.goto (-23), 3) := by decide +kernel
theorem d3_31 : decode prog_18_method_17_code 31 = .ok (.iload_n 3, 1) := by decide +kernel
theorem d3_32 : decode prog_18_method_17_code 32 = .ok (.ireturn, 1) := by decide +kernel
theorem ef_rm3 (m : MethodId) (t0 : Addr) (ss : Int32) (ee : Int32) : entryFrame m #[(.ref t0), (.int ss), (.int ee)] 5 = mkF m 0 #[.val (.ref t0), .val (.int ss), .val (.int ee), .unset, .unset] [] := by first | rfl | (simp [entryFrame, mkF, argsToLocals, Value.category]; done)
def Q3 (Z : State) (t0 : Addr) (ss : Int32) (ee : Int32) (B : Nat → Int32) (ns : Nat) (ne : Nat) (h0 : Heap) (n0 : Nat) (rv : Option Value) (hq : Heap) (Lq : List Loc) : Prop := rv = some (.int (own_hs B (ne - ns) ns 0)) ∧ Fr n0 Lq ∧ hq = h0
set_option maxRecDepth 65536 in
set_option maxHeartbeats 40000000 in
theorem rm3 (l : Launch) (Z : State) (a0 : Array Value) (hw : ∀ d ∈ tables_1, d.before a0 Z = true) (ws : List Jvm.Cond) (t0 : Addr) (ss : Int32) (ee : Int32) (B : Nat → Int32) (ns : Nat) (ne : Nat) (h0 : Heap) (n0 : Nat) (Z0 : n0 ≤ h0.size) (F0_ : own_L Z h0 t0 .byte ((own_bl B 8))) (hs : ss.toInt = ns) (he : ee.toInt = ne) (hse : ns ≤ ne) (h8 : ne ≤ 8) :
    MetFree l (⟨"com/example/passau/passau/drawing/IdList", "hashOf", "([BII)I"⟩ : MethodName) (head1 (Jvm.Cond.code (⟨"com/example/passau/passau/drawing/IdList", "hashOf", "([BII)I"⟩ : MethodName) prog_18_method_17_code 5 (some .int) :: ws) ({ frames := 0, cells := 0, slots := 0, locals := 0 } : Room)) (fun za U => za = #[(.ref t0), (.int ss), (.int ee)] ∧ Z.Warmed39 U.vm ∧ U.heap = h0) (fun _ _ _ _ _ => True) (fun _ U o U' => ∃ rv Lq, o = .returned rv ∧ Q3 Z t0 ss ee B ns ne h0 n0 rv U'.heap Lq ∧ FrameEnd U o U' Lq ({ frames := 0, cells := 0, slots := 0, locals := 0 } : Room).cells ({ frames := 0, cells := 0, slots := 0, locals := 0 } : Room).slots) := by
  refine MetFree.of_bodySF (plainFor_of_name pn_1) hisR ?_
  intro p e s m args below meth c s₁ Bd hml0 hP hK
  obtain ⟨rfl, hZ, hh⟩ := hP
  have hx := Bd.exec
  have hby := Bd.bytes
  have hml : c.maxLocals = 5 := hml0
  have hown : s.vm.findClass "com/example/passau/passau/drawing/IdList" = some m.cls := findClass_of_methodNamed Bd.named
  have hnm := (name_of_methodNamed Bd.named Bd.method).1
  have X0 : Stand p l e ({ frames := 0, cells := 0, slots := 0, locals := 0 } : Room) s m #[(.ref t0), (.int ss), (.int ee)] below meth c s₁ [] 0 0 := Stand.of_body Bd
  have e0 : s₁.heap = h0 := by rw [← hh, Bd.state]; rfl
  have N0 := Fr.nil n0
  refine own_out (own_nm fun G hG => own_st (fun zt zk => castTop (ef_rm3 m t0 ss ee) zk) ?_)
  show own_Go p e below G (s₁.setTop (mkF m 0 #[.val (.ref t0), .val (.int ss), .val (.int ee), .unset, .unset] []))
  refine own_st (fun zw zk => XS.iconst X0.here hx rfl (hb hby d3_0) zk) ?_
  refine own_st (fun zw zk => XS.istoreN X0.here hx rfl (hb hby d3_1) rfl rfl zk) ?_
  show own_Go p e below G (s₁.setTop (mkF m 2 #[.val (.ref t0), .val (.int ss), .val (.int ee), .val (.int (0 : Int32)), .unset] []))
  refine own_st (fun zw zk => XS.iloadN X0.here hx rfl (hb hby d3_2) rfl zk) ?_
  refine own_st (fun zw zk => XS.istore X0.here hx rfl (hb hby d3_3) rfl rfl zk) ?_
  have loop5_2 : ∀ (bk : Nat) (hh : Int32) (ii : Int32) (ni : Nat) (hi : ii.toInt = ni) (hn : ni ≤ ne) (hinv : own_hs B (ne - ni) ni hh = own_hs B (ne - ns) ns 0) (hbk : ne - ni < bk), own_Go p e below G (s₁.setTop (mkF m 5 #[.val (.ref t0), .val (.int ss), .val (.int ee), .val (.int hh), .val (.int ii)] [])) := by
    intro bk
    induction bk with
    | zero =>
      intro hh ii ni hi hn hinv hbk
      exact absurd hbk (Nat.not_lt_zero _)
    | succ bk ih =>
      intro hh ii ni hi hn hinv hbk
      show own_Go p e below G (s₁.setTop (mkF m 5 #[.val (.ref t0), .val (.int ss), .val (.int ee), .val (.int hh), .val (.int ii)] []))
      refine own_st (fun zw zk => XS.iload X0.here hx rfl (hb hby d3_5) rfl zk) ?_
      refine own_st (fun zw zk => XS.iloadN X0.here hx rfl (hb hby d3_7) rfl zk) ?_
      by_cases hc8 : ii < ee
      · refine own_st (fun zw zk => XS.icmpNo X0.here hx rfl (hb hby d3_8) rfl (tlt hc8).2.1 zk) ?_
        refine own_st (fun zw zk => XS.bipush X0.here hx rfl (hb hby d3_11) zk) ?_
        refine own_st (fun zw zk => XS.iloadN X0.here hx rfl (hb hby d3_13) rfl zk) ?_
        refine own_st (fun zw zk => XS.imul X0.here hx rfl (hb hby d3_14) rfl zk) ?_
        refine own_st (fun zw zk => XS.aloadN X0.here hx rfl (hb hby d3_15) rfl rfl zk) ?_
        refine own_st (fun zw zk => XS.iload X0.here hx rfl (hb hby d3_16) rfl zk) ?_
        show own_Go p e below G (s₁.setTop (mkF m 18 #[.val (.ref t0), .val (.int ss), .val (.int ee), .val (.int hh), .val (.int ii)] [(.int ii), (.ref t0), (.int ((31 : Int32) * hh))]))
        refine own_st (fun zw zk => own_bld X0 hx hZ e0 F0_ (j := ii) (v := (.int (B ni))) (i := ni) (own_nn hi) (own_nat hi) (own_bl_at B (by have := own_ltn hi he hc8; omega)) (g := (mkF m 18 #[.val (.ref t0), .val (.int ss), .val (.int ee), .val (.int hh), .val (.int ii)] [(.int ii), (.ref t0), (.int ((31 : Int32) * hh))])) rfl rfl (hb hby d3_18) _ zk) ?_
        refine own_st (fun zw zk => XS.sipush X0.here hx rfl (hb hby d3_19) zk) ?_
        refine own_st (fun zw zk => XS.iand X0.here hx rfl (hb hby d3_22) rfl zk) ?_
        refine own_st (fun zw zk => XS.iadd X0.here hx rfl (hb hby d3_23) rfl zk) ?_
        refine own_st (fun zw zk => XS.istoreN X0.here hx rfl (hb hby d3_24) rfl rfl zk) ?_
        show own_Go p e below G (s₁.setTop (mkF m 25 #[.val (.ref t0), .val (.int ss), .val (.int ee), .val (.int (((31 : Int32) * hh) + ((B ni) &&& (255 : Int32)))), .val (.int ii)] []))
        refine own_st (fun zw zk => XS.iinc X0.here hx rfl (hb hby d3_25) rfl rfl zk) ?_
        show own_Go p e below G (s₁.setTop (mkF m 28 #[.val (.ref t0), .val (.int ss), .val (.int ee), .val (.int (((31 : Int32) * hh) + ((B ni) &&& (255 : Int32)))), .val (.int (ii + (1 : Int32)))] []))
        refine own_st (fun zw zk => XS.goto X0.here hx rfl (pc0 := 28) (pc' := 5) rfl (hb hby d3_28) (by decide) (by decide) zk) ?_
        show own_Go p e below G (s₁.setTop (mkF m 5 #[.val (.ref t0), .val (.int ss), .val (.int ee), .val (.int (((31 : Int32) * hh) + ((B ni) &&& (255 : Int32)))), .val (.int (ii + (1 : Int32)))] []))
        exact ih (((31 : Int32) * hh) + ((B ni) &&& (255 : Int32))) (ii + (1 : Int32)) (ni + 1) (own_up hi (by omega)) (by have := own_ltn hi he hc8; omega) ((own_hs_step B (own_ltn hi he hc8) hh).symm.trans hinv) (by have := own_ltn hi he hc8; omega)
      · refine own_st (fun zw zk => XS.icmpYes X0.here hx rfl (pc0 := 8) (pc' := 31) rfl (hb hby d3_8) rfl (flt hc8).2.1 (by decide) (by decide) zk) ?_
        refine own_st (fun zw zk => XS.iloadN X0.here hx rfl (hb hby d3_31) rfl zk) ?_
        subst hG
        obtain ⟨fs, hr, hrun, hended, hW, hsame⟩ := X0.leave (v := some (.int hh)) (fun h => by rw [Bd.returns] at h; cases h)
        refine ⟨_, own_retI X0 hx Bd.returns (hb hby d3_32) hr, _, hrun, hended, _, _, rfl, ?_, ⟨_, rfl⟩, hW, hsame.mono (by decide) (by decide)⟩
        show Q3 Z t0 ss ee B ns ne h0 n0 _ s₁.heap _
        rw [e0]
        exact ⟨by rw [← hinv, own_gen hi he hc8]; rfl, N0, rfl⟩
  show own_Go p e below G (s₁.setTop (mkF m 5 #[.val (.ref t0), .val (.int ss), .val (.int ee), .val (.int (0 : Int32)), .val (.int ss)] []))
  exact loop5_2 _ (0 : Int32) ss (ns) (hs) (hse) (rfl) (Nat.lt_succ_self _)
def own_B (q0 : Int64) (j : Nat) : Int32 := ([(((q0.toInt32).toInt8.toInt32).toInt8.toInt32), (((((q0.toUInt64 >>> ((8 : Int32) &&& 0x3f).toInt64.toUInt64).toInt64).toInt32).toInt8.toInt32).toInt8.toInt32), (((((q0.toUInt64 >>> ((16 : Int32) &&& 0x3f).toInt64.toUInt64).toInt64).toInt32).toInt8.toInt32).toInt8.toInt32), (((((q0.toUInt64 >>> ((24 : Int32) &&& 0x3f).toInt64.toUInt64).toInt64).toInt32).toInt8.toInt32).toInt8.toInt32), (((((q0.toUInt64 >>> ((32 : Int32) &&& 0x3f).toInt64.toUInt64).toInt64).toInt32).toInt8.toInt32).toInt8.toInt32), (((((q0.toUInt64 >>> ((40 : Int32) &&& 0x3f).toInt64.toUInt64).toInt64).toInt32).toInt8.toInt32).toInt8.toInt32), (((((q0.toUInt64 >>> ((48 : Int32) &&& 0x3f).toInt64.toUInt64).toInt64).toInt32).toInt8.toInt32).toInt8.toInt32), (((((q0.toUInt64 >>> ((56 : Int32) &&& 0x3f).toInt64.toUInt64).toInt64).toInt32).toInt8.toInt32).toInt8.toInt32)] : List Int32).getD j 0
theorem pd_1 : parseMethodDescriptor "([BIII)I" = some ⟨[(.array .byte), .int, .int, .int], some .int⟩ := by decide +kernel
theorem pd_2 : parseMethodDescriptor "([BII)I" = some ⟨[(.array .byte), .int, .int], some .int⟩ := by decide +kernel
theorem ef_rm0 (m : MethodId) (q0 : Int64) (p1 : Int32) (p2 : Int32) : entryFrame m #[(.long q0), (.int p1), (.int p2)] maxLocals = mkF m 0 #[.val (.long q0), .second, .val (.int p1), .val (.int p2), .unset, .unset, .unset, .unset] [] := by first | rfl | (simp [entryFrame, mkF, argsToLocals, Value.category, maxLocals]; done)
def Q0 (Z : State) (q0 : Int64) (p1 : Int32) (p2 : Int32) (h0 : Heap) (n0 : Nat) (rv : Option Value) (hq : Heap) (Lq : List Loc) : Prop := rv = some (.int 1) ∧ Fr n0 Lq
set_option maxRecDepth 65536 in
set_option maxHeartbeats 40000000 in
theorem rm0 (l : Launch) (Z : State) (a0 : Array Value) (hw : ∀ d ∈ tables_1, d.before a0 Z = true) (ws : List Jvm.Cond) (q0 : Int64) (p1 : Int32) (p2 : Int32) (h0 : Heap) (n0 : Nat) (Z0 : n0 ≤ h0.size) :
    MetFree l x (head1 (Jvm.Cond.code x code maxLocals ret :: ws) room_1) (fun za U => za = #[(.long q0), (.int p1), (.int p2)] ∧ Z.Warmed39 U.vm ∧ U.heap = h0) (fun _ _ _ _ _ => True) (fun _ U o U' => ∃ rv Lq, o = .returned rv ∧ Q0 Z q0 p1 p2 h0 n0 rv U'.heap Lq ∧ FrameEnd U o U' Lq room_1.cells room_1.slots) := by
  refine MetFree.of_bodySF (plainFor_of_name pn_0) hisR ?_
  intro p e s m args below meth c s₁ Bd hml0 hP hK
  obtain ⟨rfl, hZ, hh⟩ := hP
  have hx := Bd.exec
  have hby := Bd.bytes
  have hml : c.maxLocals = 8 := hml0
  have hown : s.vm.findClass "com/example/passau/passau/drawing/IdListHashOfPinLaw" = some m.cls := findClass_of_methodNamed Bd.named
  have hnm := (name_of_methodNamed Bd.named Bd.method).1
  have X0 : Stand p l e room_1 s m #[(.long q0), (.int p1), (.int p2)] below meth c s₁ [] 0 0 := Stand.of_body Bd
  have e0 : s₁.heap = h0 := by rw [← hh, Bd.state]; rfl
  have N0 := Fr.nil n0
  refine own_out (own_nm fun G hG => own_st (fun zt zk => castTop (ef_rm0 m q0 p1 p2) zk) ?_)
  show own_Go p e below G (s₁.setTop (mkF m 0 #[.val (.long q0), .second, .val (.int p1), .val (.int p2), .unset, .unset, .unset, .unset] []))
  refine own_st (fun zw zk => XS.bipush X0.here hx rfl (hb hby at_0) zk) ?_
  obtain ⟨T3, h3, k3, X3, e3, E3, A3, st3⟩ := newP X0 hx hZ (hw _ (List.mem_of_getElem? (i := 0) rfl)) e0 (g := (mkF m 2 #[.val (.long q0), .second, .val (.int p1), .val (.int p2), .unset, .unset, .unset, .unset] [(.int (8 : Int32))])) rfl (hb hby at_2) rfl (by decide) (cap := 8) (by decide) (by decide) (by decide) (by decide)
  obtain ⟨b3, g3⟩ : ∃ z, z = h0.size := ⟨_, rfl⟩
  rw [← g3] at A3 st3
  have G3 : n0 ≤ b3 := Nat.le_trans Z0 (Nat.le_of_eq g3.symm)
  have Z3 : n0 ≤ h3.size := Nat.le_trans Z0 E3.1
  have V3 : own_L Z h3 b3 .byte ([(.int (0 : Int32)), (.int (0 : Int32)), (.int (0 : Int32)), (.int (0 : Int32)), (.int (0 : Int32)), (.int (0 : Int32)), (.int (0 : Int32)), (.int (0 : Int32))]) := own_L.new A3
  refine own_st (fun zw zk => st3 zw zk) ?_
  refine own_st (fun zw zk => XS.astore X3.here hx rfl (hb hby at_4) rfl rfl rfl zk) ?_
  show own_Go p e below G (T3.setTop (mkF m 6 #[.val (.long q0), .second, .val (.int p1), .val (.int p2), .val (.ref b3), .unset, .unset, .unset] []))
  refine own_st (fun zw zk => XS.aload X3.here hx rfl (hb hby at_6) rfl rfl zk) ?_
  refine own_st (fun zw zk => XS.iconst X3.here hx rfl (hb hby at_8) zk) ?_
  refine own_st (fun zw zk => XS.lloadN X3.here hx rfl (hb hby at_9) rfl zk) ?_
  refine own_st (fun zw zk => XS.l2i X3.here hx rfl (hb hby at_10) rfl zk) ?_
  refine own_st (fun zw zk => XS.i2b X3.here hx rfl (hb hby at_11) rfl zk) ?_
  obtain ⟨T4, h4, X4, e4, W4, V4, st4⟩ := own_bst X3 hx hZ e3 V3 (j := (0 : Int32)) (0) (by decide) (by decide) (Nat.le_of_ble_eq_true rfl) (g := (mkF m 12 #[.val (.long q0), .second, .val (.int p1), .val (.int p2), .val (.ref b3), .unset, .unset, .unset] [(.int ((q0.toInt32).toInt8.toInt32)), (.int (0 : Int32)), (.ref b3)])) rfl rfl (hb hby at_12)
  have Vb3_4 : own_L Z h4 b3 .byte ([(.int (((q0.toInt32).toInt8.toInt32).toInt8.toInt32)), (.int (0 : Int32)), (.int (0 : Int32)), (.int (0 : Int32)), (.int (0 : Int32)), (.int (0 : Int32)), (.int (0 : Int32)), (.int (0 : Int32))]) := V4
  have N4 := Fr.snoc X4 N0 G3
  refine own_st (fun zw zk => st4 zw zk) ?_
  have Z4 : n0 ≤ h4.size := Nat.le_trans Z3 (Keep.of_wr W4).1
  refine own_st (fun zw zk => XS.aload X4.here hx rfl (hb hby at_13) rfl rfl zk) ?_
  refine own_st (fun zw zk => XS.iconst X4.here hx rfl (hb hby at_15) zk) ?_
  show own_Go p e below G (T4.setTop (mkF m 16 #[.val (.long q0), .second, .val (.int p1), .val (.int p2), .val (.ref b3), .unset, .unset, .unset] [(.int (1 : Int32)), (.ref b3)]))
  refine own_st (fun zw zk => XS.lloadN X4.here hx rfl (hb hby at_16) rfl zk) ?_
  refine own_st (fun zw zk => XS.bipush X4.here hx rfl (hb hby at_17) zk) ?_
  refine own_st (fun zw zk => XS.lushr X4.here hx rfl (hb hby at_19) rfl zk) ?_
  refine own_st (fun zw zk => XS.l2i X4.here hx rfl (hb hby at_20) rfl zk) ?_
  refine own_st (fun zw zk => XS.i2b X4.here hx rfl (hb hby at_21) rfl zk) ?_
  obtain ⟨T5, h5, X5, e5, W5, V5, st5⟩ := own_bst X4 hx hZ e4 Vb3_4 (j := (1 : Int32)) (1) (by decide) (by decide) (Nat.le_of_ble_eq_true rfl) (g := (mkF m 22 #[.val (.long q0), .second, .val (.int p1), .val (.int p2), .val (.ref b3), .unset, .unset, .unset] [(.int ((((q0.toUInt64 >>> ((8 : Int32) &&& 0x3f).toInt64.toUInt64).toInt64).toInt32).toInt8.toInt32)), (.int (1 : Int32)), (.ref b3)])) rfl rfl (hb hby at_22)
  have Vb3_5 : own_L Z h5 b3 .byte ([(.int (((q0.toInt32).toInt8.toInt32).toInt8.toInt32)), (.int (((((q0.toUInt64 >>> ((8 : Int32) &&& 0x3f).toInt64.toUInt64).toInt64).toInt32).toInt8.toInt32).toInt8.toInt32)), (.int (0 : Int32)), (.int (0 : Int32)), (.int (0 : Int32)), (.int (0 : Int32)), (.int (0 : Int32)), (.int (0 : Int32))]) := V5
  have N5 := Fr.snoc X5 N4 G3
  refine own_st (fun zw zk => st5 zw zk) ?_
  have Z5 : n0 ≤ h5.size := Nat.le_trans Z4 (Keep.of_wr W5).1
  refine own_st (fun zw zk => XS.aload X5.here hx rfl (hb hby at_23) rfl rfl zk) ?_
  refine own_st (fun zw zk => XS.iconst X5.here hx rfl (hb hby at_25) zk) ?_
  show own_Go p e below G (T5.setTop (mkF m 26 #[.val (.long q0), .second, .val (.int p1), .val (.int p2), .val (.ref b3), .unset, .unset, .unset] [(.int (2 : Int32)), (.ref b3)]))
  refine own_st (fun zw zk => XS.lloadN X5.here hx rfl (hb hby at_26) rfl zk) ?_
  refine own_st (fun zw zk => XS.bipush X5.here hx rfl (hb hby at_27) zk) ?_
  refine own_st (fun zw zk => XS.lushr X5.here hx rfl (hb hby at_29) rfl zk) ?_
  refine own_st (fun zw zk => XS.l2i X5.here hx rfl (hb hby at_30) rfl zk) ?_
  refine own_st (fun zw zk => XS.i2b X5.here hx rfl (hb hby at_31) rfl zk) ?_
  obtain ⟨T6, h6, X6, e6, W6, V6, st6⟩ := own_bst X5 hx hZ e5 Vb3_5 (j := (2 : Int32)) (2) (by decide) (by decide) (Nat.le_of_ble_eq_true rfl) (g := (mkF m 32 #[.val (.long q0), .second, .val (.int p1), .val (.int p2), .val (.ref b3), .unset, .unset, .unset] [(.int ((((q0.toUInt64 >>> ((16 : Int32) &&& 0x3f).toInt64.toUInt64).toInt64).toInt32).toInt8.toInt32)), (.int (2 : Int32)), (.ref b3)])) rfl rfl (hb hby at_32)
  have Vb3_6 : own_L Z h6 b3 .byte ([(.int (((q0.toInt32).toInt8.toInt32).toInt8.toInt32)), (.int (((((q0.toUInt64 >>> ((8 : Int32) &&& 0x3f).toInt64.toUInt64).toInt64).toInt32).toInt8.toInt32).toInt8.toInt32)), (.int (((((q0.toUInt64 >>> ((16 : Int32) &&& 0x3f).toInt64.toUInt64).toInt64).toInt32).toInt8.toInt32).toInt8.toInt32)), (.int (0 : Int32)), (.int (0 : Int32)), (.int (0 : Int32)), (.int (0 : Int32)), (.int (0 : Int32))]) := V6
  have N6 := Fr.snoc X6 N5 G3
  refine own_st (fun zw zk => st6 zw zk) ?_
  have Z6 : n0 ≤ h6.size := Nat.le_trans Z5 (Keep.of_wr W6).1
  refine own_st (fun zw zk => XS.aload X6.here hx rfl (hb hby at_33) rfl rfl zk) ?_
  refine own_st (fun zw zk => XS.iconst X6.here hx rfl (hb hby at_35) zk) ?_
  show own_Go p e below G (T6.setTop (mkF m 36 #[.val (.long q0), .second, .val (.int p1), .val (.int p2), .val (.ref b3), .unset, .unset, .unset] [(.int (3 : Int32)), (.ref b3)]))
  refine own_st (fun zw zk => XS.lloadN X6.here hx rfl (hb hby at_36) rfl zk) ?_
  refine own_st (fun zw zk => XS.bipush X6.here hx rfl (hb hby at_37) zk) ?_
  refine own_st (fun zw zk => XS.lushr X6.here hx rfl (hb hby at_39) rfl zk) ?_
  refine own_st (fun zw zk => XS.l2i X6.here hx rfl (hb hby at_40) rfl zk) ?_
  refine own_st (fun zw zk => XS.i2b X6.here hx rfl (hb hby at_41) rfl zk) ?_
  obtain ⟨T7, h7, X7, e7, W7, V7, st7⟩ := own_bst X6 hx hZ e6 Vb3_6 (j := (3 : Int32)) (3) (by decide) (by decide) (Nat.le_of_ble_eq_true rfl) (g := (mkF m 42 #[.val (.long q0), .second, .val (.int p1), .val (.int p2), .val (.ref b3), .unset, .unset, .unset] [(.int ((((q0.toUInt64 >>> ((24 : Int32) &&& 0x3f).toInt64.toUInt64).toInt64).toInt32).toInt8.toInt32)), (.int (3 : Int32)), (.ref b3)])) rfl rfl (hb hby at_42)
  have Vb3_7 : own_L Z h7 b3 .byte ([(.int (((q0.toInt32).toInt8.toInt32).toInt8.toInt32)), (.int (((((q0.toUInt64 >>> ((8 : Int32) &&& 0x3f).toInt64.toUInt64).toInt64).toInt32).toInt8.toInt32).toInt8.toInt32)), (.int (((((q0.toUInt64 >>> ((16 : Int32) &&& 0x3f).toInt64.toUInt64).toInt64).toInt32).toInt8.toInt32).toInt8.toInt32)), (.int (((((q0.toUInt64 >>> ((24 : Int32) &&& 0x3f).toInt64.toUInt64).toInt64).toInt32).toInt8.toInt32).toInt8.toInt32)), (.int (0 : Int32)), (.int (0 : Int32)), (.int (0 : Int32)), (.int (0 : Int32))]) := V7
  have N7 := Fr.snoc X7 N6 G3
  refine own_st (fun zw zk => st7 zw zk) ?_
  have Z7 : n0 ≤ h7.size := Nat.le_trans Z6 (Keep.of_wr W7).1
  refine own_st (fun zw zk => XS.aload X7.here hx rfl (hb hby at_43) rfl rfl zk) ?_
  refine own_st (fun zw zk => XS.iconst X7.here hx rfl (hb hby at_45) zk) ?_
  show own_Go p e below G (T7.setTop (mkF m 46 #[.val (.long q0), .second, .val (.int p1), .val (.int p2), .val (.ref b3), .unset, .unset, .unset] [(.int (4 : Int32)), (.ref b3)]))
  refine own_st (fun zw zk => XS.lloadN X7.here hx rfl (hb hby at_46) rfl zk) ?_
  refine own_st (fun zw zk => XS.bipush X7.here hx rfl (hb hby at_47) zk) ?_
  refine own_st (fun zw zk => XS.lushr X7.here hx rfl (hb hby at_49) rfl zk) ?_
  refine own_st (fun zw zk => XS.l2i X7.here hx rfl (hb hby at_50) rfl zk) ?_
  refine own_st (fun zw zk => XS.i2b X7.here hx rfl (hb hby at_51) rfl zk) ?_
  obtain ⟨T8, h8, X8, e8, W8, V8, st8⟩ := own_bst X7 hx hZ e7 Vb3_7 (j := (4 : Int32)) (4) (by decide) (by decide) (Nat.le_of_ble_eq_true rfl) (g := (mkF m 52 #[.val (.long q0), .second, .val (.int p1), .val (.int p2), .val (.ref b3), .unset, .unset, .unset] [(.int ((((q0.toUInt64 >>> ((32 : Int32) &&& 0x3f).toInt64.toUInt64).toInt64).toInt32).toInt8.toInt32)), (.int (4 : Int32)), (.ref b3)])) rfl rfl (hb hby at_52)
  have Vb3_8 : own_L Z h8 b3 .byte ([(.int (((q0.toInt32).toInt8.toInt32).toInt8.toInt32)), (.int (((((q0.toUInt64 >>> ((8 : Int32) &&& 0x3f).toInt64.toUInt64).toInt64).toInt32).toInt8.toInt32).toInt8.toInt32)), (.int (((((q0.toUInt64 >>> ((16 : Int32) &&& 0x3f).toInt64.toUInt64).toInt64).toInt32).toInt8.toInt32).toInt8.toInt32)), (.int (((((q0.toUInt64 >>> ((24 : Int32) &&& 0x3f).toInt64.toUInt64).toInt64).toInt32).toInt8.toInt32).toInt8.toInt32)), (.int (((((q0.toUInt64 >>> ((32 : Int32) &&& 0x3f).toInt64.toUInt64).toInt64).toInt32).toInt8.toInt32).toInt8.toInt32)), (.int (0 : Int32)), (.int (0 : Int32)), (.int (0 : Int32))]) := V8
  have N8 := Fr.snoc X8 N7 G3
  refine own_st (fun zw zk => st8 zw zk) ?_
  have Z8 : n0 ≤ h8.size := Nat.le_trans Z7 (Keep.of_wr W8).1
  refine own_st (fun zw zk => XS.aload X8.here hx rfl (hb hby at_53) rfl rfl zk) ?_
  refine own_st (fun zw zk => XS.iconst X8.here hx rfl (hb hby at_55) zk) ?_
  show own_Go p e below G (T8.setTop (mkF m 56 #[.val (.long q0), .second, .val (.int p1), .val (.int p2), .val (.ref b3), .unset, .unset, .unset] [(.int (5 : Int32)), (.ref b3)]))
  refine own_st (fun zw zk => XS.lloadN X8.here hx rfl (hb hby at_56) rfl zk) ?_
  refine own_st (fun zw zk => XS.bipush X8.here hx rfl (hb hby at_57) zk) ?_
  refine own_st (fun zw zk => XS.lushr X8.here hx rfl (hb hby at_59) rfl zk) ?_
  refine own_st (fun zw zk => XS.l2i X8.here hx rfl (hb hby at_60) rfl zk) ?_
  refine own_st (fun zw zk => XS.i2b X8.here hx rfl (hb hby at_61) rfl zk) ?_
  obtain ⟨T9, h9, X9, e9, W9, V9, st9⟩ := own_bst X8 hx hZ e8 Vb3_8 (j := (5 : Int32)) (5) (by decide) (by decide) (Nat.le_of_ble_eq_true rfl) (g := (mkF m 62 #[.val (.long q0), .second, .val (.int p1), .val (.int p2), .val (.ref b3), .unset, .unset, .unset] [(.int ((((q0.toUInt64 >>> ((40 : Int32) &&& 0x3f).toInt64.toUInt64).toInt64).toInt32).toInt8.toInt32)), (.int (5 : Int32)), (.ref b3)])) rfl rfl (hb hby at_62)
  have Vb3_9 : own_L Z h9 b3 .byte ([(.int (((q0.toInt32).toInt8.toInt32).toInt8.toInt32)), (.int (((((q0.toUInt64 >>> ((8 : Int32) &&& 0x3f).toInt64.toUInt64).toInt64).toInt32).toInt8.toInt32).toInt8.toInt32)), (.int (((((q0.toUInt64 >>> ((16 : Int32) &&& 0x3f).toInt64.toUInt64).toInt64).toInt32).toInt8.toInt32).toInt8.toInt32)), (.int (((((q0.toUInt64 >>> ((24 : Int32) &&& 0x3f).toInt64.toUInt64).toInt64).toInt32).toInt8.toInt32).toInt8.toInt32)), (.int (((((q0.toUInt64 >>> ((32 : Int32) &&& 0x3f).toInt64.toUInt64).toInt64).toInt32).toInt8.toInt32).toInt8.toInt32)), (.int (((((q0.toUInt64 >>> ((40 : Int32) &&& 0x3f).toInt64.toUInt64).toInt64).toInt32).toInt8.toInt32).toInt8.toInt32)), (.int (0 : Int32)), (.int (0 : Int32))]) := V9
  have N9 := Fr.snoc X9 N8 G3
  refine own_st (fun zw zk => st9 zw zk) ?_
  have Z9 : n0 ≤ h9.size := Nat.le_trans Z8 (Keep.of_wr W9).1
  refine own_st (fun zw zk => XS.aload X9.here hx rfl (hb hby at_63) rfl rfl zk) ?_
  refine own_st (fun zw zk => XS.bipush X9.here hx rfl (hb hby at_65) zk) ?_
  show own_Go p e below G (T9.setTop (mkF m 67 #[.val (.long q0), .second, .val (.int p1), .val (.int p2), .val (.ref b3), .unset, .unset, .unset] [(.int (6 : Int32)), (.ref b3)]))
  refine own_st (fun zw zk => XS.lloadN X9.here hx rfl (hb hby at_67) rfl zk) ?_
  refine own_st (fun zw zk => XS.bipush X9.here hx rfl (hb hby at_68) zk) ?_
  refine own_st (fun zw zk => XS.lushr X9.here hx rfl (hb hby at_70) rfl zk) ?_
  refine own_st (fun zw zk => XS.l2i X9.here hx rfl (hb hby at_71) rfl zk) ?_
  refine own_st (fun zw zk => XS.i2b X9.here hx rfl (hb hby at_72) rfl zk) ?_
  obtain ⟨T10, h10, X10, e10, W10, V10, st10⟩ := own_bst X9 hx hZ e9 Vb3_9 (j := (6 : Int32)) (6) (by decide) (by decide) (Nat.le_of_ble_eq_true rfl) (g := (mkF m 73 #[.val (.long q0), .second, .val (.int p1), .val (.int p2), .val (.ref b3), .unset, .unset, .unset] [(.int ((((q0.toUInt64 >>> ((48 : Int32) &&& 0x3f).toInt64.toUInt64).toInt64).toInt32).toInt8.toInt32)), (.int (6 : Int32)), (.ref b3)])) rfl rfl (hb hby at_73)
  have Vb3_10 : own_L Z h10 b3 .byte ([(.int (((q0.toInt32).toInt8.toInt32).toInt8.toInt32)), (.int (((((q0.toUInt64 >>> ((8 : Int32) &&& 0x3f).toInt64.toUInt64).toInt64).toInt32).toInt8.toInt32).toInt8.toInt32)), (.int (((((q0.toUInt64 >>> ((16 : Int32) &&& 0x3f).toInt64.toUInt64).toInt64).toInt32).toInt8.toInt32).toInt8.toInt32)), (.int (((((q0.toUInt64 >>> ((24 : Int32) &&& 0x3f).toInt64.toUInt64).toInt64).toInt32).toInt8.toInt32).toInt8.toInt32)), (.int (((((q0.toUInt64 >>> ((32 : Int32) &&& 0x3f).toInt64.toUInt64).toInt64).toInt32).toInt8.toInt32).toInt8.toInt32)), (.int (((((q0.toUInt64 >>> ((40 : Int32) &&& 0x3f).toInt64.toUInt64).toInt64).toInt32).toInt8.toInt32).toInt8.toInt32)), (.int (((((q0.toUInt64 >>> ((48 : Int32) &&& 0x3f).toInt64.toUInt64).toInt64).toInt32).toInt8.toInt32).toInt8.toInt32)), (.int (0 : Int32))]) := V10
  have N10 := Fr.snoc X10 N9 G3
  refine own_st (fun zw zk => st10 zw zk) ?_
  have Z10 : n0 ≤ h10.size := Nat.le_trans Z9 (Keep.of_wr W10).1
  refine own_st (fun zw zk => XS.aload X10.here hx rfl (hb hby at_74) rfl rfl zk) ?_
  refine own_st (fun zw zk => XS.bipush X10.here hx rfl (hb hby at_76) zk) ?_
  show own_Go p e below G (T10.setTop (mkF m 78 #[.val (.long q0), .second, .val (.int p1), .val (.int p2), .val (.ref b3), .unset, .unset, .unset] [(.int (7 : Int32)), (.ref b3)]))
  refine own_st (fun zw zk => XS.lloadN X10.here hx rfl (hb hby at_78) rfl zk) ?_
  refine own_st (fun zw zk => XS.bipush X10.here hx rfl (hb hby at_79) zk) ?_
  refine own_st (fun zw zk => XS.lushr X10.here hx rfl (hb hby at_81) rfl zk) ?_
  refine own_st (fun zw zk => XS.l2i X10.here hx rfl (hb hby at_82) rfl zk) ?_
  refine own_st (fun zw zk => XS.i2b X10.here hx rfl (hb hby at_83) rfl zk) ?_
  obtain ⟨T11, h11, X11, e11, W11, V11, st11⟩ := own_bst X10 hx hZ e10 Vb3_10 (j := (7 : Int32)) (7) (by decide) (by decide) (Nat.le_of_ble_eq_true rfl) (g := (mkF m 84 #[.val (.long q0), .second, .val (.int p1), .val (.int p2), .val (.ref b3), .unset, .unset, .unset] [(.int ((((q0.toUInt64 >>> ((56 : Int32) &&& 0x3f).toInt64.toUInt64).toInt64).toInt32).toInt8.toInt32)), (.int (7 : Int32)), (.ref b3)])) rfl rfl (hb hby at_84)
  have Vb3_11 : own_L Z h11 b3 .byte ([(.int (((q0.toInt32).toInt8.toInt32).toInt8.toInt32)), (.int (((((q0.toUInt64 >>> ((8 : Int32) &&& 0x3f).toInt64.toUInt64).toInt64).toInt32).toInt8.toInt32).toInt8.toInt32)), (.int (((((q0.toUInt64 >>> ((16 : Int32) &&& 0x3f).toInt64.toUInt64).toInt64).toInt32).toInt8.toInt32).toInt8.toInt32)), (.int (((((q0.toUInt64 >>> ((24 : Int32) &&& 0x3f).toInt64.toUInt64).toInt64).toInt32).toInt8.toInt32).toInt8.toInt32)), (.int (((((q0.toUInt64 >>> ((32 : Int32) &&& 0x3f).toInt64.toUInt64).toInt64).toInt32).toInt8.toInt32).toInt8.toInt32)), (.int (((((q0.toUInt64 >>> ((40 : Int32) &&& 0x3f).toInt64.toUInt64).toInt64).toInt32).toInt8.toInt32).toInt8.toInt32)), (.int (((((q0.toUInt64 >>> ((48 : Int32) &&& 0x3f).toInt64.toUInt64).toInt64).toInt32).toInt8.toInt32).toInt8.toInt32)), (.int (((((q0.toUInt64 >>> ((56 : Int32) &&& 0x3f).toInt64.toUInt64).toInt64).toInt32).toInt8.toInt32).toInt8.toInt32))]) := V11
  have N11 := Fr.snoc X11 N10 G3
  refine own_st (fun zw zk => st11 zw zk) ?_
  have Z11 : n0 ≤ h11.size := Nat.le_trans Z10 (Keep.of_wr W11).1
  have VB : own_L Z h11 b3 .byte (own_bl (own_B q0) 8) := Vb3_11
  refine own_st (fun zw zk => XS.iloadN X11.here hx rfl (hb hby at_85) rfl zk) ?_
  refine own_st (fun zw zk => X11.ldcInt hx hown (mvT hZ (hw _ (List.mem_of_getElem? (i := 1) rfl))) (g := (mkF m 86 #[.val (.long q0), .second, .val (.int p1), .val (.int p2), .val (.ref b3), .unset, .unset, .unset] [(.int p1)])) rfl (hb hby at_86) _ zk) ?_
  show own_Go p e below G (T11.setTop (mkF m 88 #[.val (.long q0), .second, .val (.int p1), .val (.int p2), .val (.ref b3), .unset, .unset, .unset] [(.int (2147483647 : Int32)), (.int p1)]))
  refine own_st (fun zw zk => XS.iand X11.here hx rfl (hb hby at_88) rfl zk) ?_
  refine own_st (fun zw zk => XS.bipush X11.here hx rfl (hb hby at_89) zk) ?_
  refine own_st (fun zw zk => iremM X11 hx rfl (hb hby at_91) rfl (by decide) zk) ?_
  refine own_st (fun zw zk => XS.istore X11.here hx rfl (hb hby at_92) rfl rfl zk) ?_
  show own_Go p e below G (T11.setTop (mkF m 94 #[.val (.long q0), .second, .val (.int p1), .val (.int p2), .val (.ref b3), .val (.int ((p1 &&& (2147483647 : Int32)) % (9 : Int32))), .unset, .unset] []))
  generalize hsn : ((p1 &&& (2147483647 : Int32)) % (9 : Int32)) = sn
  obtain ⟨ns, hns, hns8⟩ : ∃ ns : Nat, sn.toInt = ns ∧ ns ≤ 8 := hsn ▸ own_start p1
  refine own_st (fun zw zk => XS.iload X11.here hx rfl (hb hby at_94) rfl zk) ?_
  refine own_st (fun zw zk => XS.iloadN X11.here hx rfl (hb hby at_96) rfl zk) ?_
  refine own_st (fun zw zk => X11.ldcInt hx hown (mvT hZ (hw _ (List.mem_of_getElem? (i := 1) rfl))) (g := (mkF m 97 #[.val (.long q0), .second, .val (.int p1), .val (.int p2), .val (.ref b3), .val (.int sn), .unset, .unset] [(.int p2), (.int sn)])) rfl (hb hby at_97) _ zk) ?_
  refine own_st (fun zw zk => XS.iand X11.here hx rfl (hb hby at_99) rfl zk) ?_
  refine own_st (fun zw zk => XS.bipush X11.here hx rfl (hb hby at_100) zk) ?_
  refine own_st (fun zw zk => XS.iload X11.here hx rfl (hb hby at_102) rfl zk) ?_
  refine own_st (fun zw zk => XS.isub X11.here hx rfl (hb hby at_104) rfl zk) ?_
  refine own_st (fun zw zk => iremM X11 hx rfl (hb hby at_105) rfl (own_nz9 hns hns8) zk) ?_
  show own_Go p e below G (T11.setTop (mkF m 106 #[.val (.long q0), .second, .val (.int p1), .val (.int p2), .val (.ref b3), .val (.int sn), .unset, .unset] [(.int ((p2 &&& (2147483647 : Int32)) % ((9 : Int32) - sn))), (.int sn)]))
  refine own_st (fun zw zk => XS.iadd X11.here hx rfl (hb hby at_106) rfl zk) ?_
  refine own_st (fun zw zk => XS.istore X11.here hx rfl (hb hby at_107) rfl rfl zk) ?_
  show own_Go p e below G (T11.setTop (mkF m 109 #[.val (.long q0), .second, .val (.int p1), .val (.int p2), .val (.ref b3), .val (.int sn), .val (.int (sn + ((p2 &&& (2147483647 : Int32)) % ((9 : Int32) - sn)))), .unset] []))
  generalize hen : (sn + ((p2 &&& (2147483647 : Int32)) % ((9 : Int32) - sn))) = en
  obtain ⟨ne, hne, hse, hne8⟩ : ∃ ne : Nat, en.toInt = ne ∧ ns ≤ ne ∧ ne ≤ 8 := hen ▸ own_stop p2 hns hns8
  refine own_st (fun zw zk => XS.aload X11.here hx rfl (hb hby at_109) rfl rfl zk) ?_
  refine own_st (fun zw zk => XS.iconst X11.here hx rfl (hb hby at_111) zk) ?_
  refine own_st (fun zw zk => XS.iload X11.here hx rfl (hb hby at_112) rfl zk) ?_
  refine own_st (fun zw zk => XS.iload X11.here hx rfl (hb hby at_114) rfl zk) ?_
  obtain ⟨_, _, ⟨T12, L12, k12, n12⟩, -, X12, ⟨Lc12, hQ12, l12, y12, z12⟩, st12⟩ := Jvm.LawKit.callS X11 hx (y := (⟨"com/example/passau/passau/drawing/IdListHashOfPinLaw", "term", "([BIII)I"⟩ : MethodName)) hown (mvT hZ (hw _ (List.mem_of_getElem? (i := 2) rfl))) (mvT hZ (hw _ (List.mem_of_getElem? (i := 3) rfl))) (mvT hZ (hw _ (List.mem_of_getElem? (i := 4) rfl))) (mvT hZ (hw _ (List.mem_of_getElem? (i := 5) rfl))) (by decide) (backOf (W := 0) (rm1 l Z a0 hw [] b3 (0 : Int32) sn en (own_B q0) 0 h11 n0 Z11 (VB) (by decide) (by decide) (by decide)) hZ (hw _ (List.mem_of_getElem? (i := 5) rfl)) (hw _ (List.mem_of_getElem? (i := 4) rfl)) (by decide) (by decide)) (g := (mkF m 116 #[.val (.long q0), .second, .val (.int p1), .val (.int p2), .val (.ref b3), .val (.int sn), .val (.int en), .unset] [(.int en), (.int sn), (.int (0 : Int32)), (.ref b3)])) rfl (by rw [hml]; rfl) (argsL := [(.ref b3), (.int (0 : Int32)), (.int sn), (.int en)]) (rest := []) (lenOf pd_1 rfl) rfl (by show 2 * 0 + _ ≤ _; exact Nat.le_of_eq rfl) (hb hby at_116) (fun _ _ => ⟨rfl, e11, (by decide : 1 + 0 ≤ _), (by decide : 8 + 0 ≤ _)⟩)
  dsimp only [Pt.U, Pt.locs, Pt.cells, Pt.slots] at X12 l12 y12 z12 st12 hQ12
  subst l12 y12 z12
  obtain ⟨rfl, N12q, e12⟩ := hQ12
  have N12 := Fr.app N11 N12q
  refine own_st (fun zw zk => st12 zw zk) ?_
  refine own_st (fun zw zk => XS.aload X12.here hx rfl (hb hby at_119) rfl rfl zk) ?_
  refine own_st (fun zw zk => XS.iconst X12.here hx rfl (hb hby at_121) zk) ?_
  refine own_st (fun zw zk => XS.iload X12.here hx rfl (hb hby at_122) rfl zk) ?_
  show own_Go p e below G (T12.setTop (mkF m 124 #[.val (.long q0), .second, .val (.int p1), .val (.int p2), .val (.ref b3), .val (.int sn), .val (.int en), .unset] [(.int sn), (.int (1 : Int32)), (.ref b3), (.int (own_term (own_B q0) 0 (0 : Int32) sn en))]))
  refine own_st (fun zw zk => XS.iload X12.here hx rfl (hb hby at_124) rfl zk) ?_
  obtain ⟨_, _, ⟨T13, L13, k13, n13⟩, -, X13, ⟨Lc13, hQ13, l13, y13, z13⟩, st13⟩ := Jvm.LawKit.callS X12 hx (y := (⟨"com/example/passau/passau/drawing/IdListHashOfPinLaw", "term", "([BIII)I"⟩ : MethodName)) hown (mvT hZ (hw _ (List.mem_of_getElem? (i := 2) rfl))) (mvT hZ (hw _ (List.mem_of_getElem? (i := 3) rfl))) (mvT hZ (hw _ (List.mem_of_getElem? (i := 4) rfl))) (mvT hZ (hw _ (List.mem_of_getElem? (i := 5) rfl))) (by decide) (backOf (W := 1) (rm1 l Z a0 hw [] b3 (1 : Int32) sn en (own_B q0) 1 h11 n0 Z11 (VB) (by decide) (by decide) (by decide)) hZ (hw _ (List.mem_of_getElem? (i := 5) rfl)) (hw _ (List.mem_of_getElem? (i := 4) rfl)) (by decide) (by decide)) (g := (mkF m 126 #[.val (.long q0), .second, .val (.int p1), .val (.int p2), .val (.ref b3), .val (.int sn), .val (.int en), .unset] [(.int en), (.int sn), (.int (1 : Int32)), (.ref b3), (.int (own_term (own_B q0) 0 (0 : Int32) sn en))])) rfl (by rw [hml]; rfl) (argsL := [(.ref b3), (.int (1 : Int32)), (.int sn), (.int en)]) (rest := [(.int (own_term (own_B q0) 0 (0 : Int32) sn en))]) (lenOf pd_1 rfl) rfl (by show 2 * 0 + _ ≤ _; exact Nat.le_of_eq rfl) (hb hby at_126) (fun _ _ => ⟨rfl, e12, (by decide : 1 + 0 ≤ _), (by decide : 8 + 0 ≤ _)⟩)
  dsimp only [Pt.U, Pt.locs, Pt.cells, Pt.slots] at X13 l13 y13 z13 st13 hQ13
  subst l13 y13 z13
  obtain ⟨rfl, N13q, e13⟩ := hQ13
  have N13 := Fr.app N12 N13q
  refine own_st (fun zw zk => st13 zw zk) ?_
  refine own_st (fun zw zk => XS.iadd X13.here hx rfl (hb hby at_129) rfl zk) ?_
  refine own_st (fun zw zk => XS.aload X13.here hx rfl (hb hby at_130) rfl rfl zk) ?_
  refine own_st (fun zw zk => XS.iconst X13.here hx rfl (hb hby at_132) zk) ?_
  refine own_st (fun zw zk => XS.iload X13.here hx rfl (hb hby at_133) rfl zk) ?_
  refine own_st (fun zw zk => XS.iload X13.here hx rfl (hb hby at_135) rfl zk) ?_
  obtain ⟨_, _, ⟨T14, L14, k14, n14⟩, -, X14, ⟨Lc14, hQ14, l14, y14, z14⟩, st14⟩ := Jvm.LawKit.callS X13 hx (y := (⟨"com/example/passau/passau/drawing/IdListHashOfPinLaw", "term", "([BIII)I"⟩ : MethodName)) hown (mvT hZ (hw _ (List.mem_of_getElem? (i := 2) rfl))) (mvT hZ (hw _ (List.mem_of_getElem? (i := 3) rfl))) (mvT hZ (hw _ (List.mem_of_getElem? (i := 4) rfl))) (mvT hZ (hw _ (List.mem_of_getElem? (i := 5) rfl))) (by decide) (backOf (W := 1) (rm1 l Z a0 hw [] b3 (2 : Int32) sn en (own_B q0) 2 h11 n0 Z11 (VB) (by decide) (by decide) (by decide)) hZ (hw _ (List.mem_of_getElem? (i := 5) rfl)) (hw _ (List.mem_of_getElem? (i := 4) rfl)) (by decide) (by decide)) (g := (mkF m 137 #[.val (.long q0), .second, .val (.int p1), .val (.int p2), .val (.ref b3), .val (.int sn), .val (.int en), .unset] [(.int en), (.int sn), (.int (2 : Int32)), (.ref b3), (.int ((own_term (own_B q0) 0 (0 : Int32) sn en) + (own_term (own_B q0) 1 (1 : Int32) sn en)))])) rfl (by rw [hml]; rfl) (argsL := [(.ref b3), (.int (2 : Int32)), (.int sn), (.int en)]) (rest := [(.int ((own_term (own_B q0) 0 (0 : Int32) sn en) + (own_term (own_B q0) 1 (1 : Int32) sn en)))]) (lenOf pd_1 rfl) rfl (by show 2 * 0 + _ ≤ _; exact Nat.le_of_eq rfl) (hb hby at_137) (fun _ _ => ⟨rfl, e13, (by decide : 1 + 0 ≤ _), (by decide : 8 + 0 ≤ _)⟩)
  dsimp only [Pt.U, Pt.locs, Pt.cells, Pt.slots] at X14 l14 y14 z14 st14 hQ14
  subst l14 y14 z14
  obtain ⟨rfl, N14q, e14⟩ := hQ14
  have N14 := Fr.app N13 N14q
  refine own_st (fun zw zk => st14 zw zk) ?_
  show own_Go p e below G (T14.setTop (mkF m 140 #[.val (.long q0), .second, .val (.int p1), .val (.int p2), .val (.ref b3), .val (.int sn), .val (.int en), .unset] [(.int (own_term (own_B q0) 2 (2 : Int32) sn en)), (.int ((own_term (own_B q0) 0 (0 : Int32) sn en) + (own_term (own_B q0) 1 (1 : Int32) sn en)))]))
  refine own_st (fun zw zk => XS.iadd X14.here hx rfl (hb hby at_140) rfl zk) ?_
  refine own_st (fun zw zk => XS.aload X14.here hx rfl (hb hby at_141) rfl rfl zk) ?_
  refine own_st (fun zw zk => XS.iconst X14.here hx rfl (hb hby at_143) zk) ?_
  refine own_st (fun zw zk => XS.iload X14.here hx rfl (hb hby at_144) rfl zk) ?_
  refine own_st (fun zw zk => XS.iload X14.here hx rfl (hb hby at_146) rfl zk) ?_
  obtain ⟨_, _, ⟨T15, L15, k15, n15⟩, -, X15, ⟨Lc15, hQ15, l15, y15, z15⟩, st15⟩ := Jvm.LawKit.callS X14 hx (y := (⟨"com/example/passau/passau/drawing/IdListHashOfPinLaw", "term", "([BIII)I"⟩ : MethodName)) hown (mvT hZ (hw _ (List.mem_of_getElem? (i := 2) rfl))) (mvT hZ (hw _ (List.mem_of_getElem? (i := 3) rfl))) (mvT hZ (hw _ (List.mem_of_getElem? (i := 4) rfl))) (mvT hZ (hw _ (List.mem_of_getElem? (i := 5) rfl))) (by decide) (backOf (W := 1) (rm1 l Z a0 hw [] b3 (3 : Int32) sn en (own_B q0) 3 h11 n0 Z11 (VB) (by decide) (by decide) (by decide)) hZ (hw _ (List.mem_of_getElem? (i := 5) rfl)) (hw _ (List.mem_of_getElem? (i := 4) rfl)) (by decide) (by decide)) (g := (mkF m 148 #[.val (.long q0), .second, .val (.int p1), .val (.int p2), .val (.ref b3), .val (.int sn), .val (.int en), .unset] [(.int en), (.int sn), (.int (3 : Int32)), (.ref b3), (.int (((own_term (own_B q0) 0 (0 : Int32) sn en) + (own_term (own_B q0) 1 (1 : Int32) sn en)) + (own_term (own_B q0) 2 (2 : Int32) sn en)))])) rfl (by rw [hml]; rfl) (argsL := [(.ref b3), (.int (3 : Int32)), (.int sn), (.int en)]) (rest := [(.int (((own_term (own_B q0) 0 (0 : Int32) sn en) + (own_term (own_B q0) 1 (1 : Int32) sn en)) + (own_term (own_B q0) 2 (2 : Int32) sn en)))]) (lenOf pd_1 rfl) rfl (by show 2 * 0 + _ ≤ _; exact Nat.le_of_eq rfl) (hb hby at_148) (fun _ _ => ⟨rfl, e14, (by decide : 1 + 0 ≤ _), (by decide : 8 + 0 ≤ _)⟩)
  dsimp only [Pt.U, Pt.locs, Pt.cells, Pt.slots] at X15 l15 y15 z15 st15 hQ15
  subst l15 y15 z15
  obtain ⟨rfl, N15q, e15⟩ := hQ15
  have N15 := Fr.app N14 N15q
  refine own_st (fun zw zk => st15 zw zk) ?_
  refine own_st (fun zw zk => XS.iadd X15.here hx rfl (hb hby at_151) rfl zk) ?_
  refine own_st (fun zw zk => XS.aload X15.here hx rfl (hb hby at_152) rfl rfl zk) ?_
  show own_Go p e below G (T15.setTop (mkF m 154 #[.val (.long q0), .second, .val (.int p1), .val (.int p2), .val (.ref b3), .val (.int sn), .val (.int en), .unset] [(.ref b3), (.int ((((own_term (own_B q0) 0 (0 : Int32) sn en) + (own_term (own_B q0) 1 (1 : Int32) sn en)) + (own_term (own_B q0) 2 (2 : Int32) sn en)) + (own_term (own_B q0) 3 (3 : Int32) sn en)))]))
  refine own_st (fun zw zk => XS.iconst X15.here hx rfl (hb hby at_154) zk) ?_
  refine own_st (fun zw zk => XS.iload X15.here hx rfl (hb hby at_155) rfl zk) ?_
  refine own_st (fun zw zk => XS.iload X15.here hx rfl (hb hby at_157) rfl zk) ?_
  obtain ⟨_, _, ⟨T16, L16, k16, n16⟩, -, X16, ⟨Lc16, hQ16, l16, y16, z16⟩, st16⟩ := Jvm.LawKit.callS X15 hx (y := (⟨"com/example/passau/passau/drawing/IdListHashOfPinLaw", "term", "([BIII)I"⟩ : MethodName)) hown (mvT hZ (hw _ (List.mem_of_getElem? (i := 2) rfl))) (mvT hZ (hw _ (List.mem_of_getElem? (i := 3) rfl))) (mvT hZ (hw _ (List.mem_of_getElem? (i := 4) rfl))) (mvT hZ (hw _ (List.mem_of_getElem? (i := 5) rfl))) (by decide) (backOf (W := 1) (rm1 l Z a0 hw [] b3 (4 : Int32) sn en (own_B q0) 4 h11 n0 Z11 (VB) (by decide) (by decide) (by decide)) hZ (hw _ (List.mem_of_getElem? (i := 5) rfl)) (hw _ (List.mem_of_getElem? (i := 4) rfl)) (by decide) (by decide)) (g := (mkF m 159 #[.val (.long q0), .second, .val (.int p1), .val (.int p2), .val (.ref b3), .val (.int sn), .val (.int en), .unset] [(.int en), (.int sn), (.int (4 : Int32)), (.ref b3), (.int ((((own_term (own_B q0) 0 (0 : Int32) sn en) + (own_term (own_B q0) 1 (1 : Int32) sn en)) + (own_term (own_B q0) 2 (2 : Int32) sn en)) + (own_term (own_B q0) 3 (3 : Int32) sn en)))])) rfl (by rw [hml]; rfl) (argsL := [(.ref b3), (.int (4 : Int32)), (.int sn), (.int en)]) (rest := [(.int ((((own_term (own_B q0) 0 (0 : Int32) sn en) + (own_term (own_B q0) 1 (1 : Int32) sn en)) + (own_term (own_B q0) 2 (2 : Int32) sn en)) + (own_term (own_B q0) 3 (3 : Int32) sn en)))]) (lenOf pd_1 rfl) rfl (by show 2 * 0 + _ ≤ _; exact Nat.le_of_eq rfl) (hb hby at_159) (fun _ _ => ⟨rfl, e15, (by decide : 1 + 0 ≤ _), (by decide : 8 + 0 ≤ _)⟩)
  dsimp only [Pt.U, Pt.locs, Pt.cells, Pt.slots] at X16 l16 y16 z16 st16 hQ16
  subst l16 y16 z16
  obtain ⟨rfl, N16q, e16⟩ := hQ16
  have N16 := Fr.app N15 N16q
  refine own_st (fun zw zk => st16 zw zk) ?_
  refine own_st (fun zw zk => XS.iadd X16.here hx rfl (hb hby at_162) rfl zk) ?_
  refine own_st (fun zw zk => XS.aload X16.here hx rfl (hb hby at_163) rfl rfl zk) ?_
  refine own_st (fun zw zk => XS.iconst X16.here hx rfl (hb hby at_165) zk) ?_
  refine own_st (fun zw zk => XS.iload X16.here hx rfl (hb hby at_166) rfl zk) ?_
  show own_Go p e below G (T16.setTop (mkF m 168 #[.val (.long q0), .second, .val (.int p1), .val (.int p2), .val (.ref b3), .val (.int sn), .val (.int en), .unset] [(.int sn), (.int (5 : Int32)), (.ref b3), (.int (((((own_term (own_B q0) 0 (0 : Int32) sn en) + (own_term (own_B q0) 1 (1 : Int32) sn en)) + (own_term (own_B q0) 2 (2 : Int32) sn en)) + (own_term (own_B q0) 3 (3 : Int32) sn en)) + (own_term (own_B q0) 4 (4 : Int32) sn en)))]))
  refine own_st (fun zw zk => XS.iload X16.here hx rfl (hb hby at_168) rfl zk) ?_
  obtain ⟨_, _, ⟨T17, L17, k17, n17⟩, -, X17, ⟨Lc17, hQ17, l17, y17, z17⟩, st17⟩ := Jvm.LawKit.callS X16 hx (y := (⟨"com/example/passau/passau/drawing/IdListHashOfPinLaw", "term", "([BIII)I"⟩ : MethodName)) hown (mvT hZ (hw _ (List.mem_of_getElem? (i := 2) rfl))) (mvT hZ (hw _ (List.mem_of_getElem? (i := 3) rfl))) (mvT hZ (hw _ (List.mem_of_getElem? (i := 4) rfl))) (mvT hZ (hw _ (List.mem_of_getElem? (i := 5) rfl))) (by decide) (backOf (W := 1) (rm1 l Z a0 hw [] b3 (5 : Int32) sn en (own_B q0) 5 h11 n0 Z11 (VB) (by decide) (by decide) (by decide)) hZ (hw _ (List.mem_of_getElem? (i := 5) rfl)) (hw _ (List.mem_of_getElem? (i := 4) rfl)) (by decide) (by decide)) (g := (mkF m 170 #[.val (.long q0), .second, .val (.int p1), .val (.int p2), .val (.ref b3), .val (.int sn), .val (.int en), .unset] [(.int en), (.int sn), (.int (5 : Int32)), (.ref b3), (.int (((((own_term (own_B q0) 0 (0 : Int32) sn en) + (own_term (own_B q0) 1 (1 : Int32) sn en)) + (own_term (own_B q0) 2 (2 : Int32) sn en)) + (own_term (own_B q0) 3 (3 : Int32) sn en)) + (own_term (own_B q0) 4 (4 : Int32) sn en)))])) rfl (by rw [hml]; rfl) (argsL := [(.ref b3), (.int (5 : Int32)), (.int sn), (.int en)]) (rest := [(.int (((((own_term (own_B q0) 0 (0 : Int32) sn en) + (own_term (own_B q0) 1 (1 : Int32) sn en)) + (own_term (own_B q0) 2 (2 : Int32) sn en)) + (own_term (own_B q0) 3 (3 : Int32) sn en)) + (own_term (own_B q0) 4 (4 : Int32) sn en)))]) (lenOf pd_1 rfl) rfl (by show 2 * 0 + _ ≤ _; exact Nat.le_of_eq rfl) (hb hby at_170) (fun _ _ => ⟨rfl, e16, (by decide : 1 + 0 ≤ _), (by decide : 8 + 0 ≤ _)⟩)
  dsimp only [Pt.U, Pt.locs, Pt.cells, Pt.slots] at X17 l17 y17 z17 st17 hQ17
  subst l17 y17 z17
  obtain ⟨rfl, N17q, e17⟩ := hQ17
  have N17 := Fr.app N16 N17q
  refine own_st (fun zw zk => st17 zw zk) ?_
  refine own_st (fun zw zk => XS.iadd X17.here hx rfl (hb hby at_173) rfl zk) ?_
  refine own_st (fun zw zk => XS.aload X17.here hx rfl (hb hby at_174) rfl rfl zk) ?_
  refine own_st (fun zw zk => XS.bipush X17.here hx rfl (hb hby at_176) zk) ?_
  refine own_st (fun zw zk => XS.iload X17.here hx rfl (hb hby at_178) rfl zk) ?_
  refine own_st (fun zw zk => XS.iload X17.here hx rfl (hb hby at_180) rfl zk) ?_
  obtain ⟨_, _, ⟨T18, L18, k18, n18⟩, -, X18, ⟨Lc18, hQ18, l18, y18, z18⟩, st18⟩ := Jvm.LawKit.callS X17 hx (y := (⟨"com/example/passau/passau/drawing/IdListHashOfPinLaw", "term", "([BIII)I"⟩ : MethodName)) hown (mvT hZ (hw _ (List.mem_of_getElem? (i := 2) rfl))) (mvT hZ (hw _ (List.mem_of_getElem? (i := 3) rfl))) (mvT hZ (hw _ (List.mem_of_getElem? (i := 4) rfl))) (mvT hZ (hw _ (List.mem_of_getElem? (i := 5) rfl))) (by decide) (backOf (W := 1) (rm1 l Z a0 hw [] b3 (6 : Int32) sn en (own_B q0) 6 h11 n0 Z11 (VB) (by decide) (by decide) (by decide)) hZ (hw _ (List.mem_of_getElem? (i := 5) rfl)) (hw _ (List.mem_of_getElem? (i := 4) rfl)) (by decide) (by decide)) (g := (mkF m 182 #[.val (.long q0), .second, .val (.int p1), .val (.int p2), .val (.ref b3), .val (.int sn), .val (.int en), .unset] [(.int en), (.int sn), (.int (6 : Int32)), (.ref b3), (.int ((((((own_term (own_B q0) 0 (0 : Int32) sn en) + (own_term (own_B q0) 1 (1 : Int32) sn en)) + (own_term (own_B q0) 2 (2 : Int32) sn en)) + (own_term (own_B q0) 3 (3 : Int32) sn en)) + (own_term (own_B q0) 4 (4 : Int32) sn en)) + (own_term (own_B q0) 5 (5 : Int32) sn en)))])) rfl (by rw [hml]; rfl) (argsL := [(.ref b3), (.int (6 : Int32)), (.int sn), (.int en)]) (rest := [(.int ((((((own_term (own_B q0) 0 (0 : Int32) sn en) + (own_term (own_B q0) 1 (1 : Int32) sn en)) + (own_term (own_B q0) 2 (2 : Int32) sn en)) + (own_term (own_B q0) 3 (3 : Int32) sn en)) + (own_term (own_B q0) 4 (4 : Int32) sn en)) + (own_term (own_B q0) 5 (5 : Int32) sn en)))]) (lenOf pd_1 rfl) rfl (by show 2 * 0 + _ ≤ _; exact Nat.le_of_eq rfl) (hb hby at_182) (fun _ _ => ⟨rfl, e17, (by decide : 1 + 0 ≤ _), (by decide : 8 + 0 ≤ _)⟩)
  dsimp only [Pt.U, Pt.locs, Pt.cells, Pt.slots] at X18 l18 y18 z18 st18 hQ18
  subst l18 y18 z18
  obtain ⟨rfl, N18q, e18⟩ := hQ18
  have N18 := Fr.app N17 N18q
  refine own_st (fun zw zk => st18 zw zk) ?_
  show own_Go p e below G (T18.setTop (mkF m 185 #[.val (.long q0), .second, .val (.int p1), .val (.int p2), .val (.ref b3), .val (.int sn), .val (.int en), .unset] [(.int (own_term (own_B q0) 6 (6 : Int32) sn en)), (.int ((((((own_term (own_B q0) 0 (0 : Int32) sn en) + (own_term (own_B q0) 1 (1 : Int32) sn en)) + (own_term (own_B q0) 2 (2 : Int32) sn en)) + (own_term (own_B q0) 3 (3 : Int32) sn en)) + (own_term (own_B q0) 4 (4 : Int32) sn en)) + (own_term (own_B q0) 5 (5 : Int32) sn en)))]))
  refine own_st (fun zw zk => XS.iadd X18.here hx rfl (hb hby at_185) rfl zk) ?_
  refine own_st (fun zw zk => XS.aload X18.here hx rfl (hb hby at_186) rfl rfl zk) ?_
  refine own_st (fun zw zk => XS.bipush X18.here hx rfl (hb hby at_188) zk) ?_
  refine own_st (fun zw zk => XS.iload X18.here hx rfl (hb hby at_190) rfl zk) ?_
  refine own_st (fun zw zk => XS.iload X18.here hx rfl (hb hby at_192) rfl zk) ?_
  obtain ⟨_, _, ⟨T19, L19, k19, n19⟩, -, X19, ⟨Lc19, hQ19, l19, y19, z19⟩, st19⟩ := Jvm.LawKit.callS X18 hx (y := (⟨"com/example/passau/passau/drawing/IdListHashOfPinLaw", "term", "([BIII)I"⟩ : MethodName)) hown (mvT hZ (hw _ (List.mem_of_getElem? (i := 2) rfl))) (mvT hZ (hw _ (List.mem_of_getElem? (i := 3) rfl))) (mvT hZ (hw _ (List.mem_of_getElem? (i := 4) rfl))) (mvT hZ (hw _ (List.mem_of_getElem? (i := 5) rfl))) (by decide) (backOf (W := 1) (rm1 l Z a0 hw [] b3 (7 : Int32) sn en (own_B q0) 7 h11 n0 Z11 (VB) (by decide) (by decide) (by decide)) hZ (hw _ (List.mem_of_getElem? (i := 5) rfl)) (hw _ (List.mem_of_getElem? (i := 4) rfl)) (by decide) (by decide)) (g := (mkF m 194 #[.val (.long q0), .second, .val (.int p1), .val (.int p2), .val (.ref b3), .val (.int sn), .val (.int en), .unset] [(.int en), (.int sn), (.int (7 : Int32)), (.ref b3), (.int (((((((own_term (own_B q0) 0 (0 : Int32) sn en) + (own_term (own_B q0) 1 (1 : Int32) sn en)) + (own_term (own_B q0) 2 (2 : Int32) sn en)) + (own_term (own_B q0) 3 (3 : Int32) sn en)) + (own_term (own_B q0) 4 (4 : Int32) sn en)) + (own_term (own_B q0) 5 (5 : Int32) sn en)) + (own_term (own_B q0) 6 (6 : Int32) sn en)))])) rfl (by rw [hml]; rfl) (argsL := [(.ref b3), (.int (7 : Int32)), (.int sn), (.int en)]) (rest := [(.int (((((((own_term (own_B q0) 0 (0 : Int32) sn en) + (own_term (own_B q0) 1 (1 : Int32) sn en)) + (own_term (own_B q0) 2 (2 : Int32) sn en)) + (own_term (own_B q0) 3 (3 : Int32) sn en)) + (own_term (own_B q0) 4 (4 : Int32) sn en)) + (own_term (own_B q0) 5 (5 : Int32) sn en)) + (own_term (own_B q0) 6 (6 : Int32) sn en)))]) (lenOf pd_1 rfl) rfl (by show 2 * 0 + _ ≤ _; exact Nat.le_of_eq rfl) (hb hby at_194) (fun _ _ => ⟨rfl, e18, (by decide : 1 + 0 ≤ _), (by decide : 8 + 0 ≤ _)⟩)
  dsimp only [Pt.U, Pt.locs, Pt.cells, Pt.slots] at X19 l19 y19 z19 st19 hQ19
  subst l19 y19 z19
  obtain ⟨rfl, N19q, e19⟩ := hQ19
  have N19 := Fr.app N18 N19q
  refine own_st (fun zw zk => st19 zw zk) ?_
  refine own_st (fun zw zk => XS.iadd X19.here hx rfl (hb hby at_197) rfl zk) ?_
  refine own_st (fun zw zk => XS.istore X19.here hx rfl (hb hby at_198) rfl rfl zk) ?_
  show own_Go p e below G (T19.setTop (mkF m 200 #[.val (.long q0), .second, .val (.int p1), .val (.int p2), .val (.ref b3), .val (.int sn), .val (.int en), .val (.int ((((((((own_term (own_B q0) 0 (0 : Int32) sn en) + (own_term (own_B q0) 1 (1 : Int32) sn en)) + (own_term (own_B q0) 2 (2 : Int32) sn en)) + (own_term (own_B q0) 3 (3 : Int32) sn en)) + (own_term (own_B q0) 4 (4 : Int32) sn en)) + (own_term (own_B q0) 5 (5 : Int32) sn en)) + (own_term (own_B q0) 6 (6 : Int32) sn en)) + (own_term (own_B q0) 7 (7 : Int32) sn en)))] []))
  refine own_st (fun zw zk => XS.aload X19.here hx rfl (hb hby at_200) rfl rfl zk) ?_
  refine own_st (fun zw zk => XS.iload X19.here hx rfl (hb hby at_202) rfl zk) ?_
  refine own_st (fun zw zk => XS.iload X19.here hx rfl (hb hby at_204) rfl zk) ?_
  obtain ⟨_, _, ⟨T20, L20, k20, n20⟩, -, X20, ⟨Lc20, hQ20, l20, y20, z20⟩, st20⟩ := Jvm.LawKit.callS X19 hx (y := (⟨"com/example/passau/passau/drawing/IdList", "hashOf", "([BII)I"⟩ : MethodName)) hown (mvT hZ (hw _ (List.mem_of_getElem? (i := 9) rfl))) (mvT hZ (hw _ (List.mem_of_getElem? (i := 10) rfl))) (mvT hZ (hw _ (List.mem_of_getElem? (i := 11) rfl))) (mvT hZ (hw _ (List.mem_of_getElem? (i := 12) rfl))) (by decide) (backOf (W := 0) (rm3 l Z a0 hw [] b3 sn en (own_B q0) ns ne h11 n0 Z11 (VB) (hns) (hne) (hse) (hne8)) hZ (hw _ (List.mem_of_getElem? (i := 12) rfl)) (hw _ (List.mem_of_getElem? (i := 11) rfl)) (by decide) (by decide)) (g := (mkF m 206 #[.val (.long q0), .second, .val (.int p1), .val (.int p2), .val (.ref b3), .val (.int sn), .val (.int en), .val (.int ((((((((own_term (own_B q0) 0 (0 : Int32) sn en) + (own_term (own_B q0) 1 (1 : Int32) sn en)) + (own_term (own_B q0) 2 (2 : Int32) sn en)) + (own_term (own_B q0) 3 (3 : Int32) sn en)) + (own_term (own_B q0) 4 (4 : Int32) sn en)) + (own_term (own_B q0) 5 (5 : Int32) sn en)) + (own_term (own_B q0) 6 (6 : Int32) sn en)) + (own_term (own_B q0) 7 (7 : Int32) sn en)))] [(.int en), (.int sn), (.ref b3)])) rfl (by rw [hml]; rfl) (argsL := [(.ref b3), (.int sn), (.int en)]) (rest := []) (lenOf pd_2 rfl) rfl (by show 2 * 0 + _ ≤ _; exact Nat.le_of_eq rfl) (hb hby at_206) (fun _ _ => ⟨rfl, e19, (by decide : 1 + 0 ≤ _), (by decide : 8 + 0 ≤ _)⟩)
  dsimp only [Pt.U, Pt.locs, Pt.cells, Pt.slots] at X20 l20 y20 z20 st20 hQ20
  subst l20 y20 z20
  obtain ⟨rfl, N20q, e20⟩ := hQ20
  have N20 := Fr.app N19 N20q
  refine own_st (fun zw zk => st20 zw zk) ?_
  refine own_st (fun zw zk => XS.iload X20.here hx rfl (hb hby at_209) rfl zk) ?_
  have hc211 : (own_hs (own_B q0) (ne - ns) ns 0) = ((((((((own_term (own_B q0) 0 (0 : Int32) sn en) + (own_term (own_B q0) 1 (1 : Int32) sn en)) + (own_term (own_B q0) 2 (2 : Int32) sn en)) + (own_term (own_B q0) 3 (3 : Int32) sn en)) + (own_term (own_B q0) 4 (4 : Int32) sn en)) + (own_term (own_B q0) 5 (5 : Int32) sn en)) + (own_term (own_B q0) 6 (6 : Int32) sn en)) + (own_term (own_B q0) 7 (7 : Int32) sn en)) := own_law (own_B q0) hns hne hse hne8
  refine own_st (fun zw zk => XS.icmpNo X20.here hx rfl (hb hby at_211) rfl (teq hc211).2 zk) ?_
  refine own_st (fun zw zk => XS.iconst X20.here hx rfl (hb hby at_214) zk) ?_
  refine own_st (fun zw zk => XS.goto X20.here hx rfl (pc0 := 215) (pc' := 219) rfl (hb hby at_215) (by decide) (by decide) zk) ?_
  show own_Go p e below G (T20.setTop (mkF m 219 #[.val (.long q0), .second, .val (.int p1), .val (.int p2), .val (.ref b3), .val (.int sn), .val (.int en), .val (.int ((((((((own_term (own_B q0) 0 (0 : Int32) sn en) + (own_term (own_B q0) 1 (1 : Int32) sn en)) + (own_term (own_B q0) 2 (2 : Int32) sn en)) + (own_term (own_B q0) 3 (3 : Int32) sn en)) + (own_term (own_B q0) 4 (4 : Int32) sn en)) + (own_term (own_B q0) 5 (5 : Int32) sn en)) + (own_term (own_B q0) 6 (6 : Int32) sn en)) + (own_term (own_B q0) 7 (7 : Int32) sn en)))] [(.int (1 : Int32))]))
  subst hG
  obtain ⟨fs, hr, hrun, hended, hW, hsame⟩ := X20.leave (v := some (.int (1 : Int32))) (fun h => by rw [Bd.returns] at h; cases h)
  refine ⟨_, retN X20 hx (t := .boolean) Bd.returns (by simp) (hb hby at_219) hr, _, hrun, hended, _, _, rfl, ?_, ⟨_, rfl⟩, hW, hsame.mono (by decide) (by decide)⟩
  show Q0 Z q0 p1 p2 h0 n0 _ T20.heap _
  rw [e20]
  exact ⟨rfl, N20⟩
set_option maxRecDepth 65536 in
set_option maxHeartbeats 40000000 in
theorem comes_1 {Post : Tables → Env → Array Value → State → Outcome → State → Prop} (hpost : ∀ tb e args s v u, (limb_1_1.after args s (.returned v) u = true ∧ limb_1_2.after args s (.returned v) u = true ∧ True) → FrameEnd s (.returned v) u (Jvm.fieldLocs frame_1_writes args s ++ Jvm.arrayLocs frame_1_arrays args s ++ Jvm.staticLocs frame_1_statics s) 16 128 → Post tb e args s (.returned v) u) :
    ArmFor flags0 classFile x code maxLocals ret World_1 tables_1 room_1 Calls_1 rest_1 Pre_1 Post := by
  intro l hfl _ _ p e ha hc hk s m args below hf hA hF happ hP
  obtain ⟨hcalls, hrest, hpre⟩ := hP
  obtain ⟨-, -, -, hnamed, -, -, -, hat⟩ := (Spec.applies_iff hf).mp happ
  obtain ⟨hg, hn⟩ := and_e (Cond.before_iff.mp (show (Jvm.Cond.and given_1 narrow_1).before args s = true from hpre))
  obtain ⟨g1, g2⟩ := and_e hg
  obtain ⟨g3, g4⟩ := and_e g2
  obtain ⟨g5, g6⟩ := and_e g4
  obtain ⟨w0, w1, w2, rfl⟩ : ∃ w0 w1 w2 : Value, args = #[w0, w1, w2] := by
    have hs : args.size = 3 := by simpa [Cond.value, given_1] using g1
    obtain ⟨L⟩ := args
    match L, hs with
    | [w0, w1, w2], _ => exact ⟨w0, w1, w2, rfl⟩
  have hw := fun d (hd : d ∈ tables_1) => atoms_spec (ws := Jvm.Cond.code x code maxLocals ret :: tables_1) hat d (List.mem_cons_of_mem _ hd)
  obtain ⟨i0, ei0⟩ := isL_v g3
  obtain rfl : w0 = (.long i0) := Option.some.inj ei0
  obtain ⟨i1, ei1⟩ := is_v g5
  obtain rfl : w1 = (.int i1) := Option.some.inj ei1
  obtain ⟨i2, ei2⟩ := is_v g6
  obtain rfl : w2 = (.int i2) := Option.some.inj ei2
  obtain ⟨n, o, h1, h2, h3, _, L, rfl, ⟨rfl, N⟩, hq⟩ := rm0 l s _ hw tables_1 i0 i1 i2 s.heap s.heap.size (Nat.le_refl _) p e ha hc hk s m _ below hf ((Spec.applies_iff_loose hf).mp happ).1 ⟨rfl, State.Warmed39.refl s, rfl⟩ trivial
  refine ⟨n, _, h1, h2, h3, hpost _ _ _ _ _ _ ⟨Cond.after_iff.mpr rfl, Cond.after_iff.mpr (eq_i res_at (Term.int_eval (1)) rfl), trivial⟩ ⟨hq.1, hq.2.1, (hq.2.2.sift fun y hy => Or.inr (N y hy)).mono (by decide) (by decide)⟩⟩
theorem main_1_1 : Claimed_1_1 := comes_1 fun _ _ _ _ _ _ h hF => ⟨h.1, hF⟩
theorem main_1_2 : Claimed_1_2 := comes_1 fun _ _ _ _ _ _ h hF => ⟨h.2.1, hF⟩
end Jvm.Pilot.@@N@@
namespace Jvm.Pilot.@@N@@
open Jvm Jvm.ClassFile Sem Op Lib Jvm.Free Jvm.Stand Jvm.Pilot.@@N@@.Jvm.D
/-! MADE BY PROGRAM (witnessworld.py) out of the Statement's table words and the real class files: 7 classes; the members and pool entries that the words name. The judged class is class 1, her method 1. -/
namespace start1
open Jvm.ClassFile
def u (s : String) : CpInfo := .utf8 (stringToUtf16 s)
/-- a pool by its gaps: so many unusable entries, then the entry; so many at the end -/
def gap : Nat → List CpInfo → List CpInfo
  | 0, r => r
  | n + 1, r => .unusable :: gap n r
def poolList (es : List (Nat × CpInfo)) (last : Nat) : List CpInfo := es.foldr (fun e r => gap e.1 (e.2 :: r)) (gap last [])
def pool (es : List (Nat × CpInfo)) (last : Nat) : Array CpInfo := ⟨poolList es last⟩
def fileOf (pool : Array CpInfo) (this : Nat) (attrs : Array Attribute := #[]) (ms : Array MethodInfo := #[]) (fl : Nat := 33) (sup : Nat := 0) (ifs : Array Nat := #[]) (fds : Array FieldInfo := #[]) : ClassFile where
  minorVersion := 0
  majorVersion := 65
  constantPool := pool
  accessFlags := fl
  thisClass := this
  superClass := sup
  interfaces := ifs
  fields := fds
  methods := ms
  attributes := attrs
def plain (name : String) (sup : Option ClassId) : Class where
  name := name
  kind := .ordinary
  loader := none
  accessFlags := 33
  super := sup
  interfaces := #[]
  cf := none
  fields := #[]
  methods := #[]
  instanceTypes := #[]
  staticTypes := #[]
  resolved := #[]
  callSites := []
  init := .initialized
  statics := none
  mirror := none

def pool0 : Array CpInfo := pool [(5, u "<init>"), (0, u "()V"), (1, .class_ 10), (1, u "java/lang/Object")] 113

def k0m0 : Method := { name := "<init>", desc := "()V", sig := { parameters := [], returnType := none }, accessFlags := 1, code := none }
/-- java/lang/Object -/
def k0 : Class := { plain "java/lang/Object" none with
  accessFlags := 33
  interfaces := #[]
  cf := some (fileOf pool0 8 #[] #[{ accessFlags := 1, nameIndex := 5, descriptorIndex := 6, attributes := #[] }] 33 0 #[] #[])
  fields := #[]
  methods := #[k0m0]
  instanceTypes := #[]
  staticTypes := #[]
  resolved := Array.replicate 124 none
  statics := none }

def pool1 : Array CpInfo := pool [(2, .class_ 4), (1, u "java/lang/Object"), (0, u "<init>"), (0, u "()V"), (0, .integer 2147483647), (0, .methodref 9 10), (0, .class_ 11), (0, .nameAndType 12 13), (0, u "com/example/passau/passau/drawing/IdListHashOfPinLaw"), (0, u "term"), (0, u "([BIII)I"), (0, .methodref 15 16), (0, .class_ 17), (0, .nameAndType 18 19), (0, u "com/example/passau/passau/drawing/IdList"), (0, u "hashOf"), (0, u "([BII)I"), (0, .methodref 9 21), (0, .nameAndType 22 23), (0, u "pow31"), (0, u "(I)I"), (0, .integer 923521), (0, .integer 28629151), (0, .integer 887503681), (0, .integer 1742810335), (2, u "law"), (0, u "(JII)Z")] 5

def k1m0 : Method := { name := "<init>", desc := "()V", sig := { parameters := [], returnType := none }, accessFlags := 1, code := none }
def k1c1 : Code := { maxStack := 5, maxLocals := 8, code := code, exceptionTable := #[], attributes := #[] }
def k1m1 : Method := { name := "law", desc := "(JII)Z", sig := { parameters := [.long, .int, .int], returnType := some .boolean }, accessFlags := 9, code := some k1c1 }
def k1c2 : Code := { maxStack := 3, maxLocals := 4, code := method_3_code, exceptionTable := #[], attributes := #[] }
def k1m2 : Method := { name := "term", desc := "([BIII)I", sig := { parameters := [(.array .byte), .int, .int, .int], returnType := some .int }, accessFlags := 10, code := some k1c2 }
def k1c3 : Code := { maxStack := 2, maxLocals := 1, code := method_4_code, exceptionTable := #[], attributes := #[] }
def k1m3 : Method := { name := "pow31", desc := "(I)I", sig := { parameters := [.int], returnType := some .int }, accessFlags := 10, code := some k1c3 }
/-- com/example/passau/passau/drawing/IdListHashOfPinLaw -/
def k1 : Class := { plain "com/example/passau/passau/drawing/IdListHashOfPinLaw" (some 0) with
  accessFlags := 49
  interfaces := #[]
  cf := some (fileOf pool1 9 #[] #[{ accessFlags := 1, nameIndex := 5, descriptorIndex := 6, attributes := #[] }, { accessFlags := 9, nameIndex := 30, descriptorIndex := 31, attributes := #[] }, { accessFlags := 10, nameIndex := 12, descriptorIndex := 13, attributes := #[] }, { accessFlags := 10, nameIndex := 22, descriptorIndex := 23, attributes := #[] }] 49 2 #[] #[])
  fields := #[]
  methods := #[k1m0, k1m1, k1m2, k1m3]
  instanceTypes := #[]
  staticTypes := #[]
  resolved := Array.replicate 37 none
  statics := none }

def pool2 : Array CpInfo := pool [(2, .class_ 4), (1, u "java/lang/Object"), (0, u "<init>"), (0, u "()V"), (0, .class_ 8), (0, u "com/example/passau/passau/drawing/IdList"), (2, u "latin1"), (0, u "[B"), (2, u "ends"), (0, u "[I"), (2, u "size"), (0, u "I"), (8, u "given"), (0, u "[Ljava/lang/String;"), (22, u "made"), (35, u "hashOf"), (0, u "([BII)I"), (41, u "NO_KEY"), (0, u "J"), (1, u "KEY_CHARACTERS"), (1, u "LATIN_1"), (1, u "MIN_CAPACITY"), (1, u "SPREAD")] 18

def k2m0 : Method := { name := "<init>", desc := "()V", sig := { parameters := [], returnType := none }, accessFlags := 0, code := none }
def k2c1 : Code := { maxStack := 3, maxLocals := 5, code := prog_18_method_17_code, exceptionTable := #[], attributes := #[] }
def k2m1 : Method := { name := "hashOf", desc := "([BII)I", sig := { parameters := [(.array .byte), .int, .int], returnType := some .int }, accessFlags := 8, code := some k2c1 }
/-- com/example/passau/passau/drawing/IdList -/
def k2 : Class := { plain "com/example/passau/passau/drawing/IdList" (some 0) with
  accessFlags := 49
  interfaces := #[]
  cf := some (fileOf pool2 7 #[] #[{ accessFlags := 0, nameIndex := 5, descriptorIndex := 6, attributes := #[] }, { accessFlags := 8, nameIndex := 89, descriptorIndex := 90, attributes := #[] }] 49 2 #[] #[{ accessFlags := 24, nameIndex := 132, descriptorIndex := 133, attributes := #[] }, { accessFlags := 26, nameIndex := 135, descriptorIndex := 20, attributes := #[] }, { accessFlags := 26, nameIndex := 137, descriptorIndex := 20, attributes := #[] }, { accessFlags := 26, nameIndex := 139, descriptorIndex := 20, attributes := #[] }, { accessFlags := 26, nameIndex := 141, descriptorIndex := 133, attributes := #[] }, { accessFlags := 2, nameIndex := 29, descriptorIndex := 30, attributes := #[] }, { accessFlags := 2, nameIndex := 11, descriptorIndex := 12, attributes := #[] }, { accessFlags := 2, nameIndex := 15, descriptorIndex := 16, attributes := #[] }, { accessFlags := 2, nameIndex := 19, descriptorIndex := 20, attributes := #[] }, { accessFlags := 2, nameIndex := 53, descriptorIndex := 30, attributes := #[] }])
  fields := #[{ name := "NO_KEY", type := .long, accessFlags := 24, slot := 0, constantValue := 0 }, { name := "KEY_CHARACTERS", type := .int, accessFlags := 26, slot := 1, constantValue := 0 }, { name := "LATIN_1", type := .int, accessFlags := 26, slot := 2, constantValue := 0 }, { name := "MIN_CAPACITY", type := .int, accessFlags := 26, slot := 3, constantValue := 0 }, { name := "SPREAD", type := .long, accessFlags := 26, slot := 4, constantValue := 0 }, { name := "given", type := (.array (.object "java/lang/String")), accessFlags := 2, slot := 0, constantValue := 0 }, { name := "latin1", type := (.array .byte), accessFlags := 2, slot := 1, constantValue := 0 }, { name := "ends", type := (.array .int), accessFlags := 2, slot := 2, constantValue := 0 }, { name := "size", type := .int, accessFlags := 2, slot := 3, constantValue := 0 }, { name := "made", type := (.array (.object "java/lang/String")), accessFlags := 2, slot := 4, constantValue := 0 }]
  methods := #[k2m0, k2m1]
  instanceTypes := #[(.array (.object "java/lang/String")), (.array .byte), (.array .int), .int, (.array (.object "java/lang/String"))]
  staticTypes := #[.long, .int, .int, .int, .long]
  resolved := Array.replicate 160 none
  statics := none }

def pool3 : Array CpInfo := pool [(1, u "java/lang/Cloneable"), (0, .class_ 1), (0, u "java/lang/Object"), (0, .class_ 3)] 3

/-- java/lang/Cloneable -/
def k3 : Class := { plain "java/lang/Cloneable" (some 0) with
  accessFlags := 1537
  interfaces := #[]
  cf := some (fileOf pool3 2 #[] #[] 1537 4 #[] #[])
  fields := #[]
  methods := #[]
  instanceTypes := #[]
  staticTypes := #[]
  resolved := Array.replicate 8 none
  statics := none }

def pool4 : Array CpInfo := pool [(1, u "java/io/Serializable"), (0, .class_ 1), (0, u "java/lang/Object"), (0, .class_ 3)] 3

/-- java/io/Serializable -/
def k4 : Class := { plain "java/io/Serializable" (some 0) with
  accessFlags := 1537
  interfaces := #[]
  cf := some (fileOf pool4 2 #[] #[] 1537 4 #[] #[])
  fields := #[]
  methods := #[]
  instanceTypes := #[]
  staticTypes := #[]
  resolved := Array.replicate 8 none
  statics := none }

/-- the primitive byte -/
def k5 : Class := { plain "byte" none with kind := .primitive 'B', accessFlags := 0x411 }
/-- [B -/
def k6 : Class := { plain "[B" (some 0) with kind := .array 5 .byte, interfaces := #[3, 4], accessFlags := 1041 }

def heap : Heap := #[]
def classes : Array Class := #[k0, k1, k2, k3, k4, k5, k6]
def interned : List (Array UInt16 × Addr) := []
def slotsUsed : Nat := 0
def theMethod : MethodId := ⟨1, 1⟩
def args0 : Array Value := #[.long 5, .int 6, .int 7]
def aboutOver (below : List Frame) : State where
  vm := { classes := classes, interned := interned.toArray }
  heap := heap
  slotsUsed := slotsUsed
  threads := #[{ frames := .invoking theMethod args0 :: below }]
def below0 : List Frame := [.native { method := ⟨0, 0⟩, args := #[] }]
def about1 : State := aboutOver below0
def p0 : Program := .bare "" "" ""
def e0 : Env := launch0.env 0 0 0
theorem w_frames : about1.frames = Frame.invoking theMethod args0 :: below0 := rfl
set_option maxRecDepth 65536 in
theorem w_args : argsFit about1.vm theMethod args0 = true := by decide +kernel
set_option maxRecDepth 65536 in
theorem w_heap : heapFits about1 = true := by decide +kernel
set_option maxRecDepth 65536 in
theorem w_runnable : about1.curStatus? = some .runnable := by decide +kernel
set_option maxRecDepth 65536 in
theorem w_alone : about1.alone = true := by decide +kernel
set_option maxRecDepth 65536 in
theorem w_named : about1.methodNamed? x = some theMethod := by decide +kernel
set_option maxRecDepth 65536 in
theorem w_hears : about1.hears theMethod below0 = true := by decide +kernel
set_option maxRecDepth 65536 in
theorem w_ripe : about1.ripe theMethod args0 below0 = true := by decide +kernel
theorem w_running : about1.status = .running := rfl
set_option maxRecDepth 65536 in
theorem w_room : about1.hasRoom e0.platform room_1 = true :=
  launch0.hasRoom_least _ room_1 (by decide +kernel) (by decide +kernel) (by decide +kernel) (by decide +kernel) (by decide +kernel) (by decide +kernel)
theorem allAtoms_all (ts : List Jvm.Cond) (a : Array Jvm.Value) (st : Jvm.State) : (allAtoms ts).before a st = ts.all (fun c => c.before a st) := by
  induction ts with
  | nil => rfl
  | cons c t ih =>
    show (Jvm.Cond.and c (allAtoms t)).before a st = _
    rw [Jvm.Cond.before_and, ih, List.all_cons]
def words1 : List Jvm.Cond := Jvm.Cond.code x code maxLocals ret :: tables_1
/-- a 'code' word, met by the world's own term for the bytes: nothing is compared byte by byte -/
theorem code_word {y : MethodName} {bytes : ByteArray} {mx : Nat} {rt : Option FieldType} {a : Array Value} {s : State} {m : MethodId} {meth : Method} {c : Code} (h1 : s.methodNamed? y = some m) (h2 : s.vm.method? m = some meth) (h3 : meth.code = some c) (h4 : c.code = bytes)
    (h5 : (c.maxLocals == mx && c.exceptionTable.isEmpty && decide (c.maxStack ≤ mostOperands) && decide (meth.sig.returnType = rt) && !meth.locks && decide (parseMethodDescriptor y.desc = some meth.sig)) = true) : (Jvm.Cond.code y bytes mx rt).before a s = true := by
  simp only [Bool.and_eq_true, beq_iff_eq, Bool.not_eq_true', decide_eq_true_eq] at h5
  obtain ⟨⟨⟨⟨⟨g1, g2⟩, g3⟩, g4⟩, g5⟩, g6⟩ := h5
  simp [Cond.before, Cond.holds, Cond.value, h1, h2, h3, h4, g1, g2, g3, g4, g5, g6]
def isCode : Jvm.Cond → Bool
  | .code _ _ _ _ => true
  | _ => false
theorem all_split {L : List Jvm.Cond} {P : Jvm.Cond → Bool} (h1 : L.all (fun c => isCode c || P c) = true) (h2 : ∀ c ∈ L.filter isCode, P c = true) : L.all P = true := by
  refine List.all_eq_true.mpr fun c hc => ?_
  have h := List.all_eq_true.mp h1 c hc
  rcases Bool.eq_false_or_eq_true (isCode c) with hi | hi
  · exact h2 c (List.mem_filter.mpr ⟨hc, hi⟩)
  · simpa [hi] using h
set_option maxRecDepth 65536 in
theorem w_c0 : (Jvm.Cond.code x code maxLocals ret).before args0 about1 = true := code_word (m := ⟨1, 1⟩) (meth := k1m1) (c := k1c1) (by decide +kernel) rfl rfl rfl (by decide +kernel)
set_option maxRecDepth 65536 in
theorem w_c1 : (Jvm.Cond.code ({ cls := "com/example/passau/passau/drawing/IdListHashOfPinLaw", name := "term", desc := "([BIII)I" } : Jvm.MethodName) method_3_code (4 : Nat) (Option.some Jvm.ClassFile.FieldType.int)).before args0 about1 = true := code_word (m := ⟨1, 2⟩) (meth := k1m2) (c := k1c2) (by decide +kernel) rfl rfl rfl (by decide +kernel)
set_option maxRecDepth 65536 in
theorem w_c2 : (Jvm.Cond.code ({ cls := "com/example/passau/passau/drawing/IdListHashOfPinLaw", name := "pow31", desc := "(I)I" } : Jvm.MethodName) method_4_code (1 : Nat) (Option.some Jvm.ClassFile.FieldType.int)).before args0 about1 = true := code_word (m := ⟨1, 3⟩) (meth := k1m3) (c := k1c3) (by decide +kernel) rfl rfl rfl (by decide +kernel)
set_option maxRecDepth 65536 in
theorem w_c3 : (Jvm.Cond.code ({ cls := "com/example/passau/passau/drawing/IdList", name := "hashOf", desc := "([BII)I" } : Jvm.MethodName) prog_18_method_17_code (5 : Nat) (Option.some Jvm.ClassFile.FieldType.int)).before args0 about1 = true := code_word (m := ⟨2, 1⟩) (meth := k2m1) (c := k2c1) (by decide +kernel) rfl rfl rfl (by decide +kernel)
def codes1 : List Jvm.Cond := [Jvm.Cond.code x code maxLocals ret, Jvm.Cond.code ({ cls := "com/example/passau/passau/drawing/IdListHashOfPinLaw", name := "term", desc := "([BIII)I" } : Jvm.MethodName) method_3_code (4 : Nat) (Option.some Jvm.ClassFile.FieldType.int), Jvm.Cond.code ({ cls := "com/example/passau/passau/drawing/IdListHashOfPinLaw", name := "pow31", desc := "(I)I" } : Jvm.MethodName) method_4_code (1 : Nat) (Option.some Jvm.ClassFile.FieldType.int), Jvm.Cond.code ({ cls := "com/example/passau/passau/drawing/IdList", name := "hashOf", desc := "([BII)I" } : Jvm.MethodName) prog_18_method_17_code (5 : Nat) (Option.some Jvm.ClassFile.FieldType.int)]
set_option maxRecDepth 65536 in
theorem codes_eq : words1.filter isCode = codes1 := rfl
theorem w_codes : ∀ c ∈ words1.filter isCode, c.before args0 about1 = true := by
  rw [codes_eq]
  intro c hc
  simp only [codes1, List.mem_cons, List.not_mem_nil, or_false] at hc
  rcases hc with rfl | rfl | rfl | rfl
  · exact w_c0
  · exact w_c1
  · exact w_c2
  · exact w_c3
set_option maxRecDepth 65536 in
theorem w_t1 : words1.all (fun c => isCode c || c.before args0 about1) = true := by decide +kernel
theorem w_tables : (allAtoms (Jvm.Cond.code x code maxLocals ret :: tables_1)).before args0 about1 = true := by
  rw [allAtoms_all]
  show words1.all (fun c => c.before args0 about1) = true
  refine all_split ?_ w_codes
  rw [w_t1]
set_option maxRecDepth 65536 in
theorem w_case : (Jvm.Cond.and given_1 narrow_1).before args0 about1 = true := by decide +kernel
theorem w_applies : (headSpec (Jvm.Cond.code x code maxLocals ret :: tables_1) room_1).applies x e0.platform about1 = true :=
  (Spec.applies_iff w_frames).mpr ⟨w_running, w_runnable, w_alone, w_named, w_hears, w_ripe, w_room, w_tables⟩
theorem atStart : AtStart classFile x code maxLocals ret World_1 tables_1 room_1 Calls_1 rest_1 Pre_1 launch0 p0 e0 about1 theMethod args0 below0 :=
  ⟨lists_1, trivial, launch0.admits_env _ _ _, launch0.least_env, fairChoices_fair.cas, fairChoices_fair.clock, w_frames, w_args, w_heap, w_applies, trivial, trivial, w_case⟩
end start1
theorem witness_1 : WitnessClaimed_1 := ⟨start1.p0, start1.e0, start1.about1, start1.theMethod, start1.args0, start1.below0, start1.atStart⟩
end Jvm.Pilot.@@N@@
