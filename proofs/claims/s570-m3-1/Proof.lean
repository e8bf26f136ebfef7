import JvmDerived
import JvmDerived.Pilot.@@N@@Statement
import JvmDerived.Pilot.@@N@@Code
set_option linter.unusedVariables false
set_option linter.unusedSimpArgs false
namespace Jvm.Pilot.@@N@@
open Jvm Jvm.ClassFile Sem Op Lib Jvm.Free Jvm.Stand Jvm.LawKit Jvm.RoadKit Bundle Jvm.Pilot.@@N@@.Jvm.D
/-! own_Go: from t the run comes to a state where G holds. A walk is written backwards from the goal, so that a case split may stand anywhere. -/
def own_Go (p : Program) (e : Env) (below : List Frame) (G : State → Prop) (t : State) : Prop := ∃ u, Steps p.tables e below t u ∧ G u
theorem own_st {p : Program} {e : Env} {below : List Frame} {G : State → Prop} {t u : State} (f : ∀ w, Steps p.tables e below u w → Steps p.tables e below t w) (k : own_Go p e below G u) : own_Go p e below G t := by
  obtain ⟨w, s, g⟩ := k
  exact ⟨w, f w s, g⟩
theorem own_jp {p : Program} {e : Env} {below : List Frame} {G : State → Prop} {t u : State} (f : Steps p.tables e below t u) (k : own_Go p e below G u) : own_Go p e below G t := by
  obtain ⟨w, s, g⟩ := k
  exact ⟨w, f.trans s, g⟩
theorem own_out {p : Program} {e : Env} {below : List Frame} {t : State} {Q : Outcome → State → Prop} (k : own_Go p e below (fun u => ∃ o, u.status = .running ∧ Ended u below o ∧ Q o u) t) : ∃ s₂ o, Steps p.tables e below t s₂ ∧ s₂.status = .running ∧ Ended s₂ below o ∧ Q o s₂ := by
  obtain ⟨w, s, o, g⟩ := k
  exact ⟨w, o, s, g⟩
theorem own_nm {p : Program} {e : Env} {below : List Frame} {G0 : State → Prop} {t : State} (k : ∀ G, G = G0 → own_Go p e below G t) : own_Go p e below G0 t := k _ rfl
theorem own_tll {x y : Int64} (h : x < y) : lcmpW x y < 0 := (lw_lt x y).mpr h
theorem own_fll {x y : Int64} (h : ¬ x < y) : ¬ lcmpW x y < 0 := fun q => h ((lw_lt x y).mp q)
theorem own_tlg {x y : Int64} (h : y < x) : 0 < lcmpW x y := (lw_gt x y).mpr h
theorem own_flg {x y : Int64} (h : ¬ y < x) : ¬ 0 < lcmpW x y := fun q => h ((lw_gt x y).mp q)
theorem own_tle {x y : Int64} (h : x = y) : lcmpW x y = 0 := (lw_eq x y).mpr h
theorem own_fle {x y : Int64} (h : ¬ x = y) : ¬ lcmpW x y = 0 := fun q => h ((lw_eq x y).mp q)
section Own
variable {p : Program} {l : Launch} {e : Env} {R : Room} {s : State} {m : MethodId} {args : Array Value} {below : List Frame} {meth : Method} {c : Code} {T : State} {locs : List Loc} {cells slots : Nat} {Z : State} {h h' : Heap} {a b : Addr} {ty : FieldType} {vs : List Value} {v : Value}
theorem own_retI (X : Stand p l e R s m args below meth c T locs cells slots) (hx : p.tables.exec = Jvm.exec) {pc : Nat} {Ls : Array Slot} {z : Int32} {rest : List Value} (hret : meth.sig.returnType = some .int) (hd : decode c.code pc = .ok (.ireturn, 1)) {fs : List Frame}
    (hl : ∀ (f : JFrame) (acts : List Action), f.method = m → f.locked = none → f.entered = [] → (doReturn e (T.setTop f) acts (some (.int z))).1 = T.setFrames fs) : Steps p.tables e below (T.setTop (mkF m pc Ls (.int z :: rest))) (T.setFrames fs) :=
  retOut X hx hret rfl (Or.inl ⟨rfl, Or.inl rfl, z, rfl⟩) hd hl
theorem own_retJ (X : Stand p l e R s m args below meth c T locs cells slots) (hx : p.tables.exec = Jvm.exec) {pc : Nat} {Ls : Array Slot} {z : Int64} {rest : List Value} (hret : meth.sig.returnType = some .long) (hd : decode c.code pc = .ok (.lreturn, 1)) {fs : List Frame}
    (hl : ∀ (f : JFrame) (acts : List Action), f.method = m → f.locked = none → f.entered = [] → (doReturn e (T.setTop f) acts (some (.long z))).1 = T.setFrames fs) : Steps p.tables e below (T.setTop (mkF m pc Ls (.long z :: rest))) (T.setFrames fs) :=
  retOut X hx hret rfl (Or.inr (Or.inl ⟨rfl, rfl, z, rfl⟩)) hd hl
/-! own_L: the array at a holds just the list vs -/
def own_L (Z : State) (h : Heap) (a : Addr) (ty : FieldType) (vs : List Value) : Prop := ∃ cl : Cell, Arr Z h a cl ty ∧ cl.slots = vs.toArray
theorem own_L.lt (F : own_L Z h a ty vs) : a < h.size := by obtain ⟨cl, A, -⟩ := F; exact A.lt
theorem own_L.ext (F : own_L Z h a ty vs) (E : Ext h h') : own_L Z h' a ty vs := by obtain ⟨cl, A, q⟩ := F; exact ⟨cl, A.ext E, q⟩
theorem own_L.other {sl : Nat} (F : own_L Z h b ty vs) (W : Wr h h' a sl v) (q : b ≠ a) : own_L Z h' b ty vs := by obtain ⟨cl, A, r⟩ := F; exact ⟨cl, A.other W q, r⟩
theorem own_L.keep {ws : List Addr} (F : own_L Z h a ty vs) (K : Keep h h' ws) (q : a ∉ ws) : own_L Z h' a ty vs := by obtain ⟨cl, A, r⟩ := F; exact ⟨cl, ⟨K.2.1 a cl A.1 q, A.2⟩, r⟩
theorem own_L.new {k : ClassId} {z : Int32} (A : Arr Z h a (newA k ty z) ty) : own_L Z h a ty (List.replicate z.toNatClampNeg (defaultValue ty)) := ⟨_, A, by simp [newA]⟩
theorem own_L.same {k : Nat} (F : own_L Z h a ty vs) (W : Wr h h' a k v) : own_L Z h' a ty (vs.set k v) := by
  obtain ⟨cl, A, q⟩ := F
  exact ⟨_, A.same W, by simp [Cell.setSlot, q]⟩
theorem own_in {cl : Cell} {j : Int32} (q : cl.slots = vs.toArray) (h1 : ¬ j < 0) (h2 : j.toNatClampNeg < vs.length) : ¬ (j < 0 ∨ cl.slots.size ≤ j.toNatClampNeg) := by
  rw [q]
  rintro (r | r)
  · exact h1 r
  · simp at r; omega
theorem own_at {cl : Cell} {k : Nat} (q : cl.slots = vs.toArray) (hv : vs[k]? = some v) : cl.slots[k]? = some v := by rw [q]; simpa using hv
theorem own_lt {k : Nat} (hv : vs[k]? = some v) : k < vs.length := by
  obtain ⟨q, -⟩ := List.getElem?_eq_some_iff.mp hv
  exact q
theorem own_bld (X : Stand p l e R s m args below meth c T locs cells slots) (hx : p.tables.exec = Jvm.exec) (hZ : Z.Warmed39 s.vm) (eT : T.heap = h) (F : own_L Z h a .byte vs) {j : Int32} {i : Nat} (h1 : ¬ j < 0) (hi : j.toNatClampNeg = i) (hv : vs[i]? = some v) {g : JFrame} (hg : g.method = m) {rest : List Value} (hs : g.stack = .int j :: .ref a :: rest) (hd : decode c.code g.pc = .ok (.baload, 1)) :
    ∀ target, Steps p.tables e below (T.setTop { g with pc := g.pc + 1, stack := v :: rest }) target → Steps p.tables e below (T.setTop g) target := by
  obtain ⟨cl, A, q⟩ := F
  subst hi
  exact X.baloadBytes hx (by rw [eT]; exact A.1) (State.isArrayOf_alike hZ.alike A.2.1) A.2.2 (own_in q h1 (own_lt hv)) (own_at q hv) hg hs hd
theorem own_jld (X : Stand p l e R s m args below meth c T locs cells slots) (hx : p.tables.exec = Jvm.exec) (hZ : Z.Warmed39 s.vm) (eT : T.heap = h) (F : own_L Z h a .long vs) {j : Int32} {i : Nat} (h1 : ¬ j < 0) (hi : j.toNatClampNeg = i) (hv : vs[i]? = some v) {g : JFrame} (hg : g.method = m) {rest : List Value} (hs : g.stack = .int j :: .ref a :: rest) (hd : decode c.code g.pc = .ok (.laload, 1)) :
    ∀ target, Steps p.tables e below (T.setTop { g with pc := g.pc + 1, stack := v :: rest }) target → Steps p.tables e below (T.setTop g) target := by
  obtain ⟨cl, A, q⟩ := F
  subst hi
  exact X.laload hx (by rw [eT]; exact A.1) (State.isArrayOf_alike hZ.alike A.2.1) A.2.2 (own_in q h1 (own_lt hv)) (own_at q hv) hg hs hd
theorem own_ild (X : Stand p l e R s m args below meth c T locs cells slots) (hx : p.tables.exec = Jvm.exec) (hZ : Z.Warmed39 s.vm) (eT : T.heap = h) (F : own_L Z h a .int vs) {j : Int32} {i : Nat} (h1 : ¬ j < 0) (hi : j.toNatClampNeg = i) (hv : vs[i]? = some v) {g : JFrame} (hg : g.method = m) {rest : List Value} (hs : g.stack = .int j :: .ref a :: rest) (hd : decode c.code g.pc = .ok (.iaload, 1)) :
    ∀ target, Steps p.tables e below (T.setTop { g with pc := g.pc + 1, stack := v :: rest }) target → Steps p.tables e below (T.setTop g) target := by
  obtain ⟨cl, A, q⟩ := F
  subst hi
  exact X.iaload hx (by rw [eT]; exact A.1) (State.isArrayOf_alike hZ.alike A.2.1) A.2.2 (own_in q h1 (own_lt hv)) (own_at q hv) hg hs hd
theorem own_zld (X : Stand p l e R s m args below meth c T locs cells slots) (hx : p.tables.exec = Jvm.exec) (hZ : Z.Warmed39 s.vm) (eT : T.heap = h) (F : own_L Z h a .boolean vs) {j : Int32} {i : Nat} (h1 : ¬ j < 0) (hi : j.toNatClampNeg = i) (hv : vs[i]? = some v) {g : JFrame} (hg : g.method = m) {rest : List Value} (hs : g.stack = .int j :: .ref a :: rest) (hd : decode c.code g.pc = .ok (.baload, 1)) :
    ∀ target, Steps p.tables e below (T.setTop { g with pc := g.pc + 1, stack := v :: rest }) target → Steps p.tables e below (T.setTop g) target := by
  obtain ⟨cl, A, q⟩ := F
  subst hi
  exact X.baloadBooleans hx (by rw [eT]; exact A.1) (State.isArrayOf_alike hZ.alike A.2.1) A.2.2 (own_in q h1 (own_lt hv)) (own_at q hv) hg hs hd
theorem own_len (X : Stand p l e R s m args below meth c T locs cells slots) (hx : p.tables.exec = Jvm.exec) (hZ : Z.Warmed39 s.vm) (eT : T.heap = h) (F : own_L Z h a ty vs) {z : Int32} (hz : vs.length.toInt32 = z) {g : JFrame} (hg : g.method = m) {rest : List Value} (hs : g.stack = .ref a :: rest) (hd : decode c.code g.pc = .ok (.arraylength, 1)) :
    ∀ target, Steps p.tables e below (T.setTop { g with pc := g.pc + 1, stack := .int z :: rest }) target → Steps p.tables e below (T.setTop g) target := by
  obtain ⟨cl, A, q⟩ := F
  intro w k
  refine X.arraylength hx (by rw [eT]; exact A.1) (State.isArrayOf_alike hZ.alike A.2.1) hg hs hd w ?_
  have q2 : cl.slots.size.toInt32 = z := by rw [← hz, q]; simp
  rw [q2]; exact k
theorem own_bst (X : Stand p l e R s m args below meth c T locs cells slots) (hx : p.tables.exec = Jvm.exec) (hZ : Z.Warmed39 s.vm) (eT : T.heap = h) (F : own_L Z h a .byte vs) {j x : Int32} (i : Nat) (h1 : ¬ j < 0) (hi : j.toNatClampNeg = i) (h2 : i < vs.length) {g : JFrame} (hg : g.method = m) {rest : List Value} (hs : g.stack = .int x :: .int j :: .ref a :: rest) (hd : decode c.code g.pc = .ok (.bastore, 1)) :
    ∃ T' h', Stand p l e R s m args below meth c T' (locs ++ [⟨a, i⟩]) cells slots ∧ T'.heap = h' ∧ Wr h h' a i (.int x.toInt8.toInt32) ∧ own_L Z h' a .byte (vs.set i (.int x.toInt8.toInt32)) ∧ ∀ target, Steps p.tables e below (T'.setTop { g with pc := g.pc + 1, stack := rest }) target → Steps p.tables e below (T.setTop g) target := by
  obtain ⟨cl, A, q⟩ := F
  subst hi
  obtain ⟨T', h', X', e', W, st⟩ := stB X hx hZ eT A (own_in q h1 h2) hg hs hd
  exact ⟨T', h', X', e', W, own_L.same ⟨cl, A, q⟩ W, st⟩
theorem own_zst (X : Stand p l e R s m args below meth c T locs cells slots) (hx : p.tables.exec = Jvm.exec) (hZ : Z.Warmed39 s.vm) (eT : T.heap = h) (F : own_L Z h a .boolean vs) {j x : Int32} (i : Nat) (h1 : ¬ j < 0) (hi : j.toNatClampNeg = i) (h2 : i < vs.length) {g : JFrame} (hg : g.method = m) {rest : List Value} (hs : g.stack = .int x :: .int j :: .ref a :: rest) (hd : decode c.code g.pc = .ok (.bastore, 1)) :
    ∃ T' h', Stand p l e R s m args below meth c T' (locs ++ [⟨a, i⟩]) cells slots ∧ T'.heap = h' ∧ Wr h h' a i (.int (x &&& 1)) ∧ own_L Z h' a .boolean (vs.set i (.int (x &&& 1))) ∧ ∀ target, Steps p.tables e below (T'.setTop { g with pc := g.pc + 1, stack := rest }) target → Steps p.tables e below (T.setTop g) target := by
  obtain ⟨cl, A, q⟩ := F
  subst hi
  obtain ⟨T', h', X', e', W, st⟩ := stZ X hx hZ eT A (own_in q h1 h2) hg hs hd
  exact ⟨T', h', X', e', W, own_L.same ⟨cl, A, q⟩ W, st⟩
theorem own_jst (X : Stand p l e R s m args below meth c T locs cells slots) (hx : p.tables.exec = Jvm.exec) (hZ : Z.Warmed39 s.vm) (eT : T.heap = h) (F : own_L Z h a .long vs) {j : Int32} {x : Int64} (i : Nat) (h1 : ¬ j < 0) (hi : j.toNatClampNeg = i) (h2 : i < vs.length) {g : JFrame} (hg : g.method = m) {rest : List Value} (hs : g.stack = .long x :: .int j :: .ref a :: rest) (hd : decode c.code g.pc = .ok (.lastore, 1)) :
    ∃ T' h', Stand p l e R s m args below meth c T' (locs ++ [⟨a, i⟩]) cells slots ∧ T'.heap = h' ∧ Wr h h' a i (.long x) ∧ own_L Z h' a .long (vs.set i (.long x)) ∧ ∀ target, Steps p.tables e below (T'.setTop { g with pc := g.pc + 1, stack := rest }) target → Steps p.tables e below (T.setTop g) target := by
  obtain ⟨cl, A, q⟩ := F
  subst hi
  obtain ⟨T', h', X', e', W, st⟩ := stJ X hx hZ eT A (own_in q h1 h2) hg hs hd
  exact ⟨T', h', X', e', W, own_L.same ⟨cl, A, q⟩ W, st⟩
theorem own_ist (X : Stand p l e R s m args below meth c T locs cells slots) (hx : p.tables.exec = Jvm.exec) (hZ : Z.Warmed39 s.vm) (eT : T.heap = h) (F : own_L Z h a .int vs) {j x : Int32} (i : Nat) (h1 : ¬ j < 0) (hi : j.toNatClampNeg = i) (h2 : i < vs.length) {g : JFrame} (hg : g.method = m) {rest : List Value} (hs : g.stack = .int x :: .int j :: .ref a :: rest) (hd : decode c.code g.pc = .ok (.iastore, 1)) :
    ∃ T' h', Stand p l e R s m args below meth c T' (locs ++ [⟨a, i⟩]) cells slots ∧ T'.heap = h' ∧ Wr h h' a i (.int x) ∧ own_L Z h' a .int (vs.set i (.int x)) ∧ ∀ target, Steps p.tables e below (T'.setTop { g with pc := g.pc + 1, stack := rest }) target → Steps p.tables e below (T.setTop g) target := by
  obtain ⟨cl, A, q⟩ := F
  subst hi
  obtain ⟨T', h', X', e', W, st⟩ := stI X hx hZ eT A (own_in q h1 h2) hg hs hd
  exact ⟨T', h', X', e', W, own_L.same ⟨cl, A, q⟩ W, st⟩
theorem own_clone (X : Stand p l e R s m args below meth c T locs cells slots) (hx : p.tables.exec = Jvm.exec) (hZ : Z.Warmed39 s.vm) {a0 : Array Value} {own ad : String} {index : Nat} (hown : s.vm.findClass own = some m.cls)
    (w1 : (Cond.methodLink own index ⟨ad, "clone", "()Ljava/lang/Object;"⟩).before a0 Z = true) (w2 : (Cond.sameMethod ad "java/lang/Object" "clone" "()Ljava/lang/Object;").before a0 Z = true) (w3 : (Cond.native ⟨"java/lang/Object", "clone", "()Ljava/lang/Object;"⟩).before a0 Z = true)
    (w4 : (Cond.instanceMethod ⟨"java/lang/Object", "clone", "()Ljava/lang/Object;"⟩).before a0 Z = true) (w5 : (Cond.selects ad ⟨ad, "clone", "()Ljava/lang/Object;"⟩ ⟨"java/lang/Object", "clone", "()Ljava/lang/Object;"⟩).before a0 Z = true) (w6 : (Cond.castable ad "java/lang/Cloneable").before a0 Z = true)
    (eT : T.heap = h) (F : own_L Z h a ty vs) (E : Exa Z h a ad) (hfit : ∀ v ∈ vs, fits ty v = true) {g : JFrame} (hg : g.method = m) (hsize : g.locals.size = c.maxLocals) {rest : List Value} (hs : g.stack = .ref a :: rest) (hd : decode c.code g.pc = .ok (.invokevirtual index, 3))
    (hf : 1 ≤ R.frames) {W cap : Nat} (hW : 2 * g.monitorRoom + (rest.map fun v => v.category).sum ≤ W) (hl : W + 14 ≤ R.locals) (hcap : vs.length ≤ cap) (hc : cells + 1 ≤ R.cells) (hsl : slots + cap ≤ R.slots) :
    ∃ T' h', Stand p l e R s m args below meth c T' locs (cells + 1) (slots + cap) ∧ T'.heap = h' ∧ Ext h h' ∧ own_L Z h' h.size ty vs ∧ Exa Z h' h.size ad ∧
      ∀ target, Steps p.tables e below (T'.setTop { g with pc := g.pc + 3, stack := .ref h.size :: rest }) target → Steps p.tables e below (T.setTop g) target := by
  obtain ⟨cl, A, q⟩ := F
  have FC : FitC Z cl := fitC_of A fun i hi v hv => hfit v (by
    rw [q] at hv
    exact List.mem_of_getElem? (by simpa using hv))
  obtain ⟨T', h', X', e', ex, A', E', st⟩ := cloneA X hx hZ hown w1 w2 w3 w4 w5 w6 eT A E FC hg hsize hs hd hf hW hl (by rw [q]; simpa using hcap) hc hsl
  exact ⟨T', h', X', e', ex, ⟨cloneOf cl, A', q⟩, E', st⟩
end Own
theorem own_nn {i : Int32} {n : Nat} (h : i.toInt = n) : ¬ i < 0 := by
  have z0 : (0 : Int32).toInt = 0 := by decide
  rw [Int32.lt_iff_toInt_lt, z0]; omega
theorem own_nat {i : Int32} {n : Nat} (h : i.toInt = n) : i.toNatClampNeg = n := by
  show i.toInt.toNat = n
  omega
theorem own_up {i : Int32} {n : Nat} (h : i.toInt = n) (hn : n < 2147483647) : (i + (1 : Int32)).toInt = (n + 1 : Nat) := by
  have h1 := c_iadd i 1
  have r1 := rng32 (i + 1)
  have z1 : (1 : Int32).toInt = 1 := by decide
  rw [z1] at h1
  omega
theorem own_ltn {i j : Int32} {n k : Nat} (h : i.toInt = n) (h' : j.toInt = k) (hc : i < j) : n < k := by rw [Int32.lt_iff_toInt_lt] at hc; omega
theorem own_gen {i j : Int32} {n k : Nat} (h : i.toInt = n) (h' : j.toInt = k) (hc : ¬ i < j) : k - n = 0 := by rw [Int32.lt_iff_toInt_lt] at hc; omega
theorem own_of {i : Int32} {n : Nat} (h : i.toInt = n) : i = Int32.ofNat n := by
  have := rng32 i
  apply Int32.toInt_inj.mp
  rw [Int32.toInt_ofNat_of_lt (by omega)]; exact h
/-! a list of ints as an array's values -/
def own_bl (B : Nat → Int32) (n : Nat) : List Value := (List.range n).map fun j => .int (B j)
theorem own_bl_at (B : Nat → Int32) {n k : Nat} (hk : k < n) : (own_bl B n)[k]? = some (.int (B k)) := by simp [own_bl, hk]
theorem own_bl_len (B : Nat → Int32) (n : Nat) : (own_bl B n).length = n := by simp [own_bl]
section OwnCopy
variable {p : Program} {l : Launch} {e : Env} {R : Room} {s : State} {m : MethodId} {args : Array Value} {below : List Frame} {meth : Method} {c : Code} {T : State} {locs : List Loc} {cells slots : Nat} {Z : State} {h h' : Heap} {a b : Addr} {ty : FieldType} {vs vd us : List Value} {v dv : Value}
theorem own_arv (hl : vs.length < 2147483648) (F : own_L Z h a ty vs) (hf : ∀ v ∈ vs, fits ty v = true) (dv : Value) : ∃ k, Arv Z h a k ty vs.length.toInt32 vs dv ∧ (vs.length.toInt32).toNatClampNeg = vs.length := by
  obtain ⟨cl, A, q⟩ := F
  have hz : (vs.length.toInt32).toInt = vs.length := len_toInt (by omega)
  have z0 : (0 : Int32).toInt = 0 := by decide
  have hn : ¬ vs.length.toInt32 < 0 := by rw [Int32.lt_iff_toInt_lt, hz, z0]; omega
  have hc : (vs.length.toInt32).toNatClampNeg = vs.length := by show (vs.length.toInt32).toInt.toNat = _; rw [hz]; simp
  have gd : ∀ i, i < vs.length → vs[i]? = some (vs.getD i dv) := fun i hi => by simp [List.getD_eq_getElem?_getD, hi]
  have sz : cl.slots.size = vs.length := by rw [q]; simp
  refine ⟨cl.cls, ⟨cl, A, rfl, by rw [sz, hc], hn, fun i hi => ?_, fun i hi => ?_⟩, hc⟩
  · exact own_at q (gd i (by omega))
  · exact hf _ (List.mem_of_getElem? (gd i (by omega)))
theorem own_ofArv {k : ClassId} {z : Int32} (F : Arv Z h a k ty z us dv) (hl : us.length = z.toNatClampNeg) : own_L Z h a ty us := by
  obtain ⟨cl, A, -, S, -, H, -⟩ := F
  refine ⟨cl, A, ?_⟩
  apply Array.ext_getElem?
  intro i
  by_cases hi : i < us.length
  · rw [H i (by omega)]
    simp [List.getD_eq_getElem?_getD, hi]
  · rw [Array.getElem?_eq_none (by omega)]
    simp
    omega
theorem own_stretch (vs : List Value) (i k : Nat) (hk : i + k ≤ vs.length) (dv : Value) : ((List.range k).map fun x => vs.getD (i + x) dv) = (vs.drop i).take k := by
  apply List.ext_getElem?
  intro j
  by_cases hj : j < k
  · simp [hj, List.getElem?_take, List.getD_eq_getElem?_getD, show i + j < vs.length by omega]
  · rw [List.getElem?_eq_none (by simp; omega), List.getElem?_eq_none (by simp; omega)]
theorem own_cp (X : Stand p l e R s m args below meth c T locs cells slots) (hx : p.tables.exec = Jvm.exec) (hZ : Z.Warmed39 s.vm) {a0 : Array Value} {own : String} {index : Nat} (hown : s.vm.findClass own = some m.cls)
    (w1 : (Cond.methodLink own index Jvm.Stand.acN).before a0 Z = true) (w2 : (Cond.native Jvm.Stand.acN).before a0 Z = true) (w3 : (Cond.static Jvm.Stand.acN).before a0 Z = true) (w4 : (Cond.initialized "java/lang/System").before a0 Z = true) (eT : T.heap = h)
    (A : own_L Z h a ty vs) (B : own_L Z h b ty vd) (hr : refKind ty = false) (fa : ∀ v ∈ vs, fits ty v = true) (fb : ∀ v ∈ vd, fits ty v = true) (la : vs.length < 2147483648) (lb : vd.length < 2147483648) {sp dp nn : Int32} (i j k : Nat)
    (h1 : ¬ sp < 0) (hi : sp.toNatClampNeg = i) (h2 : ¬ dp < 0) (hj : dp.toNatClampNeg = j) (h3 : ¬ nn < 0) (hk : nn.toNatClampNeg = k) (h4 : i + k ≤ vs.length) (h5 : j + k ≤ vd.length) {n0 : Nat} (N : Fr n0 locs) (ge : n0 ≤ b)
    {g : JFrame} (hg : g.method = m) (hsize : g.locals.size = c.maxLocals) {rest : List Value} (hs : g.stack = .int nn :: .int dp :: .ref b :: .int sp :: .ref a :: rest) (hd : decode c.code g.pc = .ok (.invokestatic index, 3))
    (hf : 1 ≤ R.frames) {W : Nat} (hW : 2 * g.monitorRoom + (rest.map fun v => v.category).sum ≤ W) (hlo : W + 18 ≤ R.locals) :
    ∃ T' h' L, Stand p l e R s m args below meth c T' L cells slots ∧ T'.heap = h' ∧ Fr n0 L ∧ Keep h h' [b] ∧ own_L Z h' b ty (vd.take j ++ (vs.drop i).take k ++ vd.drop (j + k)) ∧
      ∀ target, Steps p.tables e below (T'.setTop { g with pc := g.pc + 3, stack := rest }) target → Steps p.tables e below (T.setTop g) target := by
  subst hi hj hk
  obtain ⟨k1, A', ca⟩ := own_arv la A fa (.int 0)
  obtain ⟨k2, B', cb⟩ := own_arv lb B fb (.int 0)
  obtain ⟨T', h', L, X', e', N', K', V', st⟩ := cpA X hx hZ hown w1 w2 w3 w4 eT A' B' (Or.inl ⟨rfl, hr⟩) h1 h2 h3 (by omega) (by omega) rfl (by omega) N ge hg hsize hs hd hf hW hlo
  refine ⟨T', h', L, X', e', N', K', ?_, st⟩
  have q := own_ofArv V' (by simp; omega)
  rw [own_stretch _ _ _ h4] at q
  exact q
end OwnCopy
theorem own_setfit {ty : FieldType} {vs : List Value} {w : Value} {i : Nat} (h : ∀ v ∈ vs, fits ty v = true) (hw : fits ty w = true) : ∀ v ∈ vs.set i w, fits ty v = true := fun v hv => by
  rcases List.mem_or_eq_of_mem_set hv with q | q
  · exact h v q
  · rw [q]; exact hw
theorem own_repfit (n : Nat) : ∀ v ∈ List.replicate n (Value.int 0), fits .byte v = true := fun v hv => by
  rw [List.eq_of_mem_replicate hv]; decide
theorem own_lenz {n3 : Int32} {nn : Nat} (h : n3.toInt = nn) {vs : List Value} (hl : vs.length = nn) : vs.length.toInt32 = n3 := by
  rw [hl]; exact (own_of h).symm
theorem own_posn {n3 : Int32} {nn : Nat} (h : n3.toInt = nn) (hc : (0 : Int32) < n3) : 0 < nn := by
  have z : (0 : Int32).toInt = 0 := by decide
  rw [Int32.lt_iff_toInt_lt, z] at hc
  omega
theorem own_pos2 {n3 : Int32} {nn : Nat} (h : n3.toInt = nn) (hc : (2 : Int32) < n3) : 2 < nn := by
  have z : (2 : Int32).toInt = 2 := by decide
  rw [Int32.lt_iff_toInt_lt, z] at hc
  omega
theorem own_dec {i : Int32} {n : Nat} (h : i.toInt = (n + 1 : Nat)) : (i - (1 : Int32)).toInt = n := by
  have h1 := c_isub i 1
  have r := rng32 (i - 1)
  have r1 := rng32 i
  have z : (1 : Int32).toInt = 1 := by decide
  rw [z] at h1
  omega
theorem own_decm {i : Int32} {n : Nat} (h : i.toInt = (n + 1 : Nat)) : (i + (-1 : Int32)).toInt = n := by
  have h1 := c_iadd i (-1)
  have r := rng32 (i + -1)
  have r1 := rng32 i
  have z : (-1 : Int32).toInt = -1 := by decide
  rw [z] at h1
  omega
theorem own_last {i j : Int32} {n : Nat} (h : i.toInt = n) (hj : j.toInt = n) : (i + (-1 : Int32)) < j := by
  have h1 := c_iadd i (-1)
  have r := rng32 (i + -1)
  have r1 := rng32 i
  have z : (-1 : Int32).toInt = -1 := by decide
  rw [z] at h1
  rw [Int32.lt_iff_toInt_lt]
  omega
theorem own_nlt {i j : Int32} {n k : Nat} (h : i.toInt = n) (hj : j.toInt = k) (hk : k ≤ n) : ¬ (i < j) := by
  rw [Int32.lt_iff_toInt_lt]; omega
theorem own_plus {i j : Int32} {n k : Nat} (h : i.toInt = n) (hj : j.toInt = k) (hb : n + k < 1000) : (i + j).toInt = (n + k : Nat) := by
  have h1 := c_iadd i j
  have r := rng32 (i + j)
  omega
theorem own_halfn {i : Int32} {n : Nat} (h : i.toInt = n) : (i / (2 : Int32)).toInt = (n / 2 : Nat) := by
  have := (c_idiv i 2 2 (by decide) (by decide)).1 (by omega)
  rw [this, h]; simp
theorem own_div {x : Int32} (h0 : 0 ≤ x.toInt) : (x / (10 : Int32)).toInt = x.toInt / 10 := (c_idiv x 10 10 (by decide) (by decide)).1 h0
theorem own_d3 {x : Int32} (h0 : 0 ≤ x.toInt) (hb : x.toInt ≤ 1010) : (((x / (10 : Int32)) / (10 : Int32)) / (10 : Int32)) < (10 : Int32) := by
  have a := own_div h0
  have b := own_div (x := x / 10) (by omega)
  have c := own_div (x := x / 10 / 10) (by omega)
  have z : (10 : Int32).toInt = 10 := by decide
  rw [Int32.lt_iff_toInt_lt, z]
  omega
theorem own_isint {vs : List Value} {k : Nat} (hk : k < vs.length) (hf : ∀ v ∈ vs, fits .byte v = true) : ∃ z, vs[k]? = some (.int z) := by
  have q : vs[k]? = some vs[k] := by simp [hk]
  obtain ⟨z, e⟩ := fit_I (hf _ (List.mem_of_getElem? q)) (by simp)
  exact ⟨z, by rw [q, e]⟩
theorem own_cat (L vs : List Value) (j n x : Nat) (hL : j + n ≤ L.length) (hv : vs.length = n) : (L.take j ++ (vs.drop 0).take n ++ L.drop (j + n))[x]? = if x < j then L[x]? else if x < j + n then vs[x - j]? else L[x]? := by
  have ev : (vs.drop 0).take n = vs := by rw [List.drop_zero]; exact List.take_of_length_le (by omega)
  rw [ev]
  have lt : (L.take j).length = j := by rw [List.length_take]; omega
  by_cases c1 : x < j
  · rw [if_pos c1, List.append_assoc, List.getElem?_append_left (by omega), List.getElem?_take_of_lt c1]
  · rw [if_neg c1]
    by_cases c2 : x < j + n
    · rw [if_pos c2, List.getElem?_append_left (by rw [List.length_append]; omega), List.getElem?_append_right (by omega), lt]
    · rw [if_neg c2, List.getElem?_append_right (by rw [List.length_append]; omega), List.length_append, lt, hv, List.getElem?_drop, show j + n + (x - (j + n)) = x by omega]
theorem pn_0 : plainName "com/example/portunus/portunus/AtomWriteCanonicalPinLaw" = true := by first | (simp [plainName, overriddenIn]; done) | decide +kernel
theorem d2_0 : decode method_3_code 0 = .ok (.iload_n 1, 1) := by decide +kernel
theorem d2_1 : decode method_3_code 1 = .ok (.aload_n 0, 1) := by decide +kernel
theorem d2_2 : decode method_3_code 2 = .ok (.arraylength, 1) := by decide +kernel
theorem d2_3 : decode method_3_code 3 = .ok (.if_icmp .ge 7, 3) := by decide +kernel
theorem d2_6 : decode method_3_code 6 = .ok (.aload_n 0, 1) := by decide +kernel
theorem d2_7 : decode method_3_code 7 = .ok (.iload_n 1, 1) := by decide +kernel
theorem d2_8 : decode method_3_code 8 = .ok (.iload_n 2, 1) := by decide +kernel
theorem d2_9 : decode method_3_code 9 = .ok (.bastore, 1) := by decide +kernel
theorem d2_10 : decode method_3_code 10 = .ok (.return_, 1) := by decide +kernel
theorem ef_rm2 (m : MethodId) (b0 : Addr) (i1 : Int32) (v2 : Int32) : entryFrame m #[(.ref b0), (.int i1), (.int v2)] 3 = mkF m 0 #[.val (.ref b0), .val (.int i1), .val (.int v2)] [] := by first | (simp [entryFrame, mkF, argsToLocals, Value.category]; done) | rfl
def Q2 (Z : State) (b0 : Addr) (i1 : Int32) (v2 : Int32) (vs : List Value) (nz : Int32) (ni : Nat) (h0 : Heap) (n0 : Nat) (rv : Option Value) (hq : Heap) (Lq : List Loc) : Prop := rv = none ∧ Fr n0 Lq ∧ ∃ vq : List Value, Keep h0 hq [b0] ∧ own_L Z hq b0 .byte (vq) ∧ vq.length = vs.length ∧ ∀ z ∈ vq, fits .byte z = true
set_option maxRecDepth 65536 in
set_option maxHeartbeats 40000000 in
theorem rm2 (l : Launch) (Z : State) (a0 : Array Value) (hw : ∀ d ∈ tables_1, d.before a0 Z = true) (ws : List Jvm.Cond) (b0 : Addr) (i1 : Int32) (v2 : Int32) (vs : List Value) (nz : Int32) (ni : Nat) (h0 : Heap) (n0 : Nat) (Z0 : n0 ≤ h0.size) (F0_ : own_L Z h0 b0 .byte (vs)) (ge_b0 : n0 ≤ b0) (hlz : vs.length.toInt32 = nz) (hnz : nz.toInt = vs.length) (hi : i1.toInt = ni) (hfit : ∀ z ∈ vs, fits .byte z = true) :
    MetFree l (⟨"com/example/portunus/portunus/AtomWriteCanonicalPinLaw", "put", "([BIB)V"⟩ : MethodName) (head1 (Jvm.Cond.code (⟨"com/example/portunus/portunus/AtomWriteCanonicalPinLaw", "put", "([BIB)V"⟩ : MethodName) method_3_code 3 none :: ws) ({ frames := 0, cells := 0, slots := 0, locals := 0 } : Room)) (fun za U => za = #[(.ref b0), (.int i1), (.int v2)] ∧ Z.Warmed39 U.vm ∧ U.heap = h0) (fun _ _ _ _ _ => True) (fun _ U o U' => ∃ rv Lq, o = .returned rv ∧ Q2 Z b0 i1 v2 vs nz ni h0 n0 rv U'.heap Lq ∧ FrameEnd U o U' Lq ({ frames := 0, cells := 0, slots := 0, locals := 0 } : Room).cells ({ frames := 0, cells := 0, slots := 0, locals := 0 } : Room).slots) := by
  refine MetFree.of_bodySF (plainFor_of_name pn_0) hisR ?_
  intro p e s m args below meth c s₁ Bd hml0 hP hK
  obtain ⟨rfl, hZ, hh⟩ := hP
  have hx := Bd.exec
  have hby := Bd.bytes
  have hml : c.maxLocals = 3 := hml0
  have hown : s.vm.findClass "com/example/portunus/portunus/AtomWriteCanonicalPinLaw" = some m.cls := findClass_of_methodNamed Bd.named
  have hnm := (name_of_methodNamed Bd.named Bd.method).1
  have X0 : Stand p l e ({ frames := 0, cells := 0, slots := 0, locals := 0 } : Room) s m #[(.ref b0), (.int i1), (.int v2)] below meth c s₁ [] 0 0 := Stand.of_body Bd
  have e0 : s₁.heap = h0 := by rw [← hh, Bd.state]; rfl
  have N0 := Fr.nil n0
  refine own_out (own_nm fun G hG => own_st (fun zt zk => castTop (ef_rm2 m b0 i1 v2) zk) ?_)
  show own_Go p e below G (s₁.setTop (mkF m 0 #[.val (.ref b0), .val (.int i1), .val (.int v2)] []))
  refine own_st (fun zw zk => XS.iloadN X0.here hx rfl (hb hby d2_0) rfl zk) ?_
  refine own_st (fun zw zk => XS.aloadN X0.here hx rfl (hb hby d2_1) rfl rfl zk) ?_
  refine own_st (fun zw zk => own_len X0 hx hZ e0 F0_ (z := nz) (hlz) (g := (mkF m 2 #[.val (.ref b0), .val (.int i1), .val (.int v2)] [(.ref b0), (.int i1)])) rfl rfl (hb hby d2_2) _ zk) ?_
  by_cases hc3 : i1 < nz
  · refine own_st (fun zw zk => XS.icmpNo X0.here hx rfl (hb hby d2_3) rfl (tlt hc3).2.1 zk) ?_
    refine own_st (fun zw zk => XS.aloadN X0.here hx rfl (hb hby d2_6) rfl rfl zk) ?_
    refine own_st (fun zw zk => XS.iloadN X0.here hx rfl (hb hby d2_7) rfl zk) ?_
    refine own_st (fun zw zk => XS.iloadN X0.here hx rfl (hb hby d2_8) rfl zk) ?_
    obtain ⟨T1, h1, X1, e1, W1, V1, st1⟩ := own_bst X0 hx hZ e0 F0_ (j := i1) (ni) (own_nn hi) (own_nat hi) (own_ltn hi hnz hc3) (g := (mkF m 9 #[.val (.ref b0), .val (.int i1), .val (.int v2)] [(.int v2), (.int i1), (.ref b0)])) rfl rfl (hb hby d2_9)
    have F0_1 : own_L Z h1 b0 .byte ((vs.set ni (.int (v2.toInt8.toInt32)))) := V1
    have N1 := Fr.snoc X1 N0 ge_b0
    refine own_st (fun zw zk => st1 zw zk) ?_
    have Z1 : n0 ≤ h1.size := Nat.le_trans Z0 (Keep.of_wr W1).1
    have Kp1 := (Keep.refl h0 [b0]).wr W1 (Or.inl (List.mem_of_getElem? (i := 0) rfl))
    show own_Go p e below G (T1.setTop (mkF m 10 #[.val (.ref b0), .val (.int i1), .val (.int v2)] []))
    subst hG
    obtain ⟨fs, hr, hrun, hended, hW, hsame⟩ := X1.leave (v := none) (hlocks := Bd.notSynchronized) (fun _ => rfl)
    refine ⟨_, X1.returnOut hx Bd.returns (hb hby d2_10) hr, _, hrun, hended, _, _, rfl, ?_, ⟨_, rfl⟩, hW, hsame.mono (by decide) (by decide)⟩
    show Q2 Z b0 i1 v2 vs nz ni h0 n0 _ T1.heap _
    rw [e1]
    exact ⟨rfl, N1, (vs.set ni (.int (v2.toInt8.toInt32))), Kp1, F0_1, (by simp), (own_setfit hfit (fits_nar_byte _))⟩
  · refine own_st (fun zw zk => XS.icmpYes X0.here hx rfl (pc0 := 3) (pc' := 10) rfl (hb hby d2_3) rfl (flt hc3).2.1 (by decide) (by decide) zk) ?_
    subst hG
    obtain ⟨fs, hr, hrun, hended, hW, hsame⟩ := X0.leave (v := none) (hlocks := Bd.notSynchronized) (fun _ => rfl)
    refine ⟨_, X0.returnOut hx Bd.returns (hb hby d2_10) hr, _, hrun, hended, _, _, rfl, ?_, ⟨_, rfl⟩, hW, hsame.mono (by decide) (by decide)⟩
    show Q2 Z b0 i1 v2 vs nz ni h0 n0 _ s₁.heap _
    rw [e0]
    exact ⟨rfl, N0, vs, (Keep.refl h0 [b0]), F0_, rfl, hfit⟩
theorem pd_0 : parseMethodDescriptor "([BIB)V" = some ⟨[(.array .byte), .int, .byte], none⟩ := by decide +kernel
theorem d1_0 : decode method_4_code 0 = .ok (.aload_n 0, 1) := by decide +kernel
theorem d1_1 : decode method_4_code 1 = .ok (.iload_n 1, 1) := by decide +kernel
theorem d1_2 : decode method_4_code 2 = .ok (.lload_n 2, 1) := by decide +kernel
theorem d1_3 : decode method_4_code 3 = .ok (.l2i, 1) := by decide +kernel
theorem d1_4 : decode method_4_code 4 = .ok (.i2b, 1) := by decide +kernel
theorem d1_5 : decode method_4_code 5 = .ok (.invokestatic 26, 3) := by decide +kernel
theorem d1_8 : decode method_4_code 8 = .ok (.aload_n 0, 1) := by decide +kernel
theorem d1_9 : decode method_4_code 9 = .ok (.iload_n 1, 1) := by decide +kernel
theorem d1_10 : decode method_4_code 10 = .ok (.iconst 1, 1) := by decide +kernel
theorem d1_11 : decode method_4_code 11 = .ok (.iadd, 1) := by decide +kernel
theorem d1_12 : decode method_4_code 12 = .ok (.lload_n 2, 1) := by decide +kernel
theorem d1_13 : decode method_4_code 13 = .ok (.bipush 8, 2) := by decide +kernel
theorem d1_15 : decode method_4_code 15 = .ok (.lushr, 1) := by decide +kernel
theorem d1_16 : decode method_4_code 16 = .ok (.l2i, 1) := by decide +kernel
theorem d1_17 : decode method_4_code 17 = .ok (.i2b, 1) := by decide +kernel
theorem d1_18 : decode method_4_code 18 = .ok (.invokestatic 26, 3) := by decide +kernel
theorem d1_21 : decode method_4_code 21 = .ok (.aload_n 0, 1) := by decide +kernel
theorem d1_22 : decode method_4_code 22 = .ok (.iload_n 1, 1) := by decide +kernel
theorem d1_23 : decode method_4_code 23 = .ok (.iconst 2, 1) := by decide +kernel
theorem d1_24 : decode method_4_code 24 = .ok (.iadd, 1) := by decide +kernel
theorem d1_25 : decode method_4_code 25 = .ok (.lload_n 2, 1) := by decide +kernel
theorem d1_26 : decode method_4_code 26 = .ok (.bipush 16, 2) := by decide +kernel
theorem d1_28 : decode method_4_code 28 = .ok (.lushr, 1) := by decide +kernel
theorem d1_29 : decode method_4_code 29 = .ok (.l2i, 1) := by decide +kernel
theorem d1_30 : decode method_4_code 30 = .ok (.i2b, 1) := by decide +kernel
theorem d1_31 : decode method_4_code 31 = .ok (.invokestatic 26, 3) := by decide +kernel
theorem d1_34 : decode method_4_code 34 = .ok (.aload_n 0, 1) := by decide +kernel
theorem d1_35 : decode method_4_code 35 = .ok (.iload_n 1, 1) := by decide +kernel
theorem d1_36 : decode method_4_code 36 = .ok (.iconst 3, 1) := by decide +kernel
theorem d1_37 : decode method_4_code 37 = .ok (.iadd, 1) := by decide +kernel
theorem d1_38 : decode method_4_code 38 = .ok (.lload_n 2, 1) := by decide +kernel
theorem d1_39 : decode method_4_code 39 = .ok (.bipush 24, 2) := by decide +kernel
theorem d1_41 : decode method_4_code 41 = .ok (.lushr, 1) := by decide +kernel
theorem d1_42 : decode method_4_code 42 = .ok (.l2i, 1) := by decide +kernel
theorem d1_43 : decode method_4_code 43 = .ok (.i2b, 1) := by decide +kernel
theorem d1_44 : decode method_4_code 44 = .ok (.invokestatic 26, 3) := by decide +kernel
theorem d1_47 : decode method_4_code 47 = .ok (.aload_n 0, 1) := by decide +kernel
theorem d1_48 : decode method_4_code 48 = .ok (.iload_n 1, 1) := by decide +kernel
theorem d1_49 : decode method_4_code 49 = .ok (.iconst 4, 1) := by decide +kernel
theorem d1_50 : decode method_4_code 50 = .ok (.iadd, 1) := by decide +kernel
theorem d1_51 : decode method_4_code 51 = .ok (.lload_n 2, 1) := by decide +kernel
theorem d1_52 : decode method_4_code 52 = .ok (.bipush 32, 2) := by decide +kernel
theorem d1_54 : decode method_4_code 54 = .ok (.lushr, 1) := by decide +kernel
theorem d1_55 : decode method_4_code 55 = .ok (.l2i, 1) := by decide +kernel
theorem d1_56 : decode method_4_code 56 = .ok (.i2b, 1) := by decide +kernel
theorem d1_57 : decode method_4_code 57 = .ok (.invokestatic 26, 3) := by decide +kernel
theorem d1_60 : decode method_4_code 60 = .ok (.aload_n 0, 1) := by decide +kernel
theorem d1_61 : decode method_4_code 61 = .ok (.iload_n 1, 1) := by decide +kernel
theorem d1_62 : decode method_4_code 62 = .ok (.iconst 5, 1) := by decide +kernel
theorem d1_63 : decode method_4_code 63 = .ok (.iadd, 1) := by decide +kernel
theorem d1_64 : decode method_4_code 64 = .ok (.lload_n 2, 1) := by decide +kernel
theorem d1_65 : decode method_4_code 65 = .ok (.bipush 40, 2) := by decide +kernel
theorem d1_67 : decode method_4_code 67 = .ok (.lushr, 1) := by decide +kernel
theorem d1_68 : decode method_4_code 68 = .ok (.l2i, 1) := by decide +kernel
theorem d1_69 : decode method_4_code 69 = .ok (.i2b, 1) := by decide +kernel
theorem d1_70 : decode method_4_code 70 = .ok (.invokestatic 26, 3) := by decide +kernel
theorem d1_73 : decode method_4_code 73 = .ok (.aload_n 0, 1) := by decide +kernel
theorem d1_74 : decode method_4_code 74 = .ok (.iload_n 1, 1) := by decide +kernel
theorem d1_75 : decode method_4_code 75 = .ok (.bipush 6, 2) := by decide +kernel
theorem d1_77 : decode method_4_code 77 = .ok (.iadd, 1) := by decide +kernel
theorem d1_78 : decode method_4_code 78 = .ok (.lload_n 2, 1) := by decide +kernel
theorem d1_79 : decode method_4_code 79 = .ok (.bipush 48, 2) := by decide +kernel
theorem d1_81 : decode method_4_code 81 = .ok (.lushr, 1) := by decide +kernel
theorem d1_82 : decode method_4_code 82 = .ok (.l2i, 1) := by decide +kernel
theorem d1_83 : decode method_4_code 83 = .ok (.i2b, 1) := by decide +kernel
theorem d1_84 : decode method_4_code 84 = .ok (.invokestatic 26, 3) := by decide +kernel
theorem d1_87 : decode method_4_code 87 = .ok (.aload_n 0, 1) := by decide +kernel
theorem d1_88 : decode method_4_code 88 = .ok (.iload_n 1, 1) := by decide +kernel
theorem d1_89 : decode method_4_code 89 = .ok (.bipush 7, 2) := by decide +kernel
theorem d1_91 : decode method_4_code 91 = .ok (.iadd, 1) := by decide +kernel
theorem d1_92 : decode method_4_code 92 = .ok (.lload_n 2, 1) := by decide +kernel
theorem d1_93 : decode method_4_code 93 = .ok (.bipush 56, 2) := by decide +kernel
theorem d1_95 : decode method_4_code 95 = .ok (.lushr, 1) := by decide +kernel
theorem d1_96 : decode method_4_code 96 = .ok (.l2i, 1) := by decide +kernel
theorem d1_97 : decode method_4_code 97 = .ok (.i2b, 1) := by decide +kernel
theorem d1_98 : decode method_4_code 98 = .ok (.invokestatic 26, 3) := by decide +kernel
theorem d1_101 : decode method_4_code 101 = .ok (.return_, 1) := by decide +kernel
theorem ef_rm1 (m : MethodId) (b0 : Addr) (o1 : Int32) (q2 : Int64) : entryFrame m #[(.ref b0), (.int o1), (.long q2)] 4 = mkF m 0 #[.val (.ref b0), .val (.int o1), .val (.long q2), .second] [] := by first | (simp [entryFrame, mkF, argsToLocals, Value.category]; done) | rfl
def Q1 (Z : State) (b0 : Addr) (o1 : Int32) (q2 : Int64) (vs : List Value) (nz : Int32) (no : Nat) (h0 : Heap) (n0 : Nat) (rv : Option Value) (hq : Heap) (Lq : List Loc) : Prop := rv = none ∧ Fr n0 Lq ∧ ∃ vq : List Value, Keep h0 hq [b0] ∧ own_L Z hq b0 .byte (vq) ∧ vq.length = vs.length ∧ ∀ z ∈ vq, fits .byte z = true
set_option maxRecDepth 65536 in
set_option maxHeartbeats 40000000 in
theorem rm1 (l : Launch) (Z : State) (a0 : Array Value) (hw : ∀ d ∈ tables_1, d.before a0 Z = true) (ws : List Jvm.Cond) (b0 : Addr) (o1 : Int32) (q2 : Int64) (vs : List Value) (nz : Int32) (no : Nat) (h0 : Heap) (n0 : Nat) (Z0 : n0 ≤ h0.size) (F0_ : own_L Z h0 b0 .byte (vs)) (ge_b0 : n0 ≤ b0) (hlz : vs.length.toInt32 = nz) (hnz : nz.toInt = vs.length) (ho : o1.toInt = no) (hno : no ≤ 8) (hfit : ∀ z ∈ vs, fits .byte z = true) :
    MetFree l (⟨"com/example/portunus/portunus/AtomWriteCanonicalPinLaw", "fillLong", "([BIJ)V"⟩ : MethodName) (head1 (Jvm.Cond.code (⟨"com/example/portunus/portunus/AtomWriteCanonicalPinLaw", "fillLong", "([BIJ)V"⟩ : MethodName) method_4_code 4 none :: ws) ({ frames := 1, cells := 0, slots := 0, locals := 14 } : Room)) (fun za U => za = #[(.ref b0), (.int o1), (.long q2)] ∧ Z.Warmed39 U.vm ∧ U.heap = h0) (fun _ _ _ _ _ => True) (fun _ U o U' => ∃ rv Lq, o = .returned rv ∧ Q1 Z b0 o1 q2 vs nz no h0 n0 rv U'.heap Lq ∧ FrameEnd U o U' Lq ({ frames := 1, cells := 0, slots := 0, locals := 14 } : Room).cells ({ frames := 1, cells := 0, slots := 0, locals := 14 } : Room).slots) := by
  refine MetFree.of_bodySF (plainFor_of_name pn_0) hisR ?_
  intro p e s m args below meth c s₁ Bd hml0 hP hK
  obtain ⟨rfl, hZ, hh⟩ := hP
  have hx := Bd.exec
  have hby := Bd.bytes
  have hml : c.maxLocals = 4 := hml0
  have hown : s.vm.findClass "com/example/portunus/portunus/AtomWriteCanonicalPinLaw" = some m.cls := findClass_of_methodNamed Bd.named
  have hnm := (name_of_methodNamed Bd.named Bd.method).1
  have X0 : Stand p l e ({ frames := 1, cells := 0, slots := 0, locals := 14 } : Room) s m #[(.ref b0), (.int o1), (.long q2)] below meth c s₁ [] 0 0 := Stand.of_body Bd
  have e0 : s₁.heap = h0 := by rw [← hh, Bd.state]; rfl
  have N0 := Fr.nil n0
  refine own_out (own_nm fun G hG => own_st (fun zt zk => castTop (ef_rm1 m b0 o1 q2) zk) ?_)
  show own_Go p e below G (s₁.setTop (mkF m 0 #[.val (.ref b0), .val (.int o1), .val (.long q2), .second] []))
  refine own_st (fun zw zk => XS.aloadN X0.here hx rfl (hb hby d1_0) rfl rfl zk) ?_
  refine own_st (fun zw zk => XS.iloadN X0.here hx rfl (hb hby d1_1) rfl zk) ?_
  refine own_st (fun zw zk => XS.lloadN X0.here hx rfl (hb hby d1_2) rfl zk) ?_
  refine own_st (fun zw zk => XS.l2i X0.here hx rfl (hb hby d1_3) rfl zk) ?_
  refine own_st (fun zw zk => XS.i2b X0.here hx rfl (hb hby d1_4) rfl zk) ?_
  obtain ⟨_, _, ⟨T2, L2, k2, n2⟩, -, X2, ⟨Lc2, hQ2, l2, y2, z2⟩, st2⟩ := Jvm.LawKit.callS X0 hx (y := (⟨"com/example/portunus/portunus/AtomWriteCanonicalPinLaw", "put", "([BIB)V"⟩ : MethodName)) hown (mvT hZ (hw _ (List.mem_of_getElem? (i := 5) rfl))) (mvT hZ (hw _ (List.mem_of_getElem? (i := 6) rfl))) (mvT hZ (hw _ (List.mem_of_getElem? (i := 3) rfl))) (mvT hZ (hw _ (List.mem_of_getElem? (i := 7) rfl))) (by decide) (backOf (W := 0) (rm2 l Z a0 hw [] b0 o1 ((q2.toInt32).toInt8.toInt32) vs nz (no + 0) h0 n0 Z0 (F0_) (ge_b0) (hlz) (hnz) (ho) (hfit)) hZ (hw _ (List.mem_of_getElem? (i := 7) rfl)) (hw _ (List.mem_of_getElem? (i := 3) rfl)) (by decide) (by decide)) (g := (mkF m 5 #[.val (.ref b0), .val (.int o1), .val (.long q2), .second] [(.int ((q2.toInt32).toInt8.toInt32)), (.int o1), (.ref b0)])) rfl (by rw [hml]; rfl) (argsL := [(.ref b0), (.int o1), (.int ((q2.toInt32).toInt8.toInt32))]) (rest := []) (lenOf pd_0 rfl) rfl (by show 2 * 0 + _ ≤ _; exact Nat.le_of_eq rfl) (hb hby d1_5) (fun _ _ => ⟨rfl, e0, (by decide : 0 + 0 ≤ _), (by decide : 0 + 0 ≤ _)⟩)
  dsimp only [Pt.U, Pt.locs, Pt.cells, Pt.slots] at X2 l2 y2 z2 st2 hQ2
  subst l2 y2 z2
  obtain ⟨rfl, N2q, vq2, K2, O2_0, P2_0, P2_1⟩ := hQ2
  have Z2 : n0 ≤ T2.heap.size := Nat.le_trans Z0 K2.1
  have Kp2 := (Keep.refl h0 [b0]).trans K2 (allS (Or.inl (List.mem_of_getElem? (i := 0) rfl)) all0)
  have N2 := Fr.app N0 N2q
  refine own_st (fun zw zk => st2 zw zk) ?_
  refine own_st (fun zw zk => XS.aloadN X2.here hx rfl (hb hby d1_8) rfl rfl zk) ?_
  refine own_st (fun zw zk => XS.iloadN X2.here hx rfl (hb hby d1_9) rfl zk) ?_
  show own_Go p e below G (T2.setTop (mkF m 10 #[.val (.ref b0), .val (.int o1), .val (.long q2), .second] [(.int o1), (.ref b0)]))
  refine own_st (fun zw zk => XS.iconst X2.here hx rfl (hb hby d1_10) zk) ?_
  refine own_st (fun zw zk => XS.iadd X2.here hx rfl (hb hby d1_11) rfl zk) ?_
  refine own_st (fun zw zk => XS.lloadN X2.here hx rfl (hb hby d1_12) rfl zk) ?_
  refine own_st (fun zw zk => XS.bipush X2.here hx rfl (hb hby d1_13) zk) ?_
  refine own_st (fun zw zk => XS.lushr X2.here hx rfl (hb hby d1_15) rfl zk) ?_
  refine own_st (fun zw zk => XS.l2i X2.here hx rfl (hb hby d1_16) rfl zk) ?_
  refine own_st (fun zw zk => XS.i2b X2.here hx rfl (hb hby d1_17) rfl zk) ?_
  obtain ⟨_, _, ⟨T3, L3, k3, n3⟩, -, X3, ⟨Lc3, hQ3, l3, y3, z3⟩, st3⟩ := Jvm.LawKit.callS X2 hx (y := (⟨"com/example/portunus/portunus/AtomWriteCanonicalPinLaw", "put", "([BIB)V"⟩ : MethodName)) hown (mvT hZ (hw _ (List.mem_of_getElem? (i := 5) rfl))) (mvT hZ (hw _ (List.mem_of_getElem? (i := 6) rfl))) (mvT hZ (hw _ (List.mem_of_getElem? (i := 3) rfl))) (mvT hZ (hw _ (List.mem_of_getElem? (i := 7) rfl))) (by decide) (backOf (W := 0) (rm2 l Z a0 hw [] b0 (o1 + (1 : Int32)) ((((q2.toUInt64 >>> ((8 : Int32) &&& 0x3f).toInt64.toUInt64).toInt64).toInt32).toInt8.toInt32) vq2 nz (no + 1) T2.heap n0 Z2 (O2_0) (ge_b0) (by rw [(P2_0.trans rfl)]; exact hlz) (by rw [(P2_0.trans rfl)]; exact hnz) (own_plus ho (by decide) (by omega)) (P2_1)) hZ (hw _ (List.mem_of_getElem? (i := 7) rfl)) (hw _ (List.mem_of_getElem? (i := 3) rfl)) (by decide) (by decide)) (g := (mkF m 18 #[.val (.ref b0), .val (.int o1), .val (.long q2), .second] [(.int ((((q2.toUInt64 >>> ((8 : Int32) &&& 0x3f).toInt64.toUInt64).toInt64).toInt32).toInt8.toInt32)), (.int (o1 + (1 : Int32))), (.ref b0)])) rfl (by rw [hml]; rfl) (argsL := [(.ref b0), (.int (o1 + (1 : Int32))), (.int ((((q2.toUInt64 >>> ((8 : Int32) &&& 0x3f).toInt64.toUInt64).toInt64).toInt32).toInt8.toInt32))]) (rest := []) (lenOf pd_0 rfl) rfl (by show 2 * 0 + _ ≤ _; exact Nat.le_of_eq rfl) (hb hby d1_18) (fun _ _ => ⟨rfl, rfl, (by decide : 0 + 0 ≤ _), (by decide : 0 + 0 ≤ _)⟩)
  dsimp only [Pt.U, Pt.locs, Pt.cells, Pt.slots] at X3 l3 y3 z3 st3 hQ3
  subst l3 y3 z3
  obtain ⟨rfl, N3q, vq3, K3, O3_0, P3_0, P3_1⟩ := hQ3
  have Z3 : n0 ≤ T3.heap.size := Nat.le_trans Z2 K3.1
  have Kp3 := Kp2.trans K3 (allS (Or.inl (List.mem_of_getElem? (i := 0) rfl)) all0)
  have N3 := Fr.app N2 N3q
  refine own_st (fun zw zk => st3 zw zk) ?_
  show own_Go p e below G (T3.setTop (mkF m 21 #[.val (.ref b0), .val (.int o1), .val (.long q2), .second] []))
  refine own_st (fun zw zk => XS.aloadN X3.here hx rfl (hb hby d1_21) rfl rfl zk) ?_
  refine own_st (fun zw zk => XS.iloadN X3.here hx rfl (hb hby d1_22) rfl zk) ?_
  refine own_st (fun zw zk => XS.iconst X3.here hx rfl (hb hby d1_23) zk) ?_
  refine own_st (fun zw zk => XS.iadd X3.here hx rfl (hb hby d1_24) rfl zk) ?_
  refine own_st (fun zw zk => XS.lloadN X3.here hx rfl (hb hby d1_25) rfl zk) ?_
  refine own_st (fun zw zk => XS.bipush X3.here hx rfl (hb hby d1_26) zk) ?_
  refine own_st (fun zw zk => XS.lushr X3.here hx rfl (hb hby d1_28) rfl zk) ?_
  refine own_st (fun zw zk => XS.l2i X3.here hx rfl (hb hby d1_29) rfl zk) ?_
  show own_Go p e below G (T3.setTop (mkF m 30 #[.val (.ref b0), .val (.int o1), .val (.long q2), .second] [(.int (((q2.toUInt64 >>> ((16 : Int32) &&& 0x3f).toInt64.toUInt64).toInt64).toInt32)), (.int (o1 + (2 : Int32))), (.ref b0)]))
  refine own_st (fun zw zk => XS.i2b X3.here hx rfl (hb hby d1_30) rfl zk) ?_
  obtain ⟨_, _, ⟨T4, L4, k4, n4⟩, -, X4, ⟨Lc4, hQ4, l4, y4, z4⟩, st4⟩ := Jvm.LawKit.callS X3 hx (y := (⟨"com/example/portunus/portunus/AtomWriteCanonicalPinLaw", "put", "([BIB)V"⟩ : MethodName)) hown (mvT hZ (hw _ (List.mem_of_getElem? (i := 5) rfl))) (mvT hZ (hw _ (List.mem_of_getElem? (i := 6) rfl))) (mvT hZ (hw _ (List.mem_of_getElem? (i := 3) rfl))) (mvT hZ (hw _ (List.mem_of_getElem? (i := 7) rfl))) (by decide) (backOf (W := 0) (rm2 l Z a0 hw [] b0 (o1 + (2 : Int32)) ((((q2.toUInt64 >>> ((16 : Int32) &&& 0x3f).toInt64.toUInt64).toInt64).toInt32).toInt8.toInt32) vq3 nz (no + 2) T3.heap n0 Z3 (O3_0) (ge_b0) (by rw [(P3_0.trans (P2_0.trans rfl))]; exact hlz) (by rw [(P3_0.trans (P2_0.trans rfl))]; exact hnz) (own_plus ho (by decide) (by omega)) (P3_1)) hZ (hw _ (List.mem_of_getElem? (i := 7) rfl)) (hw _ (List.mem_of_getElem? (i := 3) rfl)) (by decide) (by decide)) (g := (mkF m 31 #[.val (.ref b0), .val (.int o1), .val (.long q2), .second] [(.int ((((q2.toUInt64 >>> ((16 : Int32) &&& 0x3f).toInt64.toUInt64).toInt64).toInt32).toInt8.toInt32)), (.int (o1 + (2 : Int32))), (.ref b0)])) rfl (by rw [hml]; rfl) (argsL := [(.ref b0), (.int (o1 + (2 : Int32))), (.int ((((q2.toUInt64 >>> ((16 : Int32) &&& 0x3f).toInt64.toUInt64).toInt64).toInt32).toInt8.toInt32))]) (rest := []) (lenOf pd_0 rfl) rfl (by show 2 * 0 + _ ≤ _; exact Nat.le_of_eq rfl) (hb hby d1_31) (fun _ _ => ⟨rfl, rfl, (by decide : 0 + 0 ≤ _), (by decide : 0 + 0 ≤ _)⟩)
  dsimp only [Pt.U, Pt.locs, Pt.cells, Pt.slots] at X4 l4 y4 z4 st4 hQ4
  subst l4 y4 z4
  obtain ⟨rfl, N4q, vq4, K4, O4_0, P4_0, P4_1⟩ := hQ4
  have Z4 : n0 ≤ T4.heap.size := Nat.le_trans Z3 K4.1
  have Kp4 := Kp3.trans K4 (allS (Or.inl (List.mem_of_getElem? (i := 0) rfl)) all0)
  have N4 := Fr.app N3 N4q
  refine own_st (fun zw zk => st4 zw zk) ?_
  refine own_st (fun zw zk => XS.aloadN X4.here hx rfl (hb hby d1_34) rfl rfl zk) ?_
  refine own_st (fun zw zk => XS.iloadN X4.here hx rfl (hb hby d1_35) rfl zk) ?_
  refine own_st (fun zw zk => XS.iconst X4.here hx rfl (hb hby d1_36) zk) ?_
  refine own_st (fun zw zk => XS.iadd X4.here hx rfl (hb hby d1_37) rfl zk) ?_
  refine own_st (fun zw zk => XS.lloadN X4.here hx rfl (hb hby d1_38) rfl zk) ?_
  refine own_st (fun zw zk => XS.bipush X4.here hx rfl (hb hby d1_39) zk) ?_
  show own_Go p e below G (T4.setTop (mkF m 41 #[.val (.ref b0), .val (.int o1), .val (.long q2), .second] [(.int (24 : Int32)), (.long q2), (.int (o1 + (3 : Int32))), (.ref b0)]))
  refine own_st (fun zw zk => XS.lushr X4.here hx rfl (hb hby d1_41) rfl zk) ?_
  refine own_st (fun zw zk => XS.l2i X4.here hx rfl (hb hby d1_42) rfl zk) ?_
  refine own_st (fun zw zk => XS.i2b X4.here hx rfl (hb hby d1_43) rfl zk) ?_
  obtain ⟨_, _, ⟨T5, L5, k5, n5⟩, -, X5, ⟨Lc5, hQ5, l5, y5, z5⟩, st5⟩ := Jvm.LawKit.callS X4 hx (y := (⟨"com/example/portunus/portunus/AtomWriteCanonicalPinLaw", "put", "([BIB)V"⟩ : MethodName)) hown (mvT hZ (hw _ (List.mem_of_getElem? (i := 5) rfl))) (mvT hZ (hw _ (List.mem_of_getElem? (i := 6) rfl))) (mvT hZ (hw _ (List.mem_of_getElem? (i := 3) rfl))) (mvT hZ (hw _ (List.mem_of_getElem? (i := 7) rfl))) (by decide) (backOf (W := 0) (rm2 l Z a0 hw [] b0 (o1 + (3 : Int32)) ((((q2.toUInt64 >>> ((24 : Int32) &&& 0x3f).toInt64.toUInt64).toInt64).toInt32).toInt8.toInt32) vq4 nz (no + 3) T4.heap n0 Z4 (O4_0) (ge_b0) (by rw [(P4_0.trans (P3_0.trans (P2_0.trans rfl)))]; exact hlz) (by rw [(P4_0.trans (P3_0.trans (P2_0.trans rfl)))]; exact hnz) (own_plus ho (by decide) (by omega)) (P4_1)) hZ (hw _ (List.mem_of_getElem? (i := 7) rfl)) (hw _ (List.mem_of_getElem? (i := 3) rfl)) (by decide) (by decide)) (g := (mkF m 44 #[.val (.ref b0), .val (.int o1), .val (.long q2), .second] [(.int ((((q2.toUInt64 >>> ((24 : Int32) &&& 0x3f).toInt64.toUInt64).toInt64).toInt32).toInt8.toInt32)), (.int (o1 + (3 : Int32))), (.ref b0)])) rfl (by rw [hml]; rfl) (argsL := [(.ref b0), (.int (o1 + (3 : Int32))), (.int ((((q2.toUInt64 >>> ((24 : Int32) &&& 0x3f).toInt64.toUInt64).toInt64).toInt32).toInt8.toInt32))]) (rest := []) (lenOf pd_0 rfl) rfl (by show 2 * 0 + _ ≤ _; exact Nat.le_of_eq rfl) (hb hby d1_44) (fun _ _ => ⟨rfl, rfl, (by decide : 0 + 0 ≤ _), (by decide : 0 + 0 ≤ _)⟩)
  dsimp only [Pt.U, Pt.locs, Pt.cells, Pt.slots] at X5 l5 y5 z5 st5 hQ5
  subst l5 y5 z5
  obtain ⟨rfl, N5q, vq5, K5, O5_0, P5_0, P5_1⟩ := hQ5
  have Z5 : n0 ≤ T5.heap.size := Nat.le_trans Z4 K5.1
  have Kp5 := Kp4.trans K5 (allS (Or.inl (List.mem_of_getElem? (i := 0) rfl)) all0)
  have N5 := Fr.app N4 N5q
  refine own_st (fun zw zk => st5 zw zk) ?_
  refine own_st (fun zw zk => XS.aloadN X5.here hx rfl (hb hby d1_47) rfl rfl zk) ?_
  refine own_st (fun zw zk => XS.iloadN X5.here hx rfl (hb hby d1_48) rfl zk) ?_
  refine own_st (fun zw zk => XS.iconst X5.here hx rfl (hb hby d1_49) zk) ?_
  refine own_st (fun zw zk => XS.iadd X5.here hx rfl (hb hby d1_50) rfl zk) ?_
  show own_Go p e below G (T5.setTop (mkF m 51 #[.val (.ref b0), .val (.int o1), .val (.long q2), .second] [(.int (o1 + (4 : Int32))), (.ref b0)]))
  refine own_st (fun zw zk => XS.lloadN X5.here hx rfl (hb hby d1_51) rfl zk) ?_
  refine own_st (fun zw zk => XS.bipush X5.here hx rfl (hb hby d1_52) zk) ?_
  refine own_st (fun zw zk => XS.lushr X5.here hx rfl (hb hby d1_54) rfl zk) ?_
  refine own_st (fun zw zk => XS.l2i X5.here hx rfl (hb hby d1_55) rfl zk) ?_
  refine own_st (fun zw zk => XS.i2b X5.here hx rfl (hb hby d1_56) rfl zk) ?_
  obtain ⟨_, _, ⟨T6, L6, k6, n6⟩, -, X6, ⟨Lc6, hQ6, l6, y6, z6⟩, st6⟩ := Jvm.LawKit.callS X5 hx (y := (⟨"com/example/portunus/portunus/AtomWriteCanonicalPinLaw", "put", "([BIB)V"⟩ : MethodName)) hown (mvT hZ (hw _ (List.mem_of_getElem? (i := 5) rfl))) (mvT hZ (hw _ (List.mem_of_getElem? (i := 6) rfl))) (mvT hZ (hw _ (List.mem_of_getElem? (i := 3) rfl))) (mvT hZ (hw _ (List.mem_of_getElem? (i := 7) rfl))) (by decide) (backOf (W := 0) (rm2 l Z a0 hw [] b0 (o1 + (4 : Int32)) ((((q2.toUInt64 >>> ((32 : Int32) &&& 0x3f).toInt64.toUInt64).toInt64).toInt32).toInt8.toInt32) vq5 nz (no + 4) T5.heap n0 Z5 (O5_0) (ge_b0) (by rw [(P5_0.trans (P4_0.trans (P3_0.trans (P2_0.trans rfl))))]; exact hlz) (by rw [(P5_0.trans (P4_0.trans (P3_0.trans (P2_0.trans rfl))))]; exact hnz) (own_plus ho (by decide) (by omega)) (P5_1)) hZ (hw _ (List.mem_of_getElem? (i := 7) rfl)) (hw _ (List.mem_of_getElem? (i := 3) rfl)) (by decide) (by decide)) (g := (mkF m 57 #[.val (.ref b0), .val (.int o1), .val (.long q2), .second] [(.int ((((q2.toUInt64 >>> ((32 : Int32) &&& 0x3f).toInt64.toUInt64).toInt64).toInt32).toInt8.toInt32)), (.int (o1 + (4 : Int32))), (.ref b0)])) rfl (by rw [hml]; rfl) (argsL := [(.ref b0), (.int (o1 + (4 : Int32))), (.int ((((q2.toUInt64 >>> ((32 : Int32) &&& 0x3f).toInt64.toUInt64).toInt64).toInt32).toInt8.toInt32))]) (rest := []) (lenOf pd_0 rfl) rfl (by show 2 * 0 + _ ≤ _; exact Nat.le_of_eq rfl) (hb hby d1_57) (fun _ _ => ⟨rfl, rfl, (by decide : 0 + 0 ≤ _), (by decide : 0 + 0 ≤ _)⟩)
  dsimp only [Pt.U, Pt.locs, Pt.cells, Pt.slots] at X6 l6 y6 z6 st6 hQ6
  subst l6 y6 z6
  obtain ⟨rfl, N6q, vq6, K6, O6_0, P6_0, P6_1⟩ := hQ6
  have Z6 : n0 ≤ T6.heap.size := Nat.le_trans Z5 K6.1
  have Kp6 := Kp5.trans K6 (allS (Or.inl (List.mem_of_getElem? (i := 0) rfl)) all0)
  have N6 := Fr.app N5 N6q
  refine own_st (fun zw zk => st6 zw zk) ?_
  refine own_st (fun zw zk => XS.aloadN X6.here hx rfl (hb hby d1_60) rfl rfl zk) ?_
  refine own_st (fun zw zk => XS.iloadN X6.here hx rfl (hb hby d1_61) rfl zk) ?_
  show own_Go p e below G (T6.setTop (mkF m 62 #[.val (.ref b0), .val (.int o1), .val (.long q2), .second] [(.int o1), (.ref b0)]))
  refine own_st (fun zw zk => XS.iconst X6.here hx rfl (hb hby d1_62) zk) ?_
  refine own_st (fun zw zk => XS.iadd X6.here hx rfl (hb hby d1_63) rfl zk) ?_
  refine own_st (fun zw zk => XS.lloadN X6.here hx rfl (hb hby d1_64) rfl zk) ?_
  refine own_st (fun zw zk => XS.bipush X6.here hx rfl (hb hby d1_65) zk) ?_
  refine own_st (fun zw zk => XS.lushr X6.here hx rfl (hb hby d1_67) rfl zk) ?_
  refine own_st (fun zw zk => XS.l2i X6.here hx rfl (hb hby d1_68) rfl zk) ?_
  refine own_st (fun zw zk => XS.i2b X6.here hx rfl (hb hby d1_69) rfl zk) ?_
  obtain ⟨_, _, ⟨T7, L7, k7, n7⟩, -, X7, ⟨Lc7, hQ7, l7, y7, z7⟩, st7⟩ := Jvm.LawKit.callS X6 hx (y := (⟨"com/example/portunus/portunus/AtomWriteCanonicalPinLaw", "put", "([BIB)V"⟩ : MethodName)) hown (mvT hZ (hw _ (List.mem_of_getElem? (i := 5) rfl))) (mvT hZ (hw _ (List.mem_of_getElem? (i := 6) rfl))) (mvT hZ (hw _ (List.mem_of_getElem? (i := 3) rfl))) (mvT hZ (hw _ (List.mem_of_getElem? (i := 7) rfl))) (by decide) (backOf (W := 0) (rm2 l Z a0 hw [] b0 (o1 + (5 : Int32)) ((((q2.toUInt64 >>> ((40 : Int32) &&& 0x3f).toInt64.toUInt64).toInt64).toInt32).toInt8.toInt32) vq6 nz (no + 5) T6.heap n0 Z6 (O6_0) (ge_b0) (by rw [(P6_0.trans (P5_0.trans (P4_0.trans (P3_0.trans (P2_0.trans rfl)))))]; exact hlz) (by rw [(P6_0.trans (P5_0.trans (P4_0.trans (P3_0.trans (P2_0.trans rfl)))))]; exact hnz) (own_plus ho (by decide) (by omega)) (P6_1)) hZ (hw _ (List.mem_of_getElem? (i := 7) rfl)) (hw _ (List.mem_of_getElem? (i := 3) rfl)) (by decide) (by decide)) (g := (mkF m 70 #[.val (.ref b0), .val (.int o1), .val (.long q2), .second] [(.int ((((q2.toUInt64 >>> ((40 : Int32) &&& 0x3f).toInt64.toUInt64).toInt64).toInt32).toInt8.toInt32)), (.int (o1 + (5 : Int32))), (.ref b0)])) rfl (by rw [hml]; rfl) (argsL := [(.ref b0), (.int (o1 + (5 : Int32))), (.int ((((q2.toUInt64 >>> ((40 : Int32) &&& 0x3f).toInt64.toUInt64).toInt64).toInt32).toInt8.toInt32))]) (rest := []) (lenOf pd_0 rfl) rfl (by show 2 * 0 + _ ≤ _; exact Nat.le_of_eq rfl) (hb hby d1_70) (fun _ _ => ⟨rfl, rfl, (by decide : 0 + 0 ≤ _), (by decide : 0 + 0 ≤ _)⟩)
  dsimp only [Pt.U, Pt.locs, Pt.cells, Pt.slots] at X7 l7 y7 z7 st7 hQ7
  subst l7 y7 z7
  obtain ⟨rfl, N7q, vq7, K7, O7_0, P7_0, P7_1⟩ := hQ7
  have Z7 : n0 ≤ T7.heap.size := Nat.le_trans Z6 K7.1
  have Kp7 := Kp6.trans K7 (allS (Or.inl (List.mem_of_getElem? (i := 0) rfl)) all0)
  have N7 := Fr.app N6 N7q
  refine own_st (fun zw zk => st7 zw zk) ?_
  show own_Go p e below G (T7.setTop (mkF m 73 #[.val (.ref b0), .val (.int o1), .val (.long q2), .second] []))
  refine own_st (fun zw zk => XS.aloadN X7.here hx rfl (hb hby d1_73) rfl rfl zk) ?_
  refine own_st (fun zw zk => XS.iloadN X7.here hx rfl (hb hby d1_74) rfl zk) ?_
  refine own_st (fun zw zk => XS.bipush X7.here hx rfl (hb hby d1_75) zk) ?_
  refine own_st (fun zw zk => XS.iadd X7.here hx rfl (hb hby d1_77) rfl zk) ?_
  refine own_st (fun zw zk => XS.lloadN X7.here hx rfl (hb hby d1_78) rfl zk) ?_
  refine own_st (fun zw zk => XS.bipush X7.here hx rfl (hb hby d1_79) zk) ?_
  refine own_st (fun zw zk => XS.lushr X7.here hx rfl (hb hby d1_81) rfl zk) ?_
  refine own_st (fun zw zk => XS.l2i X7.here hx rfl (hb hby d1_82) rfl zk) ?_
  show own_Go p e below G (T7.setTop (mkF m 83 #[.val (.ref b0), .val (.int o1), .val (.long q2), .second] [(.int (((q2.toUInt64 >>> ((48 : Int32) &&& 0x3f).toInt64.toUInt64).toInt64).toInt32)), (.int (o1 + (6 : Int32))), (.ref b0)]))
  refine own_st (fun zw zk => XS.i2b X7.here hx rfl (hb hby d1_83) rfl zk) ?_
  obtain ⟨_, _, ⟨T8, L8, k8, n8⟩, -, X8, ⟨Lc8, hQ8, l8, y8, z8⟩, st8⟩ := Jvm.LawKit.callS X7 hx (y := (⟨"com/example/portunus/portunus/AtomWriteCanonicalPinLaw", "put", "([BIB)V"⟩ : MethodName)) hown (mvT hZ (hw _ (List.mem_of_getElem? (i := 5) rfl))) (mvT hZ (hw _ (List.mem_of_getElem? (i := 6) rfl))) (mvT hZ (hw _ (List.mem_of_getElem? (i := 3) rfl))) (mvT hZ (hw _ (List.mem_of_getElem? (i := 7) rfl))) (by decide) (backOf (W := 0) (rm2 l Z a0 hw [] b0 (o1 + (6 : Int32)) ((((q2.toUInt64 >>> ((48 : Int32) &&& 0x3f).toInt64.toUInt64).toInt64).toInt32).toInt8.toInt32) vq7 nz (no + 6) T7.heap n0 Z7 (O7_0) (ge_b0) (by rw [(P7_0.trans (P6_0.trans (P5_0.trans (P4_0.trans (P3_0.trans (P2_0.trans rfl))))))]; exact hlz) (by rw [(P7_0.trans (P6_0.trans (P5_0.trans (P4_0.trans (P3_0.trans (P2_0.trans rfl))))))]; exact hnz) (own_plus ho (by decide) (by omega)) (P7_1)) hZ (hw _ (List.mem_of_getElem? (i := 7) rfl)) (hw _ (List.mem_of_getElem? (i := 3) rfl)) (by decide) (by decide)) (g := (mkF m 84 #[.val (.ref b0), .val (.int o1), .val (.long q2), .second] [(.int ((((q2.toUInt64 >>> ((48 : Int32) &&& 0x3f).toInt64.toUInt64).toInt64).toInt32).toInt8.toInt32)), (.int (o1 + (6 : Int32))), (.ref b0)])) rfl (by rw [hml]; rfl) (argsL := [(.ref b0), (.int (o1 + (6 : Int32))), (.int ((((q2.toUInt64 >>> ((48 : Int32) &&& 0x3f).toInt64.toUInt64).toInt64).toInt32).toInt8.toInt32))]) (rest := []) (lenOf pd_0 rfl) rfl (by show 2 * 0 + _ ≤ _; exact Nat.le_of_eq rfl) (hb hby d1_84) (fun _ _ => ⟨rfl, rfl, (by decide : 0 + 0 ≤ _), (by decide : 0 + 0 ≤ _)⟩)
  dsimp only [Pt.U, Pt.locs, Pt.cells, Pt.slots] at X8 l8 y8 z8 st8 hQ8
  subst l8 y8 z8
  obtain ⟨rfl, N8q, vq8, K8, O8_0, P8_0, P8_1⟩ := hQ8
  have Z8 : n0 ≤ T8.heap.size := Nat.le_trans Z7 K8.1
  have Kp8 := Kp7.trans K8 (allS (Or.inl (List.mem_of_getElem? (i := 0) rfl)) all0)
  have N8 := Fr.app N7 N8q
  refine own_st (fun zw zk => st8 zw zk) ?_
  refine own_st (fun zw zk => XS.aloadN X8.here hx rfl (hb hby d1_87) rfl rfl zk) ?_
  refine own_st (fun zw zk => XS.iloadN X8.here hx rfl (hb hby d1_88) rfl zk) ?_
  refine own_st (fun zw zk => XS.bipush X8.here hx rfl (hb hby d1_89) zk) ?_
  refine own_st (fun zw zk => XS.iadd X8.here hx rfl (hb hby d1_91) rfl zk) ?_
  refine own_st (fun zw zk => XS.lloadN X8.here hx rfl (hb hby d1_92) rfl zk) ?_
  refine own_st (fun zw zk => XS.bipush X8.here hx rfl (hb hby d1_93) zk) ?_
  show own_Go p e below G (T8.setTop (mkF m 95 #[.val (.ref b0), .val (.int o1), .val (.long q2), .second] [(.int (56 : Int32)), (.long q2), (.int (o1 + (7 : Int32))), (.ref b0)]))
  refine own_st (fun zw zk => XS.lushr X8.here hx rfl (hb hby d1_95) rfl zk) ?_
  refine own_st (fun zw zk => XS.l2i X8.here hx rfl (hb hby d1_96) rfl zk) ?_
  refine own_st (fun zw zk => XS.i2b X8.here hx rfl (hb hby d1_97) rfl zk) ?_
  obtain ⟨_, _, ⟨T9, L9, k9, n9⟩, -, X9, ⟨Lc9, hQ9, l9, y9, z9⟩, st9⟩ := Jvm.LawKit.callS X8 hx (y := (⟨"com/example/portunus/portunus/AtomWriteCanonicalPinLaw", "put", "([BIB)V"⟩ : MethodName)) hown (mvT hZ (hw _ (List.mem_of_getElem? (i := 5) rfl))) (mvT hZ (hw _ (List.mem_of_getElem? (i := 6) rfl))) (mvT hZ (hw _ (List.mem_of_getElem? (i := 3) rfl))) (mvT hZ (hw _ (List.mem_of_getElem? (i := 7) rfl))) (by decide) (backOf (W := 0) (rm2 l Z a0 hw [] b0 (o1 + (7 : Int32)) ((((q2.toUInt64 >>> ((56 : Int32) &&& 0x3f).toInt64.toUInt64).toInt64).toInt32).toInt8.toInt32) vq8 nz (no + 7) T8.heap n0 Z8 (O8_0) (ge_b0) (by rw [(P8_0.trans (P7_0.trans (P6_0.trans (P5_0.trans (P4_0.trans (P3_0.trans (P2_0.trans rfl)))))))]; exact hlz) (by rw [(P8_0.trans (P7_0.trans (P6_0.trans (P5_0.trans (P4_0.trans (P3_0.trans (P2_0.trans rfl)))))))]; exact hnz) (own_plus ho (by decide) (by omega)) (P8_1)) hZ (hw _ (List.mem_of_getElem? (i := 7) rfl)) (hw _ (List.mem_of_getElem? (i := 3) rfl)) (by decide) (by decide)) (g := (mkF m 98 #[.val (.ref b0), .val (.int o1), .val (.long q2), .second] [(.int ((((q2.toUInt64 >>> ((56 : Int32) &&& 0x3f).toInt64.toUInt64).toInt64).toInt32).toInt8.toInt32)), (.int (o1 + (7 : Int32))), (.ref b0)])) rfl (by rw [hml]; rfl) (argsL := [(.ref b0), (.int (o1 + (7 : Int32))), (.int ((((q2.toUInt64 >>> ((56 : Int32) &&& 0x3f).toInt64.toUInt64).toInt64).toInt32).toInt8.toInt32))]) (rest := []) (lenOf pd_0 rfl) rfl (by show 2 * 0 + _ ≤ _; exact Nat.le_of_eq rfl) (hb hby d1_98) (fun _ _ => ⟨rfl, rfl, (by decide : 0 + 0 ≤ _), (by decide : 0 + 0 ≤ _)⟩)
  dsimp only [Pt.U, Pt.locs, Pt.cells, Pt.slots] at X9 l9 y9 z9 st9 hQ9
  subst l9 y9 z9
  obtain ⟨rfl, N9q, vq9, K9, O9_0, P9_0, P9_1⟩ := hQ9
  have Z9 : n0 ≤ T9.heap.size := Nat.le_trans Z8 K9.1
  have Kp9 := Kp8.trans K9 (allS (Or.inl (List.mem_of_getElem? (i := 0) rfl)) all0)
  have N9 := Fr.app N8 N9q
  refine own_st (fun zw zk => st9 zw zk) ?_
  subst hG
  obtain ⟨fs, hr, hrun, hended, hW, hsame⟩ := X9.leave (v := none) (hlocks := Bd.notSynchronized) (fun _ => rfl)
  refine ⟨_, X9.returnOut hx Bd.returns (hb hby d1_101) hr, _, hrun, hended, _, _, rfl, ?_, ⟨_, rfl⟩, hW, hsame.mono (by decide) (by decide)⟩
  show Q1 Z b0 o1 q2 vs nz no h0 n0 _ T9.heap _
  exact ⟨rfl, N9, vq9, Kp9, O9_0, (P9_0.trans (P8_0.trans (P7_0.trans (P6_0.trans (P5_0.trans (P4_0.trans (P3_0.trans (P2_0.trans rfl)))))))), P9_1⟩
theorem pn_1 : plainName "com/example/portunus/portunus/Atom" = true := by first | (simp [plainName, overriddenIn]; done) | decide +kernel
theorem d3_0 : decode prog_2_method_1_code 0 = .ok (.aload_n 0, 1) := by decide +kernel
theorem d3_1 : decode prog_2_method_1_code 1 = .ok (.invokespecial 1, 3) := by decide +kernel
theorem d3_4 : decode prog_2_method_1_code 4 = .ok (.aload_n 0, 1) := by decide +kernel
theorem d3_5 : decode prog_2_method_1_code 5 = .ok (.aload_n 1, 1) := by decide +kernel
theorem d3_6 : decode prog_2_method_1_code 6 = .ok (.invokevirtual 7, 3) := by decide +kernel
theorem d3_9 : decode prog_2_method_1_code 9 = .ok (.checkcast 8, 3) := by decide +kernel
theorem d3_12 : decode prog_2_method_1_code 12 = .ok (.putfield 13, 3) := by decide +kernel
theorem d3_15 : decode prog_2_method_1_code 15 = .ok (.return_, 1) := by decide +kernel
theorem ef_rm3 (m : MethodId) (d : Addr) (t1 : Addr) : entryFrame m #[(.ref d), (.ref t1)] 2 = mkF m 0 #[.val (.ref d), .val (.ref t1)] [] := by first | (simp [entryFrame, mkF, argsToLocals, Value.category]; done) | rfl
def Q3 (Z : State) (d : Addr) (t1 : Addr) (vs : List Value) (h0 : Heap) (n0 : Nat) (rv : Option Value) (hq : Heap) (Lq : List Loc) : Prop := rv = none ∧ Fr n0 Lq ∧ ∃ bb : Addr, h0.size ≤ bb ∧ Keep h0 hq [d] ∧ Exa Z hq d "com/example/portunus/portunus/Atom" ∧ Fld Z hq d "com/example/portunus/portunus/Atom" "bytes" "[B" (.ref bb) ∧ own_L Z hq bb .byte (vs)
set_option maxRecDepth 65536 in
set_option maxHeartbeats 40000000 in
theorem rm3 (l : Launch) (Z : State) (a0 : Array Value) (hw : ∀ d ∈ tables_1, d.before a0 Z = true) (ws : List Jvm.Cond) (d : Addr) (t1 : Addr) (vs : List Value) (h0 : Heap) (n0 : Nat) (Z0 : n0 ≤ h0.size) (F0_ : Exa Z h0 d "com/example/portunus/portunus/Atom") (F1_ : Fld Z h0 d "com/example/portunus/portunus/Atom" "bytes" "[B" .null) (F2_ : own_L Z h0 t1 .byte (vs)) (F3_ : Exa Z h0 t1 "[B") (ge_d : n0 ≤ d) (ne_d_t1 : d ≠ t1) (hcap : vs.length ≤ 105) (hfit : ∀ z ∈ vs, fits .byte z = true) :
    MetFree l (⟨"com/example/portunus/portunus/Atom", "<init>", "([B)V"⟩ : MethodName) (head1 (Jvm.Cond.code (⟨"com/example/portunus/portunus/Atom", "<init>", "([B)V"⟩ : MethodName) prog_2_method_1_code 2 none :: ws) ({ frames := 1, cells := 1, slots := 105, locals := 15 } : Room)) (fun za U => za = #[(.ref d), (.ref t1)] ∧ Z.Warmed39 U.vm ∧ U.heap = h0) (fun _ _ _ _ _ => True) (fun _ U o U' => ∃ rv Lq, o = .returned rv ∧ Q3 Z d t1 vs h0 n0 rv U'.heap Lq ∧ FrameEnd U o U' Lq ({ frames := 1, cells := 1, slots := 105, locals := 15 } : Room).cells ({ frames := 1, cells := 1, slots := 105, locals := 15 } : Room).slots) := by
  refine MetFree.of_bodySF (plainFor_of_name pn_1) hisR ?_
  intro p e s m args below meth c s₁ Bd hml0 hP hK
  obtain ⟨rfl, hZ, hh⟩ := hP
  have hx := Bd.exec
  have hby := Bd.bytes
  have hml : c.maxLocals = 2 := hml0
  have hown : s.vm.findClass "com/example/portunus/portunus/Atom" = some m.cls := findClass_of_methodNamed Bd.named
  have hnm := (name_of_methodNamed Bd.named Bd.method).1
  have X0 : Stand p l e ({ frames := 1, cells := 1, slots := 105, locals := 15 } : Room) s m #[(.ref d), (.ref t1)] below meth c s₁ [] 0 0 := Stand.of_body Bd
  have e0 : s₁.heap = h0 := by rw [← hh, Bd.state]; rfl
  have N0 := Fr.nil n0
  refine own_out (own_nm fun G hG => own_st (fun zt zk => castTop (ef_rm3 m d t1) zk) ?_)
  show own_Go p e below G (s₁.setTop (mkF m 0 #[.val (.ref d), .val (.ref t1)] []))
  refine own_st (fun zw zk => XS.aloadN X0.here hx rfl (hb hby d3_0) rfl rfl zk) ?_
  obtain ⟨T10, X10, e10, st10⟩ := initO X0 hx hZ hown (hw _ (List.mem_of_getElem? (i := 14) rfl)) (hw _ (List.mem_of_getElem? (i := 15) rfl)) (hw _ (List.mem_of_getElem? (i := 16) rfl)) e0 (g := (mkF m 1 #[.val (.ref d), .val (.ref t1)] [(.ref d)])) rfl (by rw [hml]; rfl) rfl (hb hby d3_1) (by decide) (W := 0) (by show 2 * 0 + _ ≤ _; exact Nat.le_of_eq rfl) (by decide)
  refine own_st (fun zw zk => st10 zw zk) ?_
  refine own_st (fun zw zk => XS.aloadN X10.here hx rfl (hb hby d3_4) rfl rfl zk) ?_
  refine own_st (fun zw zk => XS.aloadN X10.here hx rfl (hb hby d3_5) rfl rfl zk) ?_
  obtain ⟨T11, h11, X11, e11, E11, V11, A11, st11⟩ := own_clone X10 hx hZ hown (hw _ (List.mem_of_getElem? (i := 17) rfl)) (hw _ (List.mem_of_getElem? (i := 18) rfl)) (hw _ (List.mem_of_getElem? (i := 22) rfl)) (hw _ (List.mem_of_getElem? (i := 20) rfl)) (hw _ (List.mem_of_getElem? (i := 21) rfl)) (hw _ (List.mem_of_getElem? (i := 23) rfl)) e10 F2_ F3_ hfit (g := (mkF m 6 #[.val (.ref d), .val (.ref t1)] [(.ref t1), (.ref d)])) rfl (by rw [hml]; rfl) rfl (hb hby d3_6) (by decide) (W := 1) (cap := 105) (by show 2 * 0 + _ ≤ _; exact Nat.le_of_eq rfl) (by decide) hcap (by decide) (by decide)
  obtain ⟨b11, g11⟩ : ∃ z, z = h0.size := ⟨_, rfl⟩
  rw [← g11] at V11 A11 st11
  have G11 : n0 ≤ b11 := Nat.le_trans Z0 (Nat.le_of_eq g11.symm)
  have ne_d_b11 : d ≠ b11 := Nat.ne_of_lt (Nat.lt_of_lt_of_le F0_.lt (Nat.le_of_eq g11.symm))
  have ne_t1_b11 : t1 ≠ b11 := Nat.ne_of_lt (Nat.lt_of_lt_of_le F2_.lt (Nat.le_of_eq g11.symm))
  have F0_11 := F0_.ext E11
  have F1_11 := F1_.ext E11
  have F2_11 := F2_.ext E11
  have F3_11 := F3_.ext E11
  have Z11 : n0 ≤ h11.size := Nat.le_trans Z0 E11.1
  have sz11 : h0.size ≤ b11 := Nat.le_trans (Keep.refl h0 [d]).1 (Nat.le_of_eq g11.symm)
  have Kp11 := (Keep.refl h0 [d]).ext E11
  refine own_st (fun zw zk => st11 zw zk) ?_
  obtain ⟨T12, X12, e12, st12⟩ := castY X11 hx hZ hown (hw _ (List.mem_of_getElem? (i := 24) rfl)) e11 (Ins.self A11) (g := (mkF m 9 #[.val (.ref d), .val (.ref t1)] [(.ref b11), (.ref d)])) rfl rfl (hb hby d3_9)
  refine own_st (fun zw zk => st12 zw zk) ?_
  obtain ⟨T13, h13, X13, e13, W13, st13⟩ := putF X12 hx hZ hown (host := "") (Or.inl (hw _ (List.mem_of_getElem? (i := 26) rfl))) Via.refl e12 F1_11 F0_11 (Or.inr ⟨(hw _ (List.mem_of_getElem? (i := 27) rfl)), rfl, hnm⟩) (hw _ (List.mem_of_getElem? (i := 9) rfl)) (ty := (.array .byte)) (by decide) rfl rfl (g := (mkF m 12 #[.val (.ref d), .val (.ref t1)] [(.ref b11), (.ref d)])) rfl rfl (hb hby d3_12)
  have F1_13 := F1_11.same W13
  have N13 := Fr.snoc X13 N0 ge_d
  refine own_st (fun zw zk => st13 zw zk) ?_
  have F0_13 := F0_11.wr W13
  have F2_13 := F2_11.other W13 (Ne.symm ne_d_t1)
  have F3_13 := F3_11.wr W13
  have Vb11_13 := V11.other W13 (Ne.symm ne_d_b11)
  have Ab11_13 := A11.wr W13
  have Z13 : n0 ≤ h13.size := Nat.le_trans Z11 (Keep.of_wr W13).1
  have Kp13 := Kp11.wr W13 (Or.inl (List.mem_of_getElem? (i := 0) rfl))
  subst hG
  obtain ⟨fs, hr, hrun, hended, hW, hsame⟩ := X13.leave (v := none) (hlocks := Bd.notSynchronized) (fun _ => rfl)
  refine ⟨_, X13.returnOut hx Bd.returns (hb hby d3_15) hr, _, hrun, hended, _, _, rfl, ?_, ⟨_, rfl⟩, hW, hsame.mono (by decide) (by decide)⟩
  show Q3 Z d t1 vs h0 n0 _ T13.heap _
  rw [e13]
  exact ⟨rfl, N13, b11, sz11, Kp13, F0_13, F1_13, Vb11_13⟩
theorem d6_0 : decode prog_2_method_14_code 0 = .ok (.iconst 1, 1) := by decide +kernel
theorem d6_1 : decode prog_2_method_14_code 1 = .ok (.istore_n 1, 1) := by decide +kernel
theorem d6_2 : decode prog_2_method_14_code 2 = .ok (.iload_n 0, 1) := by decide +kernel
theorem d6_3 : decode prog_2_method_14_code 3 = .ok (.istore_n 2, 1) := by decide +kernel
theorem d6_4 : decode prog_2_method_14_code 4 = .ok (.iload_n 2, 1) := by decide +kernel
theorem d6_5 : decode prog_2_method_14_code 5 = .ok (.bipush 10, 2) := by decide +kernel
theorem d6_7 : decode prog_2_method_14_code 7 = .ok (.if_icmp .lt 14, 3) := by decide +kernel
theorem d6_10 : decode prog_2_method_14_code 10 = .ok (.iinc 1 1, 3) := by decide +kernel
theorem d6_13 : decode prog_2_method_14_code 13 = .ok (.iload_n 2, 1) := by decide +kernel
theorem d6_14 : decode prog_2_method_14_code 14 = .ok (.bipush 10, 2) := by decide +kernel
theorem d6_16 : decode prog_2_method_14_code 16 = .ok (.idiv, 1) := by decide +kernel
theorem d6_17 : decode prog_2_method_14_code 17 = .ok (.istore_n 2, 1) := by decide +kernel
theorem d6_18 : decode prog_2_method_14_code 18 = .ok (.goto (-14), 3) := by decide +kernel
theorem d6_21 : decode prog_2_method_14_code 21 = .ok (.iload_n 1, 1) := by decide +kernel
theorem d6_22 : decode prog_2_method_14_code 22 = .ok (.ireturn, 1) := by decide +kernel
theorem ef_rm6 (m : MethodId) (u : Int32) : entryFrame m #[(.int u)] 3 = mkF m 0 #[.val (.int u), .unset, .unset] [] := by first | (simp [entryFrame, mkF, argsToLocals, Value.category]; done) | rfl
def own_dg (u : Int32) : Int32 := (if u < (10 : Int32) then (1 : Int32) else (if (u / (10 : Int32)) < (10 : Int32) then (2 : Int32) else (if ((u / (10 : Int32)) / (10 : Int32)) < (10 : Int32) then (3 : Int32) else (4 : Int32))))
def Q6 (Z : State) (u : Int32) (h0 : Heap) (n0 : Nat) (rv : Option Value) (hq : Heap) (Lq : List Loc) : Prop := rv = some (.int (own_dg u)) ∧ Fr n0 Lq ∧ hq = h0
set_option maxRecDepth 65536 in
set_option maxHeartbeats 40000000 in
theorem rm6 (l : Launch) (Z : State) (a0 : Array Value) (hw : ∀ d ∈ tables_1, d.before a0 Z = true) (ws : List Jvm.Cond) (u : Int32) (h0 : Heap) (n0 : Nat) (Z0 : n0 ≤ h0.size) (hu9 : u.toInt ≤ 1010) (hz9 : 0 ≤ u.toInt) :
    MetFree l (⟨"com/example/portunus/portunus/Atom", "digits", "(I)I"⟩ : MethodName) (head1 (Jvm.Cond.code (⟨"com/example/portunus/portunus/Atom", "digits", "(I)I"⟩ : MethodName) prog_2_method_14_code 3 (some .int) :: ws) ({ frames := 0, cells := 0, slots := 0, locals := 0 } : Room)) (fun za U => za = #[(.int u)] ∧ Z.Warmed39 U.vm ∧ U.heap = h0) (fun _ _ _ _ _ => True) (fun _ U o U' => ∃ rv Lq, o = .returned rv ∧ Q6 Z u h0 n0 rv U'.heap Lq ∧ FrameEnd U o U' Lq ({ frames := 0, cells := 0, slots := 0, locals := 0 } : Room).cells ({ frames := 0, cells := 0, slots := 0, locals := 0 } : Room).slots) := by
  refine MetFree.of_bodySF (plainFor_of_name pn_1) hisR ?_
  intro p e s m args below meth c s₁ Bd hml0 hP hK
  obtain ⟨rfl, hZ, hh⟩ := hP
  have hx := Bd.exec
  have hby := Bd.bytes
  have hml : c.maxLocals = 3 := hml0
  have hown : s.vm.findClass "com/example/portunus/portunus/Atom" = some m.cls := findClass_of_methodNamed Bd.named
  have hnm := (name_of_methodNamed Bd.named Bd.method).1
  have X0 : Stand p l e ({ frames := 0, cells := 0, slots := 0, locals := 0 } : Room) s m #[(.int u)] below meth c s₁ [] 0 0 := Stand.of_body Bd
  have e0 : s₁.heap = h0 := by rw [← hh, Bd.state]; rfl
  have N0 := Fr.nil n0
  refine own_out (own_nm fun G hG => own_st (fun zt zk => castTop (ef_rm6 m u) zk) ?_)
  show own_Go p e below G (s₁.setTop (mkF m 0 #[.val (.int u), .unset, .unset] []))
  refine own_st (fun zw zk => XS.iconst X0.here hx rfl (hb hby d6_0) zk) ?_
  refine own_st (fun zw zk => XS.istoreN X0.here hx rfl (hb hby d6_1) rfl rfl zk) ?_
  show own_Go p e below G (s₁.setTop (mkF m 2 #[.val (.int u), .val (.int (1 : Int32)), .unset] []))
  refine own_st (fun zw zk => XS.iloadN X0.here hx rfl (hb hby d6_2) rfl zk) ?_
  refine own_st (fun zw zk => XS.istoreN X0.here hx rfl (hb hby d6_3) rfl rfl zk) ?_
  show own_Go p e below G (s₁.setTop (mkF m 4 #[.val (.int u), .val (.int (1 : Int32)), .val (.int u)] []))
  refine own_st (fun zw zk => XS.iloadN X0.here hx rfl (hb hby d6_4) rfl zk) ?_
  refine own_st (fun zw zk => XS.bipush X0.here hx rfl (hb hby d6_5) zk) ?_
  by_cases hc7 : u < (10 : Int32)
  · refine own_st (fun zw zk => XS.icmpYes X0.here hx rfl (pc0 := 7) (pc' := 21) rfl (hb hby d6_7) rfl (tlt hc7).1 (by decide) (by decide) zk) ?_
    refine own_st (fun zw zk => XS.iloadN X0.here hx rfl (hb hby d6_21) rfl zk) ?_
    subst hG
    obtain ⟨fs, hr, hrun, hended, hW, hsame⟩ := X0.leave (v := some (.int (1 : Int32))) (hlocks := Bd.notSynchronized) (fun h => by rw [Bd.returns] at h; cases h)
    refine ⟨_, own_retI X0 hx Bd.returns (hb hby d6_22) hr, _, hrun, hended, _, _, rfl, ?_, ⟨_, rfl⟩, hW, hsame.mono (by decide) (by decide)⟩
    show Q6 Z u h0 n0 _ s₁.heap _
    rw [e0]
    exact ⟨by unfold own_dg; rw [if_pos hc7], N0, rfl⟩
  · refine own_st (fun zw zk => XS.icmpNo X0.here hx rfl (hb hby d6_7) rfl (flt hc7).1 zk) ?_
    refine own_st (fun zw zk => XS.iinc X0.here hx rfl (hb hby d6_10) rfl rfl zk) ?_
    show own_Go p e below G (s₁.setTop (mkF m 13 #[.val (.int u), .val (.int (2 : Int32)), .val (.int u)] []))
    refine own_st (fun zw zk => XS.iloadN X0.here hx rfl (hb hby d6_13) rfl zk) ?_
    refine own_st (fun zw zk => XS.bipush X0.here hx rfl (hb hby d6_14) zk) ?_
    refine own_st (fun zw zk => XS.idiv X0.here hx rfl (hb hby d6_16) rfl (by decide) zk) ?_
    refine own_st (fun zw zk => XS.istoreN X0.here hx rfl (hb hby d6_17) rfl rfl zk) ?_
    show own_Go p e below G (s₁.setTop (mkF m 18 #[.val (.int u), .val (.int (2 : Int32)), .val (.int (u / (10 : Int32)))] []))
    refine own_st (fun zw zk => XS.goto X0.here hx rfl (pc0 := 18) (pc' := 4) rfl (hb hby d6_18) (by decide) (by decide) zk) ?_
    show own_Go p e below G (s₁.setTop (mkF m 4 #[.val (.int u), .val (.int (2 : Int32)), .val (.int (u / (10 : Int32)))] []))
    refine own_st (fun zw zk => XS.iloadN X0.here hx rfl (hb hby d6_4) rfl zk) ?_
    refine own_st (fun zw zk => XS.bipush X0.here hx rfl (hb hby d6_5) zk) ?_
    by_cases hc7_1 : (u / (10 : Int32)) < (10 : Int32)
    · refine own_st (fun zw zk => XS.icmpYes X0.here hx rfl (pc0 := 7) (pc' := 21) rfl (hb hby d6_7) rfl (tlt hc7_1).1 (by decide) (by decide) zk) ?_
      refine own_st (fun zw zk => XS.iloadN X0.here hx rfl (hb hby d6_21) rfl zk) ?_
      subst hG
      obtain ⟨fs, hr, hrun, hended, hW, hsame⟩ := X0.leave (v := some (.int (2 : Int32))) (hlocks := Bd.notSynchronized) (fun h => by rw [Bd.returns] at h; cases h)
      refine ⟨_, own_retI X0 hx Bd.returns (hb hby d6_22) hr, _, hrun, hended, _, _, rfl, ?_, ⟨_, rfl⟩, hW, hsame.mono (by decide) (by decide)⟩
      show Q6 Z u h0 n0 _ s₁.heap _
      rw [e0]
      exact ⟨by unfold own_dg; rw [if_neg hc7, if_pos hc7_1], N0, rfl⟩
    · refine own_st (fun zw zk => XS.icmpNo X0.here hx rfl (hb hby d6_7) rfl (flt hc7_1).1 zk) ?_
      refine own_st (fun zw zk => XS.iinc X0.here hx rfl (hb hby d6_10) rfl rfl zk) ?_
      show own_Go p e below G (s₁.setTop (mkF m 13 #[.val (.int u), .val (.int (3 : Int32)), .val (.int (u / (10 : Int32)))] []))
      refine own_st (fun zw zk => XS.iloadN X0.here hx rfl (hb hby d6_13) rfl zk) ?_
      refine own_st (fun zw zk => XS.bipush X0.here hx rfl (hb hby d6_14) zk) ?_
      refine own_st (fun zw zk => XS.idiv X0.here hx rfl (hb hby d6_16) rfl (by decide) zk) ?_
      refine own_st (fun zw zk => XS.istoreN X0.here hx rfl (hb hby d6_17) rfl rfl zk) ?_
      show own_Go p e below G (s₁.setTop (mkF m 18 #[.val (.int u), .val (.int (3 : Int32)), .val (.int ((u / (10 : Int32)) / (10 : Int32)))] []))
      refine own_st (fun zw zk => XS.goto X0.here hx rfl (pc0 := 18) (pc' := 4) rfl (hb hby d6_18) (by decide) (by decide) zk) ?_
      show own_Go p e below G (s₁.setTop (mkF m 4 #[.val (.int u), .val (.int (3 : Int32)), .val (.int ((u / (10 : Int32)) / (10 : Int32)))] []))
      refine own_st (fun zw zk => XS.iloadN X0.here hx rfl (hb hby d6_4) rfl zk) ?_
      refine own_st (fun zw zk => XS.bipush X0.here hx rfl (hb hby d6_5) zk) ?_
      by_cases hc7_2 : ((u / (10 : Int32)) / (10 : Int32)) < (10 : Int32)
      · refine own_st (fun zw zk => XS.icmpYes X0.here hx rfl (pc0 := 7) (pc' := 21) rfl (hb hby d6_7) rfl (tlt hc7_2).1 (by decide) (by decide) zk) ?_
        refine own_st (fun zw zk => XS.iloadN X0.here hx rfl (hb hby d6_21) rfl zk) ?_
        subst hG
        obtain ⟨fs, hr, hrun, hended, hW, hsame⟩ := X0.leave (v := some (.int (3 : Int32))) (hlocks := Bd.notSynchronized) (fun h => by rw [Bd.returns] at h; cases h)
        refine ⟨_, own_retI X0 hx Bd.returns (hb hby d6_22) hr, _, hrun, hended, _, _, rfl, ?_, ⟨_, rfl⟩, hW, hsame.mono (by decide) (by decide)⟩
        show Q6 Z u h0 n0 _ s₁.heap _
        rw [e0]
        exact ⟨by unfold own_dg; rw [if_neg hc7, if_neg hc7_1, if_pos hc7_2], N0, rfl⟩
      · refine own_st (fun zw zk => XS.icmpNo X0.here hx rfl (hb hby d6_7) rfl (flt hc7_2).1 zk) ?_
        refine own_st (fun zw zk => XS.iinc X0.here hx rfl (hb hby d6_10) rfl rfl zk) ?_
        show own_Go p e below G (s₁.setTop (mkF m 13 #[.val (.int u), .val (.int (4 : Int32)), .val (.int ((u / (10 : Int32)) / (10 : Int32)))] []))
        refine own_st (fun zw zk => XS.iloadN X0.here hx rfl (hb hby d6_13) rfl zk) ?_
        refine own_st (fun zw zk => XS.bipush X0.here hx rfl (hb hby d6_14) zk) ?_
        refine own_st (fun zw zk => XS.idiv X0.here hx rfl (hb hby d6_16) rfl (by decide) zk) ?_
        refine own_st (fun zw zk => XS.istoreN X0.here hx rfl (hb hby d6_17) rfl rfl zk) ?_
        show own_Go p e below G (s₁.setTop (mkF m 18 #[.val (.int u), .val (.int (4 : Int32)), .val (.int (((u / (10 : Int32)) / (10 : Int32)) / (10 : Int32)))] []))
        refine own_st (fun zw zk => XS.goto X0.here hx rfl (pc0 := 18) (pc' := 4) rfl (hb hby d6_18) (by decide) (by decide) zk) ?_
        show own_Go p e below G (s₁.setTop (mkF m 4 #[.val (.int u), .val (.int (4 : Int32)), .val (.int (((u / (10 : Int32)) / (10 : Int32)) / (10 : Int32)))] []))
        refine own_st (fun zw zk => XS.iloadN X0.here hx rfl (hb hby d6_4) rfl zk) ?_
        refine own_st (fun zw zk => XS.bipush X0.here hx rfl (hb hby d6_5) zk) ?_
        have hc7_3 : (((u / (10 : Int32)) / (10 : Int32)) / (10 : Int32)) < (10 : Int32) := own_d3 hz9 hu9
        refine own_st (fun zw zk => XS.icmpYes X0.here hx rfl (pc0 := 7) (pc' := 21) rfl (hb hby d6_7) rfl (tlt hc7_3).1 (by decide) (by decide) zk) ?_
        refine own_st (fun zw zk => XS.iloadN X0.here hx rfl (hb hby d6_21) rfl zk) ?_
        subst hG
        obtain ⟨fs, hr, hrun, hended, hW, hsame⟩ := X0.leave (v := some (.int (4 : Int32))) (hlocks := Bd.notSynchronized) (fun h => by rw [Bd.returns] at h; cases h)
        refine ⟨_, own_retI X0 hx Bd.returns (hb hby d6_22) hr, _, hrun, hended, _, _, rfl, ?_, ⟨_, rfl⟩, hW, hsame.mono (by decide) (by decide)⟩
        show Q6 Z u h0 n0 _ s₁.heap _
        rw [e0]
        exact ⟨by unfold own_dg; rw [if_neg hc7, if_neg hc7_1, if_neg hc7_2], N0, rfl⟩
theorem own_dg1 {u : Int32} {k : Nat} (h : u.toInt = k) (hk : k < 10) : own_dg u = 1 := by
  have z : (10 : Int32).toInt = 10 := by decide
  unfold own_dg
  rw [if_pos (by rw [Int32.lt_iff_toInt_lt, z]; omega)]
theorem own_dg2 {u : Int32} {k : Nat} (h : u.toInt = k) (hk : 10 ≤ k) (hk' : k < 100) : own_dg u = 2 := by
  have z : (10 : Int32).toInt = 10 := by decide
  have a := own_div (x := u) (by omega)
  unfold own_dg
  rw [if_neg (by rw [Int32.lt_iff_toInt_lt, z]; omega), if_pos (by rw [Int32.lt_iff_toInt_lt, z]; omega)]
theorem own_dg3 {u : Int32} {k : Nat} (h : u.toInt = k) (hk : 100 ≤ k) (hk' : k ≤ 105) : own_dg u = 3 := by
  have z : (10 : Int32).toInt = 10 := by decide
  have a := own_div (x := u) (by omega)
  have b := own_div (x := u / 10) (by omega)
  unfold own_dg
  rw [if_neg (by rw [Int32.lt_iff_toInt_lt, z]; omega), if_neg (by rw [Int32.lt_iff_toInt_lt, z]; omega), if_pos (by rw [Int32.lt_iff_toInt_lt, z]; omega)]
theorem own_rem {x : Int32} (h0 : 0 ≤ x.toInt) : (x % (10 : Int32)).toInt = x.toInt % 10 := (c_irem x 10 10 (by decide)).1 h0
/-- a digit's byte is the digit's sign -/
theorem own_dig {x y : Int32} {k : Nat} (hx : x.toInt = k) (hk : k < 10) (hy : y = x) : ((((48 : Int32) + y).toInt8.toInt32).toInt8.toInt32) = (48 : Int32) + x := by
  subst hy
  have a := c_iadd 48 y
  have r := rng32 (48 + y)
  have z : (48 : Int32).toInt = 48 := by decide
  rw [z] at a
  have b := c_i2b (48 + y)
  have c := c_i2b ((48 + y).toInt8.toInt32)
  apply Int32.toInt_inj.mp
  omega
theorem own_r1 {u : Int32} {k : Nat} (h : u.toInt = k) (hk : k < 10) : u % (10 : Int32) = u := by
  have a := own_rem (x := u) (by omega)
  apply Int32.toInt_inj.mp; omega
theorem own_r2 {u : Int32} {k : Nat} (h : u.toInt = k) (hk : k < 100) : (u / (10 : Int32)) % (10 : Int32) = u / (10 : Int32) := by
  have a := own_div (x := u) (by omega)
  have b := own_rem (x := u / 10) (by omega)
  apply Int32.toInt_inj.mp; omega
theorem own_r3 {u : Int32} {k : Nat} (h : u.toInt = k) (hk : k ≤ 105) : ((u / (10 : Int32)) / (10 : Int32)) % (10 : Int32) = u / (100 : Int32) := by
  have a := own_div (x := u) (by omega)
  have b := own_div (x := u / 10) (by omega)
  have c := own_rem (x := u / 10 / 10) (by omega)
  have d := (c_idiv u 100 100 (by decide) (by decide)).1 (by omega)
  apply Int32.toInt_inj.mp; omega
theorem own_wr1 {nz : Int32} {nn na : Nat} {vs : List Value} (hnn : nz.toInt = nn) (hna : na ≤ 15) (hnb : nn ≤ 105) (hln : vs.length = nn) (hd1 : nn < 10) : ∃ vo, vo = ((((List.replicate 128 (Value.int 0)).set (na + 0) (.int ((((48 : Int32) + (nz % (10 : Int32))).toInt8.toInt32).toInt8.toInt32))).set (na + 1) (.int (58 : Int32))).take (na + 2) ++ (vs.drop 0).take nn ++ (((List.replicate 128 (Value.int 0)).set (na + 0) (.int ((((48 : Int32) + (nz % (10 : Int32))).toInt8.toInt32).toInt8.toInt32))).set (na + 1) (.int (58 : Int32))).drop ((na + 2) + nn)) ∧ vo.length = 128 ∧ vo[na + 0]? = some (.int ((48 : Int32) + nz)) ∧ vo[na + 1]? = some (.int (58 : Int32)) ∧ (∀ k, k < nn → vo[(na + 2) + k]? = vs[k]?) ∧ vo[(na + 2) + nn]? = some (.int (0 : Int32)) ∧ (0 < na → vo[na - 1]? = some (.int (0 : Int32))) := by
  have hL : (((List.replicate 128 (Value.int 0)).set (na + 0) (.int ((((48 : Int32) + (nz % (10 : Int32))).toInt8.toInt32).toInt8.toInt32))).set (na + 1) (.int (58 : Int32))).length = 128 := by simp only [List.length_set, List.length_replicate]
  refine ⟨_, rfl, by simp only [List.length_append, List.length_take, List.length_drop, hL, hln]; omega, ?_, ?_, ?_, ?_, ?_⟩
  · rw [own_cat _ _ _ _ _ (by rw [hL]; omega) hln, if_pos (by omega), List.getElem?_set_ne (by omega), List.getElem?_set_self (by simp only [List.length_set, List.length_replicate]; omega)]
    exact congrArg (fun x => some (Value.int x)) (own_dig hnn hd1 (own_r1 hnn hd1))
  · rw [own_cat _ _ _ _ _ (by rw [hL]; omega) hln, if_pos (by omega), List.getElem?_set_self (by simp only [List.length_set, List.length_replicate]; omega)]
  · intro k hk
    rw [own_cat _ _ _ _ _ (by rw [hL]; omega) hln, if_neg (by omega), if_pos (by omega)]
    congr 1
    omega
  · rw [own_cat _ _ _ _ _ (by rw [hL]; omega) hln, if_neg (by omega), if_neg (by omega), List.getElem?_set_ne (by omega), List.getElem?_set_ne (by omega), List.getElem?_replicate, if_pos (by omega)]
  · intro h0
    rw [own_cat _ _ _ _ _ (by rw [hL]; omega) hln, if_pos (by omega), List.getElem?_set_ne (by omega), List.getElem?_set_ne (by omega), List.getElem?_replicate, if_pos (by omega)]
theorem pd_1 : parseMethodDescriptor "(I)I" = some ⟨[.int], some .int⟩ := by decide +kernel
theorem d5_0 : decode prog_2_method_8_code 0 = .ok (.iload_n 2, 1) := by decide +kernel
theorem d5_1 : decode prog_2_method_8_code 1 = .ok (.aload_n 0, 1) := by decide +kernel
theorem d5_2 : decode prog_2_method_8_code 2 = .ok (.getfield 13, 3) := by decide +kernel
theorem d5_5 : decode prog_2_method_8_code 5 = .ok (.arraylength, 1) := by decide +kernel
theorem d5_6 : decode prog_2_method_8_code 6 = .ok (.invokestatic 45, 3) := by decide +kernel
theorem d5_9 : decode prog_2_method_8_code 9 = .ok (.iadd, 1) := by decide +kernel
theorem d5_10 : decode prog_2_method_8_code 10 = .ok (.istore_n 3, 1) := by decide +kernel
theorem d5_11 : decode prog_2_method_8_code 11 = .ok (.aload_n 0, 1) := by decide +kernel
theorem d5_12 : decode prog_2_method_8_code 12 = .ok (.getfield 13, 3) := by decide +kernel
theorem d5_15 : decode prog_2_method_8_code 15 = .ok (.arraylength, 1) := by decide +kernel
theorem d5_16 : decode prog_2_method_8_code 16 = .ok (.istore 4, 2) := by decide +kernel
theorem d5_18 : decode prog_2_method_8_code 18 = .ok (.iload_n 3, 1) := by decide +kernel
theorem d5_19 : decode prog_2_method_8_code 19 = .ok (.iconst 1, 1) := by decide +kernel
theorem d5_20 : decode prog_2_method_8_code 20 = .ok (.isub, 1) := by decide +kernel
theorem d5_21 : decode prog_2_method_8_code 21 = .ok (.istore 5, 2) := by decide +kernel
theorem d5_23 : decode prog_2_method_8_code 23 = .ok (.iload 5, 2) := by decide +kernel
theorem d5_25 : decode prog_2_method_8_code 25 = .ok (.iload_n 2, 1) := by decide +kernel
theorem d5_26 : decode prog_2_method_8_code 26 = .ok (.if_icmp .lt 29, 3) := by decide +kernel
theorem d5_29 : decode prog_2_method_8_code 29 = .ok (.aload_n 1, 1) := by decide +kernel
theorem d5_30 : decode prog_2_method_8_code 30 = .ok (.iload 5, 2) := by decide +kernel
theorem d5_32 : decode prog_2_method_8_code 32 = .ok (.bipush 48, 2) := by decide +kernel
theorem d5_34 : decode prog_2_method_8_code 34 = .ok (.iload 4, 2) := by decide +kernel
theorem d5_36 : decode prog_2_method_8_code 36 = .ok (.bipush 10, 2) := by decide +kernel
theorem d5_38 : decode prog_2_method_8_code 38 = .ok (.irem, 1) := by decide +kernel
theorem d5_39 : decode prog_2_method_8_code 39 = .ok (.iadd, 1) := by decide +kernel
theorem d5_40 : decode prog_2_method_8_code 40 = .ok (.i2b, 1) := by decide +kernel
theorem d5_41 : decode prog_2_method_8_code 41 = .ok (.bastore, 1) := by decide +kernel
theorem d5_42 : decode prog_2_method_8_code 42 = .ok (.iload 4, 2) := by decide +kernel
theorem d5_44 : decode prog_2_method_8_code 44 = .ok (.bipush 10, 2) := by decide +kernel
theorem d5_46 : decode prog_2_method_8_code 46 = .ok (.idiv, 1) := by decide +kernel
theorem d5_47 : decode prog_2_method_8_code 47 = .ok (.istore 4, 2) := by decide +kernel
theorem d5_49 : decode prog_2_method_8_code 49 = .ok (.iinc 5 (-1), 3) := by decide +kernel
theorem d5_52 : decode prog_2_method_8_code 52 = .ok (.goto (-29), 3) := by decide +kernel
theorem d5_55 : decode prog_2_method_8_code 55 = .ok (.aload_n 1, 1) := by decide +kernel
theorem d5_56 : decode prog_2_method_8_code 56 = .ok (.iload_n 3, 1) := by decide +kernel
theorem d5_57 : decode prog_2_method_8_code 57 = .ok (.bipush 58, 2) := by decide +kernel
theorem d5_59 : decode prog_2_method_8_code 59 = .ok (.bastore, 1) := by decide +kernel
theorem d5_60 : decode prog_2_method_8_code 60 = .ok (.aload_n 0, 1) := by decide +kernel
theorem d5_61 : decode prog_2_method_8_code 61 = .ok (.getfield 13, 3) := by decide +kernel
theorem d5_64 : decode prog_2_method_8_code 64 = .ok (.iconst 0, 1) := by decide +kernel
theorem d5_65 : decode prog_2_method_8_code 65 = .ok (.aload_n 1, 1) := by decide +kernel
theorem d5_66 : decode prog_2_method_8_code 66 = .ok (.iload_n 3, 1) := by decide +kernel
theorem d5_67 : decode prog_2_method_8_code 67 = .ok (.iconst 1, 1) := by decide +kernel
theorem d5_68 : decode prog_2_method_8_code 68 = .ok (.iadd, 1) := by decide +kernel
theorem d5_69 : decode prog_2_method_8_code 69 = .ok (.aload_n 0, 1) := by decide +kernel
theorem d5_70 : decode prog_2_method_8_code 70 = .ok (.getfield 13, 3) := by decide +kernel
theorem d5_73 : decode prog_2_method_8_code 73 = .ok (.arraylength, 1) := by decide +kernel
theorem d5_74 : decode prog_2_method_8_code 74 = .ok (.invokestatic 49, 3) := by decide +kernel
theorem d5_77 : decode prog_2_method_8_code 77 = .ok (.iload_n 3, 1) := by decide +kernel
theorem d5_78 : decode prog_2_method_8_code 78 = .ok (.iconst 1, 1) := by decide +kernel
theorem d5_79 : decode prog_2_method_8_code 79 = .ok (.iadd, 1) := by decide +kernel
theorem d5_80 : decode prog_2_method_8_code 80 = .ok (.aload_n 0, 1) := by decide +kernel
theorem d5_81 : decode prog_2_method_8_code 81 = .ok (.getfield 13, 3) := by decide +kernel
theorem d5_84 : decode prog_2_method_8_code 84 = .ok (.arraylength, 1) := by decide +kernel
theorem d5_85 : decode prog_2_method_8_code 85 = .ok (.iadd, 1) := by decide +kernel
theorem d5_86 : decode prog_2_method_8_code 86 = .ok (.ireturn, 1) := by decide +kernel
theorem ef_rm_w1 (m : MethodId) (d : Addr) (o1 : Addr) (p2 : Int32) : entryFrame m #[(.ref d), (.ref o1), (.int p2)] 6 = mkF m 0 #[.val (.ref d), .val (.ref o1), .val (.int p2), .unset, .unset, .unset] [] := by first | (simp [entryFrame, mkF, argsToLocals, Value.category]; done) | rfl
def Q_w1 (Z : State) (d : Addr) (o1 : Addr) (p2 : Int32) (t : Addr) (vs : List Value) (nz : Int32) (nn : Nat) (na : Nat) (h0 : Heap) (n0 : Nat) (rv : Option Value) (hq : Heap) (Lq : List Loc) : Prop := rv = some (.int (((p2 + (1 : Int32)) + (1 : Int32)) + nz)) ∧ Fr n0 Lq ∧ ∃ vo : List Value, Keep h0 hq [o1] ∧ own_L Z hq o1 .byte (vo) ∧ vo.length = 128 ∧ vo[na + 0]? = some (.int ((48 : Int32) + nz)) ∧ vo[na + 1]? = some (.int (58 : Int32)) ∧ (∀ k, k < nn → vo[(na + 2) + k]? = vs[k]?) ∧ vo[(na + 2) + nn]? = some (.int (0 : Int32)) ∧ (0 < na → vo[na - 1]? = some (.int (0 : Int32)))
set_option maxRecDepth 65536 in
set_option maxHeartbeats 40000000 in
theorem rm_w1 (l : Launch) (Z : State) (a0 : Array Value) (hw : ∀ d ∈ tables_1, d.before a0 Z = true) (ws : List Jvm.Cond) (d : Addr) (o1 : Addr) (p2 : Int32) (t : Addr) (vs : List Value) (nz : Int32) (nn : Nat) (na : Nat) (h0 : Heap) (n0 : Nat) (Z0 : n0 ≤ h0.size) (F0_ : Fld Z h0 d "com/example/portunus/portunus/Atom" "bytes" "[B" (.ref t)) (F1_ : own_L Z h0 t .byte (vs)) (F2_ : own_L Z h0 o1 .byte ((List.replicate 128 (Value.int 0)))) (ge_o1 : n0 ≤ o1) (ne_d_o1 : d ≠ o1) (ne_t_o1 : t ≠ o1) (hlz : vs.length.toInt32 = nz) (hln : vs.length = nn) (hnn : nz.toInt = nn) (hat : p2.toInt = na) (hna : na ≤ 15) (hnb : nn ≤ 105) (hfit : ∀ z ∈ vs, fits .byte z = true) (hd1 : nn < 10) :
    MetFree l (⟨"com/example/portunus/portunus/Atom", "writeCanonical", "([BI)I"⟩ : MethodName) (head1 (Jvm.Cond.code (⟨"com/example/portunus/portunus/Atom", "writeCanonical", "([BI)I"⟩ : MethodName) prog_2_method_8_code 6 (some .int) :: ws) ({ frames := 1, cells := 0, slots := 0, locals := 18 } : Room)) (fun za U => za = #[(.ref d), (.ref o1), (.int p2)] ∧ Z.Warmed39 U.vm ∧ U.heap = h0) (fun _ _ _ _ _ => True) (fun _ U o U' => ∃ rv Lq, o = .returned rv ∧ Q_w1 Z d o1 p2 t vs nz nn na h0 n0 rv U'.heap Lq ∧ FrameEnd U o U' Lq ({ frames := 1, cells := 0, slots := 0, locals := 18 } : Room).cells ({ frames := 1, cells := 0, slots := 0, locals := 18 } : Room).slots) := by
  refine MetFree.of_bodySF (plainFor_of_name pn_1) hisR ?_
  intro p e s m args below meth c s₁ Bd hml0 hP hK
  obtain ⟨rfl, hZ, hh⟩ := hP
  have hx := Bd.exec
  have hby := Bd.bytes
  have hml : c.maxLocals = 6 := hml0
  have hown : s.vm.findClass "com/example/portunus/portunus/Atom" = some m.cls := findClass_of_methodNamed Bd.named
  have hnm := (name_of_methodNamed Bd.named Bd.method).1
  have X0 : Stand p l e ({ frames := 1, cells := 0, slots := 0, locals := 18 } : Room) s m #[(.ref d), (.ref o1), (.int p2)] below meth c s₁ [] 0 0 := Stand.of_body Bd
  have e0 : s₁.heap = h0 := by rw [← hh, Bd.state]; rfl
  have N0 := Fr.nil n0
  refine own_out (own_nm fun G hG => own_st (fun zt zk => castTop (ef_rm_w1 m d o1 p2) zk) ?_)
  show own_Go p e below G (s₁.setTop (mkF m 0 #[.val (.ref d), .val (.ref o1), .val (.int p2), .unset, .unset, .unset] []))
  refine own_st (fun zw zk => XS.iloadN X0.here hx rfl (hb hby d5_0) rfl zk) ?_
  refine own_st (fun zw zk => XS.aloadN X0.here hx rfl (hb hby d5_1) rfl rfl zk) ?_
  obtain ⟨T14, X14, e14, st14⟩ := getF X0 hx hZ hown (host := "") (Or.inl (hw _ (List.mem_of_getElem? (i := 26) rfl))) Via.refl e0 F0_ (g := (mkF m 2 #[.val (.ref d), .val (.ref o1), .val (.int p2), .unset, .unset, .unset] [(.ref d), (.int p2)])) rfl rfl (hb hby d5_2)
  refine own_st (fun zw zk => st14 zw zk) ?_
  refine own_st (fun zw zk => own_len X14 hx hZ e14 F1_ (z := nz) (hlz) (g := (mkF m 5 #[.val (.ref d), .val (.ref o1), .val (.int p2), .unset, .unset, .unset] [(.ref t), (.int p2)])) rfl rfl (hb hby d5_5) _ zk) ?_
  obtain ⟨_, _, ⟨T15, L15, k15, n15⟩, -, X15, ⟨Lc15, hQ15, l15, y15, z15⟩, st15⟩ := Jvm.LawKit.callS X14 hx (y := (⟨"com/example/portunus/portunus/Atom", "digits", "(I)I"⟩ : MethodName)) hown (mvT hZ (hw _ (List.mem_of_getElem? (i := 33) rfl))) (mvT hZ (hw _ (List.mem_of_getElem? (i := 34) rfl))) (mvT hZ (hw _ (List.mem_of_getElem? (i := 10) rfl))) (mvT hZ (hw _ (List.mem_of_getElem? (i := 35) rfl))) (by decide) (backOf (W := 1) (rm6 l Z a0 hw [] nz h0 n0 Z0 (by omega) (by omega)) hZ (hw _ (List.mem_of_getElem? (i := 35) rfl)) (hw _ (List.mem_of_getElem? (i := 10) rfl)) (by decide) (by decide)) (g := (mkF m 6 #[.val (.ref d), .val (.ref o1), .val (.int p2), .unset, .unset, .unset] [(.int nz), (.int p2)])) rfl (by rw [hml]; rfl) (argsL := [(.int nz)]) (rest := [(.int p2)]) (lenOf pd_1 rfl) rfl (by show 2 * 0 + _ ≤ _; exact Nat.le_of_eq rfl) (hb hby d5_6) (fun _ _ => ⟨rfl, e14, (by decide : 0 + 0 ≤ _), (by decide : 0 + 0 ≤ _)⟩)
  dsimp only [Pt.U, Pt.locs, Pt.cells, Pt.slots] at X15 l15 y15 z15 st15 hQ15
  subst l15 y15 z15
  obtain ⟨rfl, N15q, e15⟩ := hQ15
  have N15 := Fr.app N0 N15q
  refine own_st (fun zw zk => st15 zw zk) ?_
  show own_Go p e below G (T15.setTop (mkF m 9 #[.val (.ref d), .val (.ref o1), .val (.int p2), .unset, .unset, .unset] [(.int (own_dg nz)), (.int p2)]))
  rw [show (own_dg nz) = (1 : Int32) from own_dg1 hnn hd1]
  refine own_st (fun zw zk => XS.iadd X15.here hx rfl (hb hby d5_9) rfl zk) ?_
  refine own_st (fun zw zk => XS.istoreN X15.here hx rfl (hb hby d5_10) rfl rfl zk) ?_
  show own_Go p e below G (T15.setTop (mkF m 11 #[.val (.ref d), .val (.ref o1), .val (.int p2), .val (.int (p2 + (1 : Int32))), .unset, .unset] []))
  refine own_st (fun zw zk => XS.aloadN X15.here hx rfl (hb hby d5_11) rfl rfl zk) ?_
  obtain ⟨T16, X16, e16, st16⟩ := getF X15 hx hZ hown (host := "") (Or.inl (hw _ (List.mem_of_getElem? (i := 26) rfl))) Via.refl e15 F0_ (g := (mkF m 12 #[.val (.ref d), .val (.ref o1), .val (.int p2), .val (.int (p2 + (1 : Int32))), .unset, .unset] [(.ref d)])) rfl rfl (hb hby d5_12)
  refine own_st (fun zw zk => st16 zw zk) ?_
  refine own_st (fun zw zk => own_len X16 hx hZ e16 F1_ (z := nz) (hlz) (g := (mkF m 15 #[.val (.ref d), .val (.ref o1), .val (.int p2), .val (.int (p2 + (1 : Int32))), .unset, .unset] [(.ref t)])) rfl rfl (hb hby d5_15) _ zk) ?_
  refine own_st (fun zw zk => XS.istore X16.here hx rfl (hb hby d5_16) rfl rfl zk) ?_
  show own_Go p e below G (T16.setTop (mkF m 18 #[.val (.ref d), .val (.ref o1), .val (.int p2), .val (.int (p2 + (1 : Int32))), .val (.int nz), .unset] []))
  refine own_st (fun zw zk => XS.iloadN X16.here hx rfl (hb hby d5_18) rfl zk) ?_
  refine own_st (fun zw zk => XS.iconst X16.here hx rfl (hb hby d5_19) zk) ?_
  refine own_st (fun zw zk => XS.isub X16.here hx rfl (hb hby d5_20) rfl zk) ?_
  refine own_st (fun zw zk => XS.istore X16.here hx rfl (hb hby d5_21) rfl rfl zk) ?_
  show own_Go p e below G (T16.setTop (mkF m 23 #[.val (.ref d), .val (.ref o1), .val (.int p2), .val (.int (p2 + (1 : Int32))), .val (.int nz), .val (.int ((p2 + (1 : Int32)) - (1 : Int32)))] []))
  generalize hps0 : ((p2 + (1 : Int32)) - (1 : Int32)) = ps0
  have hp0 : ps0.toInt = (na + 0 : Nat) := by rw [← hps0]; exact own_dec (n := na + 0) (own_plus (k := 1) hat (by decide) (by omega))
  refine own_st (fun zw zk => XS.iload X16.here hx rfl (hb hby d5_23) rfl zk) ?_
  refine own_st (fun zw zk => XS.iloadN X16.here hx rfl (hb hby d5_25) rfl zk) ?_
  have hc26 : ¬ (ps0 < p2) := own_nlt hp0 hat (by omega)
  refine own_st (fun zw zk => XS.icmpNo X16.here hx rfl (hb hby d5_26) rfl (flt hc26).1 zk) ?_
  refine own_st (fun zw zk => XS.aloadN X16.here hx rfl (hb hby d5_29) rfl rfl zk) ?_
  refine own_st (fun zw zk => XS.iload X16.here hx rfl (hb hby d5_30) rfl zk) ?_
  refine own_st (fun zw zk => XS.bipush X16.here hx rfl (hb hby d5_32) zk) ?_
  refine own_st (fun zw zk => XS.iload X16.here hx rfl (hb hby d5_34) rfl zk) ?_
  refine own_st (fun zw zk => XS.bipush X16.here hx rfl (hb hby d5_36) zk) ?_
  show own_Go p e below G (T16.setTop (mkF m 38 #[.val (.ref d), .val (.ref o1), .val (.int p2), .val (.int (p2 + (1 : Int32))), .val (.int nz), .val (.int ps0)] [(.int (10 : Int32)), (.int nz), (.int (48 : Int32)), (.int ps0), (.ref o1)]))
  refine own_st (fun zw zk => iremM X16 hx rfl (hb hby d5_38) rfl (by decide) zk) ?_
  refine own_st (fun zw zk => XS.iadd X16.here hx rfl (hb hby d5_39) rfl zk) ?_
  refine own_st (fun zw zk => XS.i2b X16.here hx rfl (hb hby d5_40) rfl zk) ?_
  obtain ⟨T17, h17, X17, e17, W17, V17, st17⟩ := own_bst X16 hx hZ e16 F2_ (j := ps0) (na + 0) (own_nn hp0) (own_nat hp0) (by simp only [List.length_set, List.length_replicate]; omega) (g := (mkF m 41 #[.val (.ref d), .val (.ref o1), .val (.int p2), .val (.int (p2 + (1 : Int32))), .val (.int nz), .val (.int ps0)] [(.int (((48 : Int32) + (nz % (10 : Int32))).toInt8.toInt32)), (.int ps0), (.ref o1)])) rfl rfl (hb hby d5_41)
  have F2_17 : own_L Z h17 o1 .byte (((List.replicate 128 (Value.int 0)).set (na + 0) (.int ((((48 : Int32) + (nz % (10 : Int32))).toInt8.toInt32).toInt8.toInt32)))) := V17
  have N17 := Fr.snoc X17 N15 ge_o1
  refine own_st (fun zw zk => st17 zw zk) ?_
  have F0_17 := F0_.other W17 (Or.inl ne_d_o1)
  have F1_17 := F1_.other W17 ne_t_o1
  have Z17 : n0 ≤ h17.size := Nat.le_trans Z0 (Keep.of_wr W17).1
  have Kp17 := (Keep.refl h0 [o1]).wr W17 (Or.inl (List.mem_of_getElem? (i := 0) rfl))
  refine own_st (fun zw zk => XS.iload X17.here hx rfl (hb hby d5_42) rfl zk) ?_
  refine own_st (fun zw zk => XS.bipush X17.here hx rfl (hb hby d5_44) zk) ?_
  refine own_st (fun zw zk => XS.idiv X17.here hx rfl (hb hby d5_46) rfl (by decide) zk) ?_
  refine own_st (fun zw zk => XS.istore X17.here hx rfl (hb hby d5_47) rfl rfl zk) ?_
  show own_Go p e below G (T17.setTop (mkF m 49 #[.val (.ref d), .val (.ref o1), .val (.int p2), .val (.int (p2 + (1 : Int32))), .val (.int (nz / (10 : Int32))), .val (.int ps0)] []))
  refine own_st (fun zw zk => XS.iinc X17.here hx rfl (hb hby d5_49) rfl rfl zk) ?_
  show own_Go p e below G (T17.setTop (mkF m 52 #[.val (.ref d), .val (.ref o1), .val (.int p2), .val (.int (p2 + (1 : Int32))), .val (.int (nz / (10 : Int32))), .val (.int (ps0 + (-1 : Int32)))] []))
  refine own_st (fun zw zk => XS.goto X17.here hx rfl (pc0 := 52) (pc' := 23) rfl (hb hby d5_52) (by decide) (by decide) zk) ?_
  show own_Go p e below G (T17.setTop (mkF m 23 #[.val (.ref d), .val (.ref o1), .val (.int p2), .val (.int (p2 + (1 : Int32))), .val (.int (nz / (10 : Int32))), .val (.int (ps0 + (-1 : Int32)))] []))
  generalize hps1 : (ps0 + (-1 : Int32)) = ps1
  have hp1 : ps1 < p2 := by rw [← hps1]; exact own_last (n := na) hp0 hat
  refine own_st (fun zw zk => XS.iload X17.here hx rfl (hb hby d5_23) rfl zk) ?_
  refine own_st (fun zw zk => XS.iloadN X17.here hx rfl (hb hby d5_25) rfl zk) ?_
  have hc26_1 : ps1 < p2 := hp1
  refine own_st (fun zw zk => XS.icmpYes X17.here hx rfl (pc0 := 26) (pc' := 55) rfl (hb hby d5_26) rfl (tlt hc26_1).1 (by decide) (by decide) zk) ?_
  refine own_st (fun zw zk => XS.aloadN X17.here hx rfl (hb hby d5_55) rfl rfl zk) ?_
  refine own_st (fun zw zk => XS.iloadN X17.here hx rfl (hb hby d5_56) rfl zk) ?_
  refine own_st (fun zw zk => XS.bipush X17.here hx rfl (hb hby d5_57) zk) ?_
  obtain ⟨T18, h18, X18, e18, W18, V18, st18⟩ := own_bst X17 hx hZ e17 F2_17 (j := (p2 + (1 : Int32))) (na + 1) (own_nn (own_plus hat (by decide : ((1 : Int32)).toInt = (1 : Nat)) (by omega))) (own_nat (own_plus hat (by decide : ((1 : Int32)).toInt = (1 : Nat)) (by omega))) (by simp only [List.length_set, List.length_replicate]; omega) (g := (mkF m 59 #[.val (.ref d), .val (.ref o1), .val (.int p2), .val (.int (p2 + (1 : Int32))), .val (.int (nz / (10 : Int32))), .val (.int ps1)] [(.int (58 : Int32)), (.int (p2 + (1 : Int32))), (.ref o1)])) rfl rfl (hb hby d5_59)
  have F2_18 : own_L Z h18 o1 .byte ((((List.replicate 128 (Value.int 0)).set (na + 0) (.int ((((48 : Int32) + (nz % (10 : Int32))).toInt8.toInt32).toInt8.toInt32))).set (na + 1) (.int (58 : Int32)))) := V18
  have N18 := Fr.snoc X18 N17 ge_o1
  refine own_st (fun zw zk => st18 zw zk) ?_
  have F0_18 := F0_17.other W18 (Or.inl ne_d_o1)
  have F1_18 := F1_17.other W18 ne_t_o1
  have Z18 : n0 ≤ h18.size := Nat.le_trans Z17 (Keep.of_wr W18).1
  have Kp18 := Kp17.wr W18 (Or.inl (List.mem_of_getElem? (i := 0) rfl))
  refine own_st (fun zw zk => XS.aloadN X18.here hx rfl (hb hby d5_60) rfl rfl zk) ?_
  show own_Go p e below G (T18.setTop (mkF m 61 #[.val (.ref d), .val (.ref o1), .val (.int p2), .val (.int (p2 + (1 : Int32))), .val (.int (nz / (10 : Int32))), .val (.int ps1)] [(.ref d)]))
  obtain ⟨T19, X19, e19, st19⟩ := getF X18 hx hZ hown (host := "") (Or.inl (hw _ (List.mem_of_getElem? (i := 26) rfl))) Via.refl e18 F0_18 (g := (mkF m 61 #[.val (.ref d), .val (.ref o1), .val (.int p2), .val (.int (p2 + (1 : Int32))), .val (.int (nz / (10 : Int32))), .val (.int ps1)] [(.ref d)])) rfl rfl (hb hby d5_61)
  refine own_st (fun zw zk => st19 zw zk) ?_
  refine own_st (fun zw zk => XS.iconst X19.here hx rfl (hb hby d5_64) zk) ?_
  refine own_st (fun zw zk => XS.aloadN X19.here hx rfl (hb hby d5_65) rfl rfl zk) ?_
  refine own_st (fun zw zk => XS.iloadN X19.here hx rfl (hb hby d5_66) rfl zk) ?_
  refine own_st (fun zw zk => XS.iconst X19.here hx rfl (hb hby d5_67) zk) ?_
  refine own_st (fun zw zk => XS.iadd X19.here hx rfl (hb hby d5_68) rfl zk) ?_
  refine own_st (fun zw zk => XS.aloadN X19.here hx rfl (hb hby d5_69) rfl rfl zk) ?_
  obtain ⟨T20, X20, e20, st20⟩ := getF X19 hx hZ hown (host := "") (Or.inl (hw _ (List.mem_of_getElem? (i := 26) rfl))) Via.refl e19 F0_18 (g := (mkF m 70 #[.val (.ref d), .val (.ref o1), .val (.int p2), .val (.int (p2 + (1 : Int32))), .val (.int (nz / (10 : Int32))), .val (.int ps1)] [(.ref d), (.int ((p2 + (1 : Int32)) + (1 : Int32))), (.ref o1), (.int (0 : Int32)), (.ref t)])) rfl rfl (hb hby d5_70)
  refine own_st (fun zw zk => st20 zw zk) ?_
  show own_Go p e below G (T20.setTop (mkF m 73 #[.val (.ref d), .val (.ref o1), .val (.int p2), .val (.int (p2 + (1 : Int32))), .val (.int (nz / (10 : Int32))), .val (.int ps1)] [(.ref t), (.int ((p2 + (1 : Int32)) + (1 : Int32))), (.ref o1), (.int (0 : Int32)), (.ref t)]))
  refine own_st (fun zw zk => own_len X20 hx hZ e20 F1_18 (z := nz) (hlz) (g := (mkF m 73 #[.val (.ref d), .val (.ref o1), .val (.int p2), .val (.int (p2 + (1 : Int32))), .val (.int (nz / (10 : Int32))), .val (.int ps1)] [(.ref t), (.int ((p2 + (1 : Int32)) + (1 : Int32))), (.ref o1), (.int (0 : Int32)), (.ref t)])) rfl rfl (hb hby d5_73) _ zk) ?_
  obtain ⟨vo, hvo, hw0, hw1, hw2, hw3, hw4, hw5⟩ := own_wr1 (vs := vs) hnn hna hnb hln hd1
  obtain ⟨T21, h21, L21, X21, e21, N21, K21, V21, st21⟩ := own_cp X20 hx hZ hown (hw _ (List.mem_of_getElem? (i := 36) rfl)) (hw _ (List.mem_of_getElem? (i := 39) rfl)) (hw _ (List.mem_of_getElem? (i := 37) rfl)) (hw _ (List.mem_of_getElem? (i := 38) rfl)) e20 F1_18 F2_18 rfl hfit (own_setfit (own_setfit (own_repfit 128) (fits_nar_byte _)) (by decide)) (by omega) (by simp) (sp := (0 : Int32)) (dp := ((p2 + (1 : Int32)) + (1 : Int32))) (nn := nz) (0) (na + 2) (nn) (by decide) (by decide) (own_nn (own_plus (n := na + 1) (k := 1) (own_plus hat (by decide : ((1 : Int32)).toInt = (1 : Nat)) (by omega)) (by decide : (1 : Int32).toInt = (1 : Nat)) (by omega))) (own_nat (own_plus (n := na + 1) (k := 1) (own_plus hat (by decide : ((1 : Int32)).toInt = (1 : Nat)) (by omega)) (by decide : (1 : Int32).toInt = (1 : Nat)) (by omega))) (own_nn hnn) (own_nat hnn) (by omega) (by simp only [List.length_set, List.length_replicate]; omega) N18 ge_o1 (g := (mkF m 74 #[.val (.ref d), .val (.ref o1), .val (.int p2), .val (.int (p2 + (1 : Int32))), .val (.int (nz / (10 : Int32))), .val (.int ps1)] [(.int nz), (.int ((p2 + (1 : Int32)) + (1 : Int32))), (.ref o1), (.int (0 : Int32)), (.ref t)])) rfl (by rw [hml]; rfl) rfl (hb hby d5_74) (by decide) (W := 0) (by show 2 * 0 + _ ≤ _; exact Nat.le_of_eq rfl) (by decide)
  have F2_21 : own_L Z h21 o1 .byte (((((List.replicate 128 (Value.int 0)).set (na + 0) (.int ((((48 : Int32) + (nz % (10 : Int32))).toInt8.toInt32).toInt8.toInt32))).set (na + 1) (.int (58 : Int32))).take (na + 2) ++ (vs.drop 0).take nn ++ (((List.replicate 128 (Value.int 0)).set (na + 0) (.int ((((48 : Int32) + (nz % (10 : Int32))).toInt8.toInt32).toInt8.toInt32))).set (na + 1) (.int (58 : Int32))).drop ((na + 2) + nn))) := V21
  refine own_st (fun zw zk => st21 zw zk) ?_
  have F0_21 := F0_18.keep K21 (ninS ne_d_o1 nin0)
  have F1_21 := F1_18.keep K21 (ninS ne_t_o1 nin0)
  have Z21 : n0 ≤ h21.size := Nat.le_trans Z18 K21.1
  have Kp21 := Kp18.trans K21 (allS (Or.inl (List.mem_of_getElem? (i := 0) rfl)) all0)
  rw [← hvo] at F2_21
  refine own_st (fun zw zk => XS.iloadN X21.here hx rfl (hb hby d5_77) rfl zk) ?_
  refine own_st (fun zw zk => XS.iconst X21.here hx rfl (hb hby d5_78) zk) ?_
  refine own_st (fun zw zk => XS.iadd X21.here hx rfl (hb hby d5_79) rfl zk) ?_
  refine own_st (fun zw zk => XS.aloadN X21.here hx rfl (hb hby d5_80) rfl rfl zk) ?_
  obtain ⟨T22, X22, e22, st22⟩ := getF X21 hx hZ hown (host := "") (Or.inl (hw _ (List.mem_of_getElem? (i := 26) rfl))) Via.refl e21 F0_21 (g := (mkF m 81 #[.val (.ref d), .val (.ref o1), .val (.int p2), .val (.int (p2 + (1 : Int32))), .val (.int (nz / (10 : Int32))), .val (.int ps1)] [(.ref d), (.int ((p2 + (1 : Int32)) + (1 : Int32)))])) rfl rfl (hb hby d5_81)
  refine own_st (fun zw zk => st22 zw zk) ?_
  refine own_st (fun zw zk => own_len X22 hx hZ e22 F1_21 (z := nz) (hlz) (g := (mkF m 84 #[.val (.ref d), .val (.ref o1), .val (.int p2), .val (.int (p2 + (1 : Int32))), .val (.int (nz / (10 : Int32))), .val (.int ps1)] [(.ref t), (.int ((p2 + (1 : Int32)) + (1 : Int32)))])) rfl rfl (hb hby d5_84) _ zk) ?_
  show own_Go p e below G (T22.setTop (mkF m 85 #[.val (.ref d), .val (.ref o1), .val (.int p2), .val (.int (p2 + (1 : Int32))), .val (.int (nz / (10 : Int32))), .val (.int ps1)] [(.int nz), (.int ((p2 + (1 : Int32)) + (1 : Int32)))]))
  refine own_st (fun zw zk => XS.iadd X22.here hx rfl (hb hby d5_85) rfl zk) ?_
  subst hG
  obtain ⟨fs, hr, hrun, hended, hW, hsame⟩ := X22.leave (v := some (.int (((p2 + (1 : Int32)) + (1 : Int32)) + nz))) (hlocks := Bd.notSynchronized) (fun h => by rw [Bd.returns] at h; cases h)
  refine ⟨_, own_retI X22 hx Bd.returns (hb hby d5_86) hr, _, hrun, hended, _, _, rfl, ?_, ⟨_, rfl⟩, hW, hsame.mono (by decide) (by decide)⟩
  show Q_w1 Z d o1 p2 t vs nz nn na h0 n0 _ T22.heap _
  rw [e22]
  exact ⟨rfl, N21, vo, Kp21, F2_21, hw0, hw1, hw2, hw3, hw4, hw5⟩
theorem own_wr2 {nz : Int32} {nn na : Nat} {vs : List Value} (hnn : nz.toInt = nn) (hna : na ≤ 15) (hnb : nn ≤ 105) (hln : vs.length = nn) (hd1 : 10 ≤ nn) (hd2 : nn < 100) : ∃ vo, vo = (((((List.replicate 128 (Value.int 0)).set (na + 1) (.int ((((48 : Int32) + (nz % (10 : Int32))).toInt8.toInt32).toInt8.toInt32))).set (na + 0) (.int ((((48 : Int32) + ((nz / (10 : Int32)) % (10 : Int32))).toInt8.toInt32).toInt8.toInt32))).set (na + 2) (.int (58 : Int32))).take (na + 3) ++ (vs.drop 0).take nn ++ ((((List.replicate 128 (Value.int 0)).set (na + 1) (.int ((((48 : Int32) + (nz % (10 : Int32))).toInt8.toInt32).toInt8.toInt32))).set (na + 0) (.int ((((48 : Int32) + ((nz / (10 : Int32)) % (10 : Int32))).toInt8.toInt32).toInt8.toInt32))).set (na + 2) (.int (58 : Int32))).drop ((na + 3) + nn)) ∧ vo.length = 128 ∧ vo[na + 0]? = some (.int ((48 : Int32) + (nz / (10 : Int32)))) ∧ vo[na + 1]? = some (.int ((48 : Int32) + (nz % (10 : Int32)))) ∧ vo[na + 2]? = some (.int (58 : Int32)) ∧ (∀ k, k < nn → vo[(na + 3) + k]? = vs[k]?) ∧ vo[(na + 3) + nn]? = some (.int (0 : Int32)) ∧ (0 < na → vo[na - 1]? = some (.int (0 : Int32))) := by
  have hL : ((((List.replicate 128 (Value.int 0)).set (na + 1) (.int ((((48 : Int32) + (nz % (10 : Int32))).toInt8.toInt32).toInt8.toInt32))).set (na + 0) (.int ((((48 : Int32) + ((nz / (10 : Int32)) % (10 : Int32))).toInt8.toInt32).toInt8.toInt32))).set (na + 2) (.int (58 : Int32))).length = 128 := by simp only [List.length_set, List.length_replicate]
  refine ⟨_, rfl, by simp only [List.length_append, List.length_take, List.length_drop, hL, hln]; omega, ?_, ?_, ?_, ?_, ?_, ?_⟩
  · rw [own_cat _ _ _ _ _ (by rw [hL]; omega) hln, if_pos (by omega), List.getElem?_set_ne (by omega), List.getElem?_set_self (by simp only [List.length_set, List.length_replicate]; omega)]
    exact congrArg (fun x => some (Value.int x)) (own_dig (x := nz / 10) (k := nn / 10) (by rw [own_div (by omega)]; omega) (by omega) (own_r2 hnn hd2))
  · rw [own_cat _ _ _ _ _ (by rw [hL]; omega) hln, if_pos (by omega), List.getElem?_set_ne (by omega), List.getElem?_set_ne (by omega), List.getElem?_set_self (by simp only [List.length_set, List.length_replicate]; omega)]
    exact congrArg (fun x => some (Value.int x)) (own_dig (x := nz % 10) (k := nn % 10) (by rw [own_rem (by omega)]; omega) (by omega) rfl)
  · rw [own_cat _ _ _ _ _ (by rw [hL]; omega) hln, if_pos (by omega), List.getElem?_set_self (by simp only [List.length_set, List.length_replicate]; omega)]
  · intro k hk
    rw [own_cat _ _ _ _ _ (by rw [hL]; omega) hln, if_neg (by omega), if_pos (by omega)]
    congr 1
    omega
  · rw [own_cat _ _ _ _ _ (by rw [hL]; omega) hln, if_neg (by omega), if_neg (by omega), List.getElem?_set_ne (by omega), List.getElem?_set_ne (by omega), List.getElem?_set_ne (by omega), List.getElem?_replicate, if_pos (by omega)]
  · intro h0
    rw [own_cat _ _ _ _ _ (by rw [hL]; omega) hln, if_pos (by omega), List.getElem?_set_ne (by omega), List.getElem?_set_ne (by omega), List.getElem?_set_ne (by omega), List.getElem?_replicate, if_pos (by omega)]
theorem ef_rm_w2 (m : MethodId) (d : Addr) (o1 : Addr) (p2 : Int32) : entryFrame m #[(.ref d), (.ref o1), (.int p2)] 6 = mkF m 0 #[.val (.ref d), .val (.ref o1), .val (.int p2), .unset, .unset, .unset] [] := by first | (simp [entryFrame, mkF, argsToLocals, Value.category]; done) | rfl
def Q_w2 (Z : State) (d : Addr) (o1 : Addr) (p2 : Int32) (t : Addr) (vs : List Value) (nz : Int32) (nn : Nat) (na : Nat) (h0 : Heap) (n0 : Nat) (rv : Option Value) (hq : Heap) (Lq : List Loc) : Prop := rv = some (.int (((p2 + (2 : Int32)) + (1 : Int32)) + nz)) ∧ Fr n0 Lq ∧ ∃ vo : List Value, Keep h0 hq [o1] ∧ own_L Z hq o1 .byte (vo) ∧ vo.length = 128 ∧ vo[na + 0]? = some (.int ((48 : Int32) + (nz / (10 : Int32)))) ∧ vo[na + 1]? = some (.int ((48 : Int32) + (nz % (10 : Int32)))) ∧ vo[na + 2]? = some (.int (58 : Int32)) ∧ (∀ k, k < nn → vo[(na + 3) + k]? = vs[k]?) ∧ vo[(na + 3) + nn]? = some (.int (0 : Int32)) ∧ (0 < na → vo[na - 1]? = some (.int (0 : Int32)))
set_option maxRecDepth 65536 in
set_option maxHeartbeats 40000000 in
theorem rm_w2 (l : Launch) (Z : State) (a0 : Array Value) (hw : ∀ d ∈ tables_1, d.before a0 Z = true) (ws : List Jvm.Cond) (d : Addr) (o1 : Addr) (p2 : Int32) (t : Addr) (vs : List Value) (nz : Int32) (nn : Nat) (na : Nat) (h0 : Heap) (n0 : Nat) (Z0 : n0 ≤ h0.size) (F0_ : Fld Z h0 d "com/example/portunus/portunus/Atom" "bytes" "[B" (.ref t)) (F1_ : own_L Z h0 t .byte (vs)) (F2_ : own_L Z h0 o1 .byte ((List.replicate 128 (Value.int 0)))) (ge_o1 : n0 ≤ o1) (ne_d_o1 : d ≠ o1) (ne_t_o1 : t ≠ o1) (hlz : vs.length.toInt32 = nz) (hln : vs.length = nn) (hnn : nz.toInt = nn) (hat : p2.toInt = na) (hna : na ≤ 15) (hnb : nn ≤ 105) (hfit : ∀ z ∈ vs, fits .byte z = true) (hd1 : 10 ≤ nn) (hd2 : nn < 100) :
    MetFree l (⟨"com/example/portunus/portunus/Atom", "writeCanonical", "([BI)I"⟩ : MethodName) (head1 (Jvm.Cond.code (⟨"com/example/portunus/portunus/Atom", "writeCanonical", "([BI)I"⟩ : MethodName) prog_2_method_8_code 6 (some .int) :: ws) ({ frames := 1, cells := 0, slots := 0, locals := 18 } : Room)) (fun za U => za = #[(.ref d), (.ref o1), (.int p2)] ∧ Z.Warmed39 U.vm ∧ U.heap = h0) (fun _ _ _ _ _ => True) (fun _ U o U' => ∃ rv Lq, o = .returned rv ∧ Q_w2 Z d o1 p2 t vs nz nn na h0 n0 rv U'.heap Lq ∧ FrameEnd U o U' Lq ({ frames := 1, cells := 0, slots := 0, locals := 18 } : Room).cells ({ frames := 1, cells := 0, slots := 0, locals := 18 } : Room).slots) := by
  refine MetFree.of_bodySF (plainFor_of_name pn_1) hisR ?_
  intro p e s m args below meth c s₁ Bd hml0 hP hK
  obtain ⟨rfl, hZ, hh⟩ := hP
  have hx := Bd.exec
  have hby := Bd.bytes
  have hml : c.maxLocals = 6 := hml0
  have hown : s.vm.findClass "com/example/portunus/portunus/Atom" = some m.cls := findClass_of_methodNamed Bd.named
  have hnm := (name_of_methodNamed Bd.named Bd.method).1
  have X0 : Stand p l e ({ frames := 1, cells := 0, slots := 0, locals := 18 } : Room) s m #[(.ref d), (.ref o1), (.int p2)] below meth c s₁ [] 0 0 := Stand.of_body Bd
  have e0 : s₁.heap = h0 := by rw [← hh, Bd.state]; rfl
  have N0 := Fr.nil n0
  refine own_out (own_nm fun G hG => own_st (fun zt zk => castTop (ef_rm_w2 m d o1 p2) zk) ?_)
  show own_Go p e below G (s₁.setTop (mkF m 0 #[.val (.ref d), .val (.ref o1), .val (.int p2), .unset, .unset, .unset] []))
  refine own_st (fun zw zk => XS.iloadN X0.here hx rfl (hb hby d5_0) rfl zk) ?_
  refine own_st (fun zw zk => XS.aloadN X0.here hx rfl (hb hby d5_1) rfl rfl zk) ?_
  obtain ⟨T23, X23, e23, st23⟩ := getF X0 hx hZ hown (host := "") (Or.inl (hw _ (List.mem_of_getElem? (i := 26) rfl))) Via.refl e0 F0_ (g := (mkF m 2 #[.val (.ref d), .val (.ref o1), .val (.int p2), .unset, .unset, .unset] [(.ref d), (.int p2)])) rfl rfl (hb hby d5_2)
  refine own_st (fun zw zk => st23 zw zk) ?_
  refine own_st (fun zw zk => own_len X23 hx hZ e23 F1_ (z := nz) (hlz) (g := (mkF m 5 #[.val (.ref d), .val (.ref o1), .val (.int p2), .unset, .unset, .unset] [(.ref t), (.int p2)])) rfl rfl (hb hby d5_5) _ zk) ?_
  obtain ⟨_, _, ⟨T24, L24, k24, n24⟩, -, X24, ⟨Lc24, hQ24, l24, y24, z24⟩, st24⟩ := Jvm.LawKit.callS X23 hx (y := (⟨"com/example/portunus/portunus/Atom", "digits", "(I)I"⟩ : MethodName)) hown (mvT hZ (hw _ (List.mem_of_getElem? (i := 33) rfl))) (mvT hZ (hw _ (List.mem_of_getElem? (i := 34) rfl))) (mvT hZ (hw _ (List.mem_of_getElem? (i := 10) rfl))) (mvT hZ (hw _ (List.mem_of_getElem? (i := 35) rfl))) (by decide) (backOf (W := 1) (rm6 l Z a0 hw [] nz h0 n0 Z0 (by omega) (by omega)) hZ (hw _ (List.mem_of_getElem? (i := 35) rfl)) (hw _ (List.mem_of_getElem? (i := 10) rfl)) (by decide) (by decide)) (g := (mkF m 6 #[.val (.ref d), .val (.ref o1), .val (.int p2), .unset, .unset, .unset] [(.int nz), (.int p2)])) rfl (by rw [hml]; rfl) (argsL := [(.int nz)]) (rest := [(.int p2)]) (lenOf pd_1 rfl) rfl (by show 2 * 0 + _ ≤ _; exact Nat.le_of_eq rfl) (hb hby d5_6) (fun _ _ => ⟨rfl, e23, (by decide : 0 + 0 ≤ _), (by decide : 0 + 0 ≤ _)⟩)
  dsimp only [Pt.U, Pt.locs, Pt.cells, Pt.slots] at X24 l24 y24 z24 st24 hQ24
  subst l24 y24 z24
  obtain ⟨rfl, N24q, e24⟩ := hQ24
  have N24 := Fr.app N0 N24q
  refine own_st (fun zw zk => st24 zw zk) ?_
  show own_Go p e below G (T24.setTop (mkF m 9 #[.val (.ref d), .val (.ref o1), .val (.int p2), .unset, .unset, .unset] [(.int (own_dg nz)), (.int p2)]))
  rw [show (own_dg nz) = (2 : Int32) from own_dg2 hnn hd1 hd2]
  refine own_st (fun zw zk => XS.iadd X24.here hx rfl (hb hby d5_9) rfl zk) ?_
  refine own_st (fun zw zk => XS.istoreN X24.here hx rfl (hb hby d5_10) rfl rfl zk) ?_
  show own_Go p e below G (T24.setTop (mkF m 11 #[.val (.ref d), .val (.ref o1), .val (.int p2), .val (.int (p2 + (2 : Int32))), .unset, .unset] []))
  refine own_st (fun zw zk => XS.aloadN X24.here hx rfl (hb hby d5_11) rfl rfl zk) ?_
  obtain ⟨T25, X25, e25, st25⟩ := getF X24 hx hZ hown (host := "") (Or.inl (hw _ (List.mem_of_getElem? (i := 26) rfl))) Via.refl e24 F0_ (g := (mkF m 12 #[.val (.ref d), .val (.ref o1), .val (.int p2), .val (.int (p2 + (2 : Int32))), .unset, .unset] [(.ref d)])) rfl rfl (hb hby d5_12)
  refine own_st (fun zw zk => st25 zw zk) ?_
  refine own_st (fun zw zk => own_len X25 hx hZ e25 F1_ (z := nz) (hlz) (g := (mkF m 15 #[.val (.ref d), .val (.ref o1), .val (.int p2), .val (.int (p2 + (2 : Int32))), .unset, .unset] [(.ref t)])) rfl rfl (hb hby d5_15) _ zk) ?_
  refine own_st (fun zw zk => XS.istore X25.here hx rfl (hb hby d5_16) rfl rfl zk) ?_
  show own_Go p e below G (T25.setTop (mkF m 18 #[.val (.ref d), .val (.ref o1), .val (.int p2), .val (.int (p2 + (2 : Int32))), .val (.int nz), .unset] []))
  refine own_st (fun zw zk => XS.iloadN X25.here hx rfl (hb hby d5_18) rfl zk) ?_
  refine own_st (fun zw zk => XS.iconst X25.here hx rfl (hb hby d5_19) zk) ?_
  refine own_st (fun zw zk => XS.isub X25.here hx rfl (hb hby d5_20) rfl zk) ?_
  refine own_st (fun zw zk => XS.istore X25.here hx rfl (hb hby d5_21) rfl rfl zk) ?_
  show own_Go p e below G (T25.setTop (mkF m 23 #[.val (.ref d), .val (.ref o1), .val (.int p2), .val (.int (p2 + (2 : Int32))), .val (.int nz), .val (.int ((p2 + (2 : Int32)) - (1 : Int32)))] []))
  generalize hps0 : ((p2 + (2 : Int32)) - (1 : Int32)) = ps0
  have hp0 : ps0.toInt = (na + 1 : Nat) := by rw [← hps0]; exact own_dec (n := na + 1) (own_plus (k := 2) hat (by decide) (by omega))
  refine own_st (fun zw zk => XS.iload X25.here hx rfl (hb hby d5_23) rfl zk) ?_
  refine own_st (fun zw zk => XS.iloadN X25.here hx rfl (hb hby d5_25) rfl zk) ?_
  have hc26 : ¬ (ps0 < p2) := own_nlt hp0 hat (by omega)
  refine own_st (fun zw zk => XS.icmpNo X25.here hx rfl (hb hby d5_26) rfl (flt hc26).1 zk) ?_
  refine own_st (fun zw zk => XS.aloadN X25.here hx rfl (hb hby d5_29) rfl rfl zk) ?_
  refine own_st (fun zw zk => XS.iload X25.here hx rfl (hb hby d5_30) rfl zk) ?_
  refine own_st (fun zw zk => XS.bipush X25.here hx rfl (hb hby d5_32) zk) ?_
  refine own_st (fun zw zk => XS.iload X25.here hx rfl (hb hby d5_34) rfl zk) ?_
  refine own_st (fun zw zk => XS.bipush X25.here hx rfl (hb hby d5_36) zk) ?_
  show own_Go p e below G (T25.setTop (mkF m 38 #[.val (.ref d), .val (.ref o1), .val (.int p2), .val (.int (p2 + (2 : Int32))), .val (.int nz), .val (.int ps0)] [(.int (10 : Int32)), (.int nz), (.int (48 : Int32)), (.int ps0), (.ref o1)]))
  refine own_st (fun zw zk => iremM X25 hx rfl (hb hby d5_38) rfl (by decide) zk) ?_
  refine own_st (fun zw zk => XS.iadd X25.here hx rfl (hb hby d5_39) rfl zk) ?_
  refine own_st (fun zw zk => XS.i2b X25.here hx rfl (hb hby d5_40) rfl zk) ?_
  obtain ⟨T26, h26, X26, e26, W26, V26, st26⟩ := own_bst X25 hx hZ e25 F2_ (j := ps0) (na + 1) (own_nn hp0) (own_nat hp0) (by simp only [List.length_set, List.length_replicate]; omega) (g := (mkF m 41 #[.val (.ref d), .val (.ref o1), .val (.int p2), .val (.int (p2 + (2 : Int32))), .val (.int nz), .val (.int ps0)] [(.int (((48 : Int32) + (nz % (10 : Int32))).toInt8.toInt32)), (.int ps0), (.ref o1)])) rfl rfl (hb hby d5_41)
  have F2_26 : own_L Z h26 o1 .byte (((List.replicate 128 (Value.int 0)).set (na + 1) (.int ((((48 : Int32) + (nz % (10 : Int32))).toInt8.toInt32).toInt8.toInt32)))) := V26
  have N26 := Fr.snoc X26 N24 ge_o1
  refine own_st (fun zw zk => st26 zw zk) ?_
  have F0_26 := F0_.other W26 (Or.inl ne_d_o1)
  have F1_26 := F1_.other W26 ne_t_o1
  have Z26 : n0 ≤ h26.size := Nat.le_trans Z0 (Keep.of_wr W26).1
  have Kp26 := (Keep.refl h0 [o1]).wr W26 (Or.inl (List.mem_of_getElem? (i := 0) rfl))
  refine own_st (fun zw zk => XS.iload X26.here hx rfl (hb hby d5_42) rfl zk) ?_
  refine own_st (fun zw zk => XS.bipush X26.here hx rfl (hb hby d5_44) zk) ?_
  refine own_st (fun zw zk => XS.idiv X26.here hx rfl (hb hby d5_46) rfl (by decide) zk) ?_
  refine own_st (fun zw zk => XS.istore X26.here hx rfl (hb hby d5_47) rfl rfl zk) ?_
  show own_Go p e below G (T26.setTop (mkF m 49 #[.val (.ref d), .val (.ref o1), .val (.int p2), .val (.int (p2 + (2 : Int32))), .val (.int (nz / (10 : Int32))), .val (.int ps0)] []))
  refine own_st (fun zw zk => XS.iinc X26.here hx rfl (hb hby d5_49) rfl rfl zk) ?_
  show own_Go p e below G (T26.setTop (mkF m 52 #[.val (.ref d), .val (.ref o1), .val (.int p2), .val (.int (p2 + (2 : Int32))), .val (.int (nz / (10 : Int32))), .val (.int (ps0 + (-1 : Int32)))] []))
  refine own_st (fun zw zk => XS.goto X26.here hx rfl (pc0 := 52) (pc' := 23) rfl (hb hby d5_52) (by decide) (by decide) zk) ?_
  show own_Go p e below G (T26.setTop (mkF m 23 #[.val (.ref d), .val (.ref o1), .val (.int p2), .val (.int (p2 + (2 : Int32))), .val (.int (nz / (10 : Int32))), .val (.int (ps0 + (-1 : Int32)))] []))
  generalize hps1 : (ps0 + (-1 : Int32)) = ps1
  have hp1 : ps1.toInt = (na + 0 : Nat) := by rw [← hps1]; exact own_decm hp0
  refine own_st (fun zw zk => XS.iload X26.here hx rfl (hb hby d5_23) rfl zk) ?_
  refine own_st (fun zw zk => XS.iloadN X26.here hx rfl (hb hby d5_25) rfl zk) ?_
  have hc26_1 : ¬ (ps1 < p2) := own_nlt hp1 hat (by omega)
  refine own_st (fun zw zk => XS.icmpNo X26.here hx rfl (hb hby d5_26) rfl (flt hc26_1).1 zk) ?_
  refine own_st (fun zw zk => XS.aloadN X26.here hx rfl (hb hby d5_29) rfl rfl zk) ?_
  refine own_st (fun zw zk => XS.iload X26.here hx rfl (hb hby d5_30) rfl zk) ?_
  refine own_st (fun zw zk => XS.bipush X26.here hx rfl (hb hby d5_32) zk) ?_
  refine own_st (fun zw zk => XS.iload X26.here hx rfl (hb hby d5_34) rfl zk) ?_
  refine own_st (fun zw zk => XS.bipush X26.here hx rfl (hb hby d5_36) zk) ?_
  show own_Go p e below G (T26.setTop (mkF m 38 #[.val (.ref d), .val (.ref o1), .val (.int p2), .val (.int (p2 + (2 : Int32))), .val (.int (nz / (10 : Int32))), .val (.int ps1)] [(.int (10 : Int32)), (.int (nz / (10 : Int32))), (.int (48 : Int32)), (.int ps1), (.ref o1)]))
  refine own_st (fun zw zk => iremM X26 hx rfl (hb hby d5_38) rfl (by decide) zk) ?_
  refine own_st (fun zw zk => XS.iadd X26.here hx rfl (hb hby d5_39) rfl zk) ?_
  refine own_st (fun zw zk => XS.i2b X26.here hx rfl (hb hby d5_40) rfl zk) ?_
  obtain ⟨T27, h27, X27, e27, W27, V27, st27⟩ := own_bst X26 hx hZ e26 F2_26 (j := ps1) (na + 0) (own_nn hp1) (own_nat hp1) (by simp only [List.length_set, List.length_replicate]; omega) (g := (mkF m 41 #[.val (.ref d), .val (.ref o1), .val (.int p2), .val (.int (p2 + (2 : Int32))), .val (.int (nz / (10 : Int32))), .val (.int ps1)] [(.int (((48 : Int32) + ((nz / (10 : Int32)) % (10 : Int32))).toInt8.toInt32)), (.int ps1), (.ref o1)])) rfl rfl (hb hby d5_41)
  have F2_27 : own_L Z h27 o1 .byte ((((List.replicate 128 (Value.int 0)).set (na + 1) (.int ((((48 : Int32) + (nz % (10 : Int32))).toInt8.toInt32).toInt8.toInt32))).set (na + 0) (.int ((((48 : Int32) + ((nz / (10 : Int32)) % (10 : Int32))).toInt8.toInt32).toInt8.toInt32)))) := V27
  have N27 := Fr.snoc X27 N26 ge_o1
  refine own_st (fun zw zk => st27 zw zk) ?_
  have F0_27 := F0_26.other W27 (Or.inl ne_d_o1)
  have F1_27 := F1_26.other W27 ne_t_o1
  have Z27 : n0 ≤ h27.size := Nat.le_trans Z26 (Keep.of_wr W27).1
  have Kp27 := Kp26.wr W27 (Or.inl (List.mem_of_getElem? (i := 0) rfl))
  refine own_st (fun zw zk => XS.iload X27.here hx rfl (hb hby d5_42) rfl zk) ?_
  refine own_st (fun zw zk => XS.bipush X27.here hx rfl (hb hby d5_44) zk) ?_
  refine own_st (fun zw zk => XS.idiv X27.here hx rfl (hb hby d5_46) rfl (by decide) zk) ?_
  refine own_st (fun zw zk => XS.istore X27.here hx rfl (hb hby d5_47) rfl rfl zk) ?_
  show own_Go p e below G (T27.setTop (mkF m 49 #[.val (.ref d), .val (.ref o1), .val (.int p2), .val (.int (p2 + (2 : Int32))), .val (.int ((nz / (10 : Int32)) / (10 : Int32))), .val (.int ps1)] []))
  refine own_st (fun zw zk => XS.iinc X27.here hx rfl (hb hby d5_49) rfl rfl zk) ?_
  show own_Go p e below G (T27.setTop (mkF m 52 #[.val (.ref d), .val (.ref o1), .val (.int p2), .val (.int (p2 + (2 : Int32))), .val (.int ((nz / (10 : Int32)) / (10 : Int32))), .val (.int (ps1 + (-1 : Int32)))] []))
  refine own_st (fun zw zk => XS.goto X27.here hx rfl (pc0 := 52) (pc' := 23) rfl (hb hby d5_52) (by decide) (by decide) zk) ?_
  show own_Go p e below G (T27.setTop (mkF m 23 #[.val (.ref d), .val (.ref o1), .val (.int p2), .val (.int (p2 + (2 : Int32))), .val (.int ((nz / (10 : Int32)) / (10 : Int32))), .val (.int (ps1 + (-1 : Int32)))] []))
  generalize hps2 : (ps1 + (-1 : Int32)) = ps2
  have hp2 : ps2 < p2 := by rw [← hps2]; exact own_last (n := na) hp1 hat
  refine own_st (fun zw zk => XS.iload X27.here hx rfl (hb hby d5_23) rfl zk) ?_
  refine own_st (fun zw zk => XS.iloadN X27.here hx rfl (hb hby d5_25) rfl zk) ?_
  have hc26_2 : ps2 < p2 := hp2
  refine own_st (fun zw zk => XS.icmpYes X27.here hx rfl (pc0 := 26) (pc' := 55) rfl (hb hby d5_26) rfl (tlt hc26_2).1 (by decide) (by decide) zk) ?_
  refine own_st (fun zw zk => XS.aloadN X27.here hx rfl (hb hby d5_55) rfl rfl zk) ?_
  refine own_st (fun zw zk => XS.iloadN X27.here hx rfl (hb hby d5_56) rfl zk) ?_
  refine own_st (fun zw zk => XS.bipush X27.here hx rfl (hb hby d5_57) zk) ?_
  obtain ⟨T28, h28, X28, e28, W28, V28, st28⟩ := own_bst X27 hx hZ e27 F2_27 (j := (p2 + (2 : Int32))) (na + 2) (own_nn (own_plus hat (by decide : ((2 : Int32)).toInt = (2 : Nat)) (by omega))) (own_nat (own_plus hat (by decide : ((2 : Int32)).toInt = (2 : Nat)) (by omega))) (by simp only [List.length_set, List.length_replicate]; omega) (g := (mkF m 59 #[.val (.ref d), .val (.ref o1), .val (.int p2), .val (.int (p2 + (2 : Int32))), .val (.int ((nz / (10 : Int32)) / (10 : Int32))), .val (.int ps2)] [(.int (58 : Int32)), (.int (p2 + (2 : Int32))), (.ref o1)])) rfl rfl (hb hby d5_59)
  have F2_28 : own_L Z h28 o1 .byte (((((List.replicate 128 (Value.int 0)).set (na + 1) (.int ((((48 : Int32) + (nz % (10 : Int32))).toInt8.toInt32).toInt8.toInt32))).set (na + 0) (.int ((((48 : Int32) + ((nz / (10 : Int32)) % (10 : Int32))).toInt8.toInt32).toInt8.toInt32))).set (na + 2) (.int (58 : Int32)))) := V28
  have N28 := Fr.snoc X28 N27 ge_o1
  refine own_st (fun zw zk => st28 zw zk) ?_
  have F0_28 := F0_27.other W28 (Or.inl ne_d_o1)
  have F1_28 := F1_27.other W28 ne_t_o1
  have Z28 : n0 ≤ h28.size := Nat.le_trans Z27 (Keep.of_wr W28).1
  have Kp28 := Kp27.wr W28 (Or.inl (List.mem_of_getElem? (i := 0) rfl))
  refine own_st (fun zw zk => XS.aloadN X28.here hx rfl (hb hby d5_60) rfl rfl zk) ?_
  show own_Go p e below G (T28.setTop (mkF m 61 #[.val (.ref d), .val (.ref o1), .val (.int p2), .val (.int (p2 + (2 : Int32))), .val (.int ((nz / (10 : Int32)) / (10 : Int32))), .val (.int ps2)] [(.ref d)]))
  obtain ⟨T29, X29, e29, st29⟩ := getF X28 hx hZ hown (host := "") (Or.inl (hw _ (List.mem_of_getElem? (i := 26) rfl))) Via.refl e28 F0_28 (g := (mkF m 61 #[.val (.ref d), .val (.ref o1), .val (.int p2), .val (.int (p2 + (2 : Int32))), .val (.int ((nz / (10 : Int32)) / (10 : Int32))), .val (.int ps2)] [(.ref d)])) rfl rfl (hb hby d5_61)
  refine own_st (fun zw zk => st29 zw zk) ?_
  refine own_st (fun zw zk => XS.iconst X29.here hx rfl (hb hby d5_64) zk) ?_
  refine own_st (fun zw zk => XS.aloadN X29.here hx rfl (hb hby d5_65) rfl rfl zk) ?_
  refine own_st (fun zw zk => XS.iloadN X29.here hx rfl (hb hby d5_66) rfl zk) ?_
  refine own_st (fun zw zk => XS.iconst X29.here hx rfl (hb hby d5_67) zk) ?_
  refine own_st (fun zw zk => XS.iadd X29.here hx rfl (hb hby d5_68) rfl zk) ?_
  refine own_st (fun zw zk => XS.aloadN X29.here hx rfl (hb hby d5_69) rfl rfl zk) ?_
  obtain ⟨T30, X30, e30, st30⟩ := getF X29 hx hZ hown (host := "") (Or.inl (hw _ (List.mem_of_getElem? (i := 26) rfl))) Via.refl e29 F0_28 (g := (mkF m 70 #[.val (.ref d), .val (.ref o1), .val (.int p2), .val (.int (p2 + (2 : Int32))), .val (.int ((nz / (10 : Int32)) / (10 : Int32))), .val (.int ps2)] [(.ref d), (.int ((p2 + (2 : Int32)) + (1 : Int32))), (.ref o1), (.int (0 : Int32)), (.ref t)])) rfl rfl (hb hby d5_70)
  refine own_st (fun zw zk => st30 zw zk) ?_
  show own_Go p e below G (T30.setTop (mkF m 73 #[.val (.ref d), .val (.ref o1), .val (.int p2), .val (.int (p2 + (2 : Int32))), .val (.int ((nz / (10 : Int32)) / (10 : Int32))), .val (.int ps2)] [(.ref t), (.int ((p2 + (2 : Int32)) + (1 : Int32))), (.ref o1), (.int (0 : Int32)), (.ref t)]))
  refine own_st (fun zw zk => own_len X30 hx hZ e30 F1_28 (z := nz) (hlz) (g := (mkF m 73 #[.val (.ref d), .val (.ref o1), .val (.int p2), .val (.int (p2 + (2 : Int32))), .val (.int ((nz / (10 : Int32)) / (10 : Int32))), .val (.int ps2)] [(.ref t), (.int ((p2 + (2 : Int32)) + (1 : Int32))), (.ref o1), (.int (0 : Int32)), (.ref t)])) rfl rfl (hb hby d5_73) _ zk) ?_
  obtain ⟨vo, hvo, hw0, hw1, hw2, hw3, hw4, hw5, hw6⟩ := own_wr2 (vs := vs) hnn hna hnb hln hd1 hd2
  obtain ⟨T31, h31, L31, X31, e31, N31, K31, V31, st31⟩ := own_cp X30 hx hZ hown (hw _ (List.mem_of_getElem? (i := 36) rfl)) (hw _ (List.mem_of_getElem? (i := 39) rfl)) (hw _ (List.mem_of_getElem? (i := 37) rfl)) (hw _ (List.mem_of_getElem? (i := 38) rfl)) e30 F1_28 F2_28 rfl hfit (own_setfit (own_setfit (own_setfit (own_repfit 128) (fits_nar_byte _)) (fits_nar_byte _)) (by decide)) (by omega) (by simp) (sp := (0 : Int32)) (dp := ((p2 + (2 : Int32)) + (1 : Int32))) (nn := nz) (0) (na + 3) (nn) (by decide) (by decide) (own_nn (own_plus (n := na + 2) (k := 1) (own_plus hat (by decide : ((2 : Int32)).toInt = (2 : Nat)) (by omega)) (by decide : (1 : Int32).toInt = (1 : Nat)) (by omega))) (own_nat (own_plus (n := na + 2) (k := 1) (own_plus hat (by decide : ((2 : Int32)).toInt = (2 : Nat)) (by omega)) (by decide : (1 : Int32).toInt = (1 : Nat)) (by omega))) (own_nn hnn) (own_nat hnn) (by omega) (by simp only [List.length_set, List.length_replicate]; omega) N28 ge_o1 (g := (mkF m 74 #[.val (.ref d), .val (.ref o1), .val (.int p2), .val (.int (p2 + (2 : Int32))), .val (.int ((nz / (10 : Int32)) / (10 : Int32))), .val (.int ps2)] [(.int nz), (.int ((p2 + (2 : Int32)) + (1 : Int32))), (.ref o1), (.int (0 : Int32)), (.ref t)])) rfl (by rw [hml]; rfl) rfl (hb hby d5_74) (by decide) (W := 0) (by show 2 * 0 + _ ≤ _; exact Nat.le_of_eq rfl) (by decide)
  have F2_31 : own_L Z h31 o1 .byte ((((((List.replicate 128 (Value.int 0)).set (na + 1) (.int ((((48 : Int32) + (nz % (10 : Int32))).toInt8.toInt32).toInt8.toInt32))).set (na + 0) (.int ((((48 : Int32) + ((nz / (10 : Int32)) % (10 : Int32))).toInt8.toInt32).toInt8.toInt32))).set (na + 2) (.int (58 : Int32))).take (na + 3) ++ (vs.drop 0).take nn ++ ((((List.replicate 128 (Value.int 0)).set (na + 1) (.int ((((48 : Int32) + (nz % (10 : Int32))).toInt8.toInt32).toInt8.toInt32))).set (na + 0) (.int ((((48 : Int32) + ((nz / (10 : Int32)) % (10 : Int32))).toInt8.toInt32).toInt8.toInt32))).set (na + 2) (.int (58 : Int32))).drop ((na + 3) + nn))) := V31
  refine own_st (fun zw zk => st31 zw zk) ?_
  have F0_31 := F0_28.keep K31 (ninS ne_d_o1 nin0)
  have F1_31 := F1_28.keep K31 (ninS ne_t_o1 nin0)
  have Z31 : n0 ≤ h31.size := Nat.le_trans Z28 K31.1
  have Kp31 := Kp28.trans K31 (allS (Or.inl (List.mem_of_getElem? (i := 0) rfl)) all0)
  rw [← hvo] at F2_31
  refine own_st (fun zw zk => XS.iloadN X31.here hx rfl (hb hby d5_77) rfl zk) ?_
  refine own_st (fun zw zk => XS.iconst X31.here hx rfl (hb hby d5_78) zk) ?_
  refine own_st (fun zw zk => XS.iadd X31.here hx rfl (hb hby d5_79) rfl zk) ?_
  refine own_st (fun zw zk => XS.aloadN X31.here hx rfl (hb hby d5_80) rfl rfl zk) ?_
  obtain ⟨T32, X32, e32, st32⟩ := getF X31 hx hZ hown (host := "") (Or.inl (hw _ (List.mem_of_getElem? (i := 26) rfl))) Via.refl e31 F0_31 (g := (mkF m 81 #[.val (.ref d), .val (.ref o1), .val (.int p2), .val (.int (p2 + (2 : Int32))), .val (.int ((nz / (10 : Int32)) / (10 : Int32))), .val (.int ps2)] [(.ref d), (.int ((p2 + (2 : Int32)) + (1 : Int32)))])) rfl rfl (hb hby d5_81)
  refine own_st (fun zw zk => st32 zw zk) ?_
  refine own_st (fun zw zk => own_len X32 hx hZ e32 F1_31 (z := nz) (hlz) (g := (mkF m 84 #[.val (.ref d), .val (.ref o1), .val (.int p2), .val (.int (p2 + (2 : Int32))), .val (.int ((nz / (10 : Int32)) / (10 : Int32))), .val (.int ps2)] [(.ref t), (.int ((p2 + (2 : Int32)) + (1 : Int32)))])) rfl rfl (hb hby d5_84) _ zk) ?_
  show own_Go p e below G (T32.setTop (mkF m 85 #[.val (.ref d), .val (.ref o1), .val (.int p2), .val (.int (p2 + (2 : Int32))), .val (.int ((nz / (10 : Int32)) / (10 : Int32))), .val (.int ps2)] [(.int nz), (.int ((p2 + (2 : Int32)) + (1 : Int32)))]))
  refine own_st (fun zw zk => XS.iadd X32.here hx rfl (hb hby d5_85) rfl zk) ?_
  subst hG
  obtain ⟨fs, hr, hrun, hended, hW, hsame⟩ := X32.leave (v := some (.int (((p2 + (2 : Int32)) + (1 : Int32)) + nz))) (hlocks := Bd.notSynchronized) (fun h => by rw [Bd.returns] at h; cases h)
  refine ⟨_, own_retI X32 hx Bd.returns (hb hby d5_86) hr, _, hrun, hended, _, _, rfl, ?_, ⟨_, rfl⟩, hW, hsame.mono (by decide) (by decide)⟩
  show Q_w2 Z d o1 p2 t vs nz nn na h0 n0 _ T32.heap _
  rw [e32]
  exact ⟨rfl, N31, vo, Kp31, F2_31, hw0, hw1, hw2, hw3, hw4, hw5, hw6⟩
theorem own_wr3 {nz : Int32} {nn na : Nat} {vs : List Value} (hnn : nz.toInt = nn) (hna : na ≤ 15) (hnb : nn ≤ 105) (hln : vs.length = nn) (hd1 : 100 ≤ nn) : ∃ vo, vo = ((((((List.replicate 128 (Value.int 0)).set (na + 2) (.int ((((48 : Int32) + (nz % (10 : Int32))).toInt8.toInt32).toInt8.toInt32))).set (na + 1) (.int ((((48 : Int32) + ((nz / (10 : Int32)) % (10 : Int32))).toInt8.toInt32).toInt8.toInt32))).set (na + 0) (.int ((((48 : Int32) + (((nz / (10 : Int32)) / (10 : Int32)) % (10 : Int32))).toInt8.toInt32).toInt8.toInt32))).set (na + 3) (.int (58 : Int32))).take (na + 4) ++ (vs.drop 0).take nn ++ (((((List.replicate 128 (Value.int 0)).set (na + 2) (.int ((((48 : Int32) + (nz % (10 : Int32))).toInt8.toInt32).toInt8.toInt32))).set (na + 1) (.int ((((48 : Int32) + ((nz / (10 : Int32)) % (10 : Int32))).toInt8.toInt32).toInt8.toInt32))).set (na + 0) (.int ((((48 : Int32) + (((nz / (10 : Int32)) / (10 : Int32)) % (10 : Int32))).toInt8.toInt32).toInt8.toInt32))).set (na + 3) (.int (58 : Int32))).drop ((na + 4) + nn)) ∧ vo.length = 128 ∧ vo[na + 0]? = some (.int ((48 : Int32) + (nz / (100 : Int32)))) ∧ vo[na + 1]? = some (.int ((48 : Int32) + ((nz / (10 : Int32)) % (10 : Int32)))) ∧ vo[na + 2]? = some (.int ((48 : Int32) + (nz % (10 : Int32)))) ∧ vo[na + 3]? = some (.int (58 : Int32)) ∧ (∀ k, k < nn → vo[(na + 4) + k]? = vs[k]?) ∧ vo[(na + 4) + nn]? = some (.int (0 : Int32)) ∧ (0 < na → vo[na - 1]? = some (.int (0 : Int32))) := by
  have hL : (((((List.replicate 128 (Value.int 0)).set (na + 2) (.int ((((48 : Int32) + (nz % (10 : Int32))).toInt8.toInt32).toInt8.toInt32))).set (na + 1) (.int ((((48 : Int32) + ((nz / (10 : Int32)) % (10 : Int32))).toInt8.toInt32).toInt8.toInt32))).set (na + 0) (.int ((((48 : Int32) + (((nz / (10 : Int32)) / (10 : Int32)) % (10 : Int32))).toInt8.toInt32).toInt8.toInt32))).set (na + 3) (.int (58 : Int32))).length = 128 := by simp only [List.length_set, List.length_replicate]
  refine ⟨_, rfl, by simp only [List.length_append, List.length_take, List.length_drop, hL, hln]; omega, ?_, ?_, ?_, ?_, ?_, ?_, ?_⟩
  · rw [own_cat _ _ _ _ _ (by rw [hL]; omega) hln, if_pos (by omega), List.getElem?_set_ne (by omega), List.getElem?_set_self (by simp only [List.length_set, List.length_replicate]; omega)]
    exact congrArg (fun x => some (Value.int x)) (own_dig (x := nz / 100) (k := nn / 100) (by rw [(c_idiv nz 100 100 (by decide) (by decide)).1 (by omega)]; omega) (by omega) (own_r3 hnn hnb))
  · rw [own_cat _ _ _ _ _ (by rw [hL]; omega) hln, if_pos (by omega), List.getElem?_set_ne (by omega), List.getElem?_set_ne (by omega), List.getElem?_set_self (by simp only [List.length_set, List.length_replicate]; omega)]
    exact congrArg (fun x => some (Value.int x)) (own_dig (x := (nz / 10) % 10) (k := nn / 10 % 10) (by rw [own_rem (by rw [own_div (by omega)]; omega), own_div (by omega)]; omega) (by omega) rfl)
  · rw [own_cat _ _ _ _ _ (by rw [hL]; omega) hln, if_pos (by omega), List.getElem?_set_ne (by omega), List.getElem?_set_ne (by omega), List.getElem?_set_ne (by omega), List.getElem?_set_self (by simp only [List.length_set, List.length_replicate]; omega)]
    exact congrArg (fun x => some (Value.int x)) (own_dig (x := nz % 10) (k := nn % 10) (by rw [own_rem (by omega)]; omega) (by omega) rfl)
  · rw [own_cat _ _ _ _ _ (by rw [hL]; omega) hln, if_pos (by omega), List.getElem?_set_self (by simp only [List.length_set, List.length_replicate]; omega)]
  · intro k hk
    rw [own_cat _ _ _ _ _ (by rw [hL]; omega) hln, if_neg (by omega), if_pos (by omega)]
    congr 1
    omega
  · rw [own_cat _ _ _ _ _ (by rw [hL]; omega) hln, if_neg (by omega), if_neg (by omega), List.getElem?_set_ne (by omega), List.getElem?_set_ne (by omega), List.getElem?_set_ne (by omega), List.getElem?_set_ne (by omega), List.getElem?_replicate, if_pos (by omega)]
  · intro h0
    rw [own_cat _ _ _ _ _ (by rw [hL]; omega) hln, if_pos (by omega), List.getElem?_set_ne (by omega), List.getElem?_set_ne (by omega), List.getElem?_set_ne (by omega), List.getElem?_set_ne (by omega), List.getElem?_replicate, if_pos (by omega)]
theorem ef_rm_w3 (m : MethodId) (d : Addr) (o1 : Addr) (p2 : Int32) : entryFrame m #[(.ref d), (.ref o1), (.int p2)] 6 = mkF m 0 #[.val (.ref d), .val (.ref o1), .val (.int p2), .unset, .unset, .unset] [] := by first | (simp [entryFrame, mkF, argsToLocals, Value.category]; done) | rfl
def Q_w3 (Z : State) (d : Addr) (o1 : Addr) (p2 : Int32) (t : Addr) (vs : List Value) (nz : Int32) (nn : Nat) (na : Nat) (h0 : Heap) (n0 : Nat) (rv : Option Value) (hq : Heap) (Lq : List Loc) : Prop := rv = some (.int (((p2 + (3 : Int32)) + (1 : Int32)) + nz)) ∧ Fr n0 Lq ∧ ∃ vo : List Value, Keep h0 hq [o1] ∧ own_L Z hq o1 .byte (vo) ∧ vo.length = 128 ∧ vo[na + 0]? = some (.int ((48 : Int32) + (nz / (100 : Int32)))) ∧ vo[na + 1]? = some (.int ((48 : Int32) + ((nz / (10 : Int32)) % (10 : Int32)))) ∧ vo[na + 2]? = some (.int ((48 : Int32) + (nz % (10 : Int32)))) ∧ vo[na + 3]? = some (.int (58 : Int32)) ∧ (∀ k, k < nn → vo[(na + 4) + k]? = vs[k]?) ∧ vo[(na + 4) + nn]? = some (.int (0 : Int32)) ∧ (0 < na → vo[na - 1]? = some (.int (0 : Int32)))
set_option maxRecDepth 65536 in
set_option maxHeartbeats 40000000 in
theorem rm_w3 (l : Launch) (Z : State) (a0 : Array Value) (hw : ∀ d ∈ tables_1, d.before a0 Z = true) (ws : List Jvm.Cond) (d : Addr) (o1 : Addr) (p2 : Int32) (t : Addr) (vs : List Value) (nz : Int32) (nn : Nat) (na : Nat) (h0 : Heap) (n0 : Nat) (Z0 : n0 ≤ h0.size) (F0_ : Fld Z h0 d "com/example/portunus/portunus/Atom" "bytes" "[B" (.ref t)) (F1_ : own_L Z h0 t .byte (vs)) (F2_ : own_L Z h0 o1 .byte ((List.replicate 128 (Value.int 0)))) (ge_o1 : n0 ≤ o1) (ne_d_o1 : d ≠ o1) (ne_t_o1 : t ≠ o1) (hlz : vs.length.toInt32 = nz) (hln : vs.length = nn) (hnn : nz.toInt = nn) (hat : p2.toInt = na) (hna : na ≤ 15) (hnb : nn ≤ 105) (hfit : ∀ z ∈ vs, fits .byte z = true) (hd1 : 100 ≤ nn) :
    MetFree l (⟨"com/example/portunus/portunus/Atom", "writeCanonical", "([BI)I"⟩ : MethodName) (head1 (Jvm.Cond.code (⟨"com/example/portunus/portunus/Atom", "writeCanonical", "([BI)I"⟩ : MethodName) prog_2_method_8_code 6 (some .int) :: ws) ({ frames := 1, cells := 0, slots := 0, locals := 18 } : Room)) (fun za U => za = #[(.ref d), (.ref o1), (.int p2)] ∧ Z.Warmed39 U.vm ∧ U.heap = h0) (fun _ _ _ _ _ => True) (fun _ U o U' => ∃ rv Lq, o = .returned rv ∧ Q_w3 Z d o1 p2 t vs nz nn na h0 n0 rv U'.heap Lq ∧ FrameEnd U o U' Lq ({ frames := 1, cells := 0, slots := 0, locals := 18 } : Room).cells ({ frames := 1, cells := 0, slots := 0, locals := 18 } : Room).slots) := by
  refine MetFree.of_bodySF (plainFor_of_name pn_1) hisR ?_
  intro p e s m args below meth c s₁ Bd hml0 hP hK
  obtain ⟨rfl, hZ, hh⟩ := hP
  have hx := Bd.exec
  have hby := Bd.bytes
  have hml : c.maxLocals = 6 := hml0
  have hown : s.vm.findClass "com/example/portunus/portunus/Atom" = some m.cls := findClass_of_methodNamed Bd.named
  have hnm := (name_of_methodNamed Bd.named Bd.method).1
  have X0 : Stand p l e ({ frames := 1, cells := 0, slots := 0, locals := 18 } : Room) s m #[(.ref d), (.ref o1), (.int p2)] below meth c s₁ [] 0 0 := Stand.of_body Bd
  have e0 : s₁.heap = h0 := by rw [← hh, Bd.state]; rfl
  have N0 := Fr.nil n0
  refine own_out (own_nm fun G hG => own_st (fun zt zk => castTop (ef_rm_w3 m d o1 p2) zk) ?_)
  show own_Go p e below G (s₁.setTop (mkF m 0 #[.val (.ref d), .val (.ref o1), .val (.int p2), .unset, .unset, .unset] []))
  refine own_st (fun zw zk => XS.iloadN X0.here hx rfl (hb hby d5_0) rfl zk) ?_
  refine own_st (fun zw zk => XS.aloadN X0.here hx rfl (hb hby d5_1) rfl rfl zk) ?_
  obtain ⟨T33, X33, e33, st33⟩ := getF X0 hx hZ hown (host := "") (Or.inl (hw _ (List.mem_of_getElem? (i := 26) rfl))) Via.refl e0 F0_ (g := (mkF m 2 #[.val (.ref d), .val (.ref o1), .val (.int p2), .unset, .unset, .unset] [(.ref d), (.int p2)])) rfl rfl (hb hby d5_2)
  refine own_st (fun zw zk => st33 zw zk) ?_
  refine own_st (fun zw zk => own_len X33 hx hZ e33 F1_ (z := nz) (hlz) (g := (mkF m 5 #[.val (.ref d), .val (.ref o1), .val (.int p2), .unset, .unset, .unset] [(.ref t), (.int p2)])) rfl rfl (hb hby d5_5) _ zk) ?_
  obtain ⟨_, _, ⟨T34, L34, k34, n34⟩, -, X34, ⟨Lc34, hQ34, l34, y34, z34⟩, st34⟩ := Jvm.LawKit.callS X33 hx (y := (⟨"com/example/portunus/portunus/Atom", "digits", "(I)I"⟩ : MethodName)) hown (mvT hZ (hw _ (List.mem_of_getElem? (i := 33) rfl))) (mvT hZ (hw _ (List.mem_of_getElem? (i := 34) rfl))) (mvT hZ (hw _ (List.mem_of_getElem? (i := 10) rfl))) (mvT hZ (hw _ (List.mem_of_getElem? (i := 35) rfl))) (by decide) (backOf (W := 1) (rm6 l Z a0 hw [] nz h0 n0 Z0 (by omega) (by omega)) hZ (hw _ (List.mem_of_getElem? (i := 35) rfl)) (hw _ (List.mem_of_getElem? (i := 10) rfl)) (by decide) (by decide)) (g := (mkF m 6 #[.val (.ref d), .val (.ref o1), .val (.int p2), .unset, .unset, .unset] [(.int nz), (.int p2)])) rfl (by rw [hml]; rfl) (argsL := [(.int nz)]) (rest := [(.int p2)]) (lenOf pd_1 rfl) rfl (by show 2 * 0 + _ ≤ _; exact Nat.le_of_eq rfl) (hb hby d5_6) (fun _ _ => ⟨rfl, e33, (by decide : 0 + 0 ≤ _), (by decide : 0 + 0 ≤ _)⟩)
  dsimp only [Pt.U, Pt.locs, Pt.cells, Pt.slots] at X34 l34 y34 z34 st34 hQ34
  subst l34 y34 z34
  obtain ⟨rfl, N34q, e34⟩ := hQ34
  have N34 := Fr.app N0 N34q
  refine own_st (fun zw zk => st34 zw zk) ?_
  show own_Go p e below G (T34.setTop (mkF m 9 #[.val (.ref d), .val (.ref o1), .val (.int p2), .unset, .unset, .unset] [(.int (own_dg nz)), (.int p2)]))
  rw [show (own_dg nz) = (3 : Int32) from own_dg3 hnn hd1 hnb]
  refine own_st (fun zw zk => XS.iadd X34.here hx rfl (hb hby d5_9) rfl zk) ?_
  refine own_st (fun zw zk => XS.istoreN X34.here hx rfl (hb hby d5_10) rfl rfl zk) ?_
  show own_Go p e below G (T34.setTop (mkF m 11 #[.val (.ref d), .val (.ref o1), .val (.int p2), .val (.int (p2 + (3 : Int32))), .unset, .unset] []))
  refine own_st (fun zw zk => XS.aloadN X34.here hx rfl (hb hby d5_11) rfl rfl zk) ?_
  obtain ⟨T35, X35, e35, st35⟩ := getF X34 hx hZ hown (host := "") (Or.inl (hw _ (List.mem_of_getElem? (i := 26) rfl))) Via.refl e34 F0_ (g := (mkF m 12 #[.val (.ref d), .val (.ref o1), .val (.int p2), .val (.int (p2 + (3 : Int32))), .unset, .unset] [(.ref d)])) rfl rfl (hb hby d5_12)
  refine own_st (fun zw zk => st35 zw zk) ?_
  refine own_st (fun zw zk => own_len X35 hx hZ e35 F1_ (z := nz) (hlz) (g := (mkF m 15 #[.val (.ref d), .val (.ref o1), .val (.int p2), .val (.int (p2 + (3 : Int32))), .unset, .unset] [(.ref t)])) rfl rfl (hb hby d5_15) _ zk) ?_
  refine own_st (fun zw zk => XS.istore X35.here hx rfl (hb hby d5_16) rfl rfl zk) ?_
  show own_Go p e below G (T35.setTop (mkF m 18 #[.val (.ref d), .val (.ref o1), .val (.int p2), .val (.int (p2 + (3 : Int32))), .val (.int nz), .unset] []))
  refine own_st (fun zw zk => XS.iloadN X35.here hx rfl (hb hby d5_18) rfl zk) ?_
  refine own_st (fun zw zk => XS.iconst X35.here hx rfl (hb hby d5_19) zk) ?_
  refine own_st (fun zw zk => XS.isub X35.here hx rfl (hb hby d5_20) rfl zk) ?_
  refine own_st (fun zw zk => XS.istore X35.here hx rfl (hb hby d5_21) rfl rfl zk) ?_
  show own_Go p e below G (T35.setTop (mkF m 23 #[.val (.ref d), .val (.ref o1), .val (.int p2), .val (.int (p2 + (3 : Int32))), .val (.int nz), .val (.int ((p2 + (3 : Int32)) - (1 : Int32)))] []))
  generalize hps0 : ((p2 + (3 : Int32)) - (1 : Int32)) = ps0
  have hp0 : ps0.toInt = (na + 2 : Nat) := by rw [← hps0]; exact own_dec (n := na + 2) (own_plus (k := 3) hat (by decide) (by omega))
  refine own_st (fun zw zk => XS.iload X35.here hx rfl (hb hby d5_23) rfl zk) ?_
  refine own_st (fun zw zk => XS.iloadN X35.here hx rfl (hb hby d5_25) rfl zk) ?_
  have hc26 : ¬ (ps0 < p2) := own_nlt hp0 hat (by omega)
  refine own_st (fun zw zk => XS.icmpNo X35.here hx rfl (hb hby d5_26) rfl (flt hc26).1 zk) ?_
  refine own_st (fun zw zk => XS.aloadN X35.here hx rfl (hb hby d5_29) rfl rfl zk) ?_
  refine own_st (fun zw zk => XS.iload X35.here hx rfl (hb hby d5_30) rfl zk) ?_
  refine own_st (fun zw zk => XS.bipush X35.here hx rfl (hb hby d5_32) zk) ?_
  refine own_st (fun zw zk => XS.iload X35.here hx rfl (hb hby d5_34) rfl zk) ?_
  refine own_st (fun zw zk => XS.bipush X35.here hx rfl (hb hby d5_36) zk) ?_
  show own_Go p e below G (T35.setTop (mkF m 38 #[.val (.ref d), .val (.ref o1), .val (.int p2), .val (.int (p2 + (3 : Int32))), .val (.int nz), .val (.int ps0)] [(.int (10 : Int32)), (.int nz), (.int (48 : Int32)), (.int ps0), (.ref o1)]))
  refine own_st (fun zw zk => iremM X35 hx rfl (hb hby d5_38) rfl (by decide) zk) ?_
  refine own_st (fun zw zk => XS.iadd X35.here hx rfl (hb hby d5_39) rfl zk) ?_
  refine own_st (fun zw zk => XS.i2b X35.here hx rfl (hb hby d5_40) rfl zk) ?_
  obtain ⟨T36, h36, X36, e36, W36, V36, st36⟩ := own_bst X35 hx hZ e35 F2_ (j := ps0) (na + 2) (own_nn hp0) (own_nat hp0) (by simp only [List.length_set, List.length_replicate]; omega) (g := (mkF m 41 #[.val (.ref d), .val (.ref o1), .val (.int p2), .val (.int (p2 + (3 : Int32))), .val (.int nz), .val (.int ps0)] [(.int (((48 : Int32) + (nz % (10 : Int32))).toInt8.toInt32)), (.int ps0), (.ref o1)])) rfl rfl (hb hby d5_41)
  have F2_36 : own_L Z h36 o1 .byte (((List.replicate 128 (Value.int 0)).set (na + 2) (.int ((((48 : Int32) + (nz % (10 : Int32))).toInt8.toInt32).toInt8.toInt32)))) := V36
  have N36 := Fr.snoc X36 N34 ge_o1
  refine own_st (fun zw zk => st36 zw zk) ?_
  have F0_36 := F0_.other W36 (Or.inl ne_d_o1)
  have F1_36 := F1_.other W36 ne_t_o1
  have Z36 : n0 ≤ h36.size := Nat.le_trans Z0 (Keep.of_wr W36).1
  have Kp36 := (Keep.refl h0 [o1]).wr W36 (Or.inl (List.mem_of_getElem? (i := 0) rfl))
  refine own_st (fun zw zk => XS.iload X36.here hx rfl (hb hby d5_42) rfl zk) ?_
  refine own_st (fun zw zk => XS.bipush X36.here hx rfl (hb hby d5_44) zk) ?_
  refine own_st (fun zw zk => XS.idiv X36.here hx rfl (hb hby d5_46) rfl (by decide) zk) ?_
  refine own_st (fun zw zk => XS.istore X36.here hx rfl (hb hby d5_47) rfl rfl zk) ?_
  show own_Go p e below G (T36.setTop (mkF m 49 #[.val (.ref d), .val (.ref o1), .val (.int p2), .val (.int (p2 + (3 : Int32))), .val (.int (nz / (10 : Int32))), .val (.int ps0)] []))
  refine own_st (fun zw zk => XS.iinc X36.here hx rfl (hb hby d5_49) rfl rfl zk) ?_
  show own_Go p e below G (T36.setTop (mkF m 52 #[.val (.ref d), .val (.ref o1), .val (.int p2), .val (.int (p2 + (3 : Int32))), .val (.int (nz / (10 : Int32))), .val (.int (ps0 + (-1 : Int32)))] []))
  refine own_st (fun zw zk => XS.goto X36.here hx rfl (pc0 := 52) (pc' := 23) rfl (hb hby d5_52) (by decide) (by decide) zk) ?_
  show own_Go p e below G (T36.setTop (mkF m 23 #[.val (.ref d), .val (.ref o1), .val (.int p2), .val (.int (p2 + (3 : Int32))), .val (.int (nz / (10 : Int32))), .val (.int (ps0 + (-1 : Int32)))] []))
  generalize hps1 : (ps0 + (-1 : Int32)) = ps1
  have hp1 : ps1.toInt = (na + 1 : Nat) := by rw [← hps1]; exact own_decm hp0
  refine own_st (fun zw zk => XS.iload X36.here hx rfl (hb hby d5_23) rfl zk) ?_
  refine own_st (fun zw zk => XS.iloadN X36.here hx rfl (hb hby d5_25) rfl zk) ?_
  have hc26_1 : ¬ (ps1 < p2) := own_nlt hp1 hat (by omega)
  refine own_st (fun zw zk => XS.icmpNo X36.here hx rfl (hb hby d5_26) rfl (flt hc26_1).1 zk) ?_
  refine own_st (fun zw zk => XS.aloadN X36.here hx rfl (hb hby d5_29) rfl rfl zk) ?_
  refine own_st (fun zw zk => XS.iload X36.here hx rfl (hb hby d5_30) rfl zk) ?_
  refine own_st (fun zw zk => XS.bipush X36.here hx rfl (hb hby d5_32) zk) ?_
  refine own_st (fun zw zk => XS.iload X36.here hx rfl (hb hby d5_34) rfl zk) ?_
  refine own_st (fun zw zk => XS.bipush X36.here hx rfl (hb hby d5_36) zk) ?_
  show own_Go p e below G (T36.setTop (mkF m 38 #[.val (.ref d), .val (.ref o1), .val (.int p2), .val (.int (p2 + (3 : Int32))), .val (.int (nz / (10 : Int32))), .val (.int ps1)] [(.int (10 : Int32)), (.int (nz / (10 : Int32))), (.int (48 : Int32)), (.int ps1), (.ref o1)]))
  refine own_st (fun zw zk => iremM X36 hx rfl (hb hby d5_38) rfl (by decide) zk) ?_
  refine own_st (fun zw zk => XS.iadd X36.here hx rfl (hb hby d5_39) rfl zk) ?_
  refine own_st (fun zw zk => XS.i2b X36.here hx rfl (hb hby d5_40) rfl zk) ?_
  obtain ⟨T37, h37, X37, e37, W37, V37, st37⟩ := own_bst X36 hx hZ e36 F2_36 (j := ps1) (na + 1) (own_nn hp1) (own_nat hp1) (by simp only [List.length_set, List.length_replicate]; omega) (g := (mkF m 41 #[.val (.ref d), .val (.ref o1), .val (.int p2), .val (.int (p2 + (3 : Int32))), .val (.int (nz / (10 : Int32))), .val (.int ps1)] [(.int (((48 : Int32) + ((nz / (10 : Int32)) % (10 : Int32))).toInt8.toInt32)), (.int ps1), (.ref o1)])) rfl rfl (hb hby d5_41)
  have F2_37 : own_L Z h37 o1 .byte ((((List.replicate 128 (Value.int 0)).set (na + 2) (.int ((((48 : Int32) + (nz % (10 : Int32))).toInt8.toInt32).toInt8.toInt32))).set (na + 1) (.int ((((48 : Int32) + ((nz / (10 : Int32)) % (10 : Int32))).toInt8.toInt32).toInt8.toInt32)))) := V37
  have N37 := Fr.snoc X37 N36 ge_o1
  refine own_st (fun zw zk => st37 zw zk) ?_
  have F0_37 := F0_36.other W37 (Or.inl ne_d_o1)
  have F1_37 := F1_36.other W37 ne_t_o1
  have Z37 : n0 ≤ h37.size := Nat.le_trans Z36 (Keep.of_wr W37).1
  have Kp37 := Kp36.wr W37 (Or.inl (List.mem_of_getElem? (i := 0) rfl))
  refine own_st (fun zw zk => XS.iload X37.here hx rfl (hb hby d5_42) rfl zk) ?_
  refine own_st (fun zw zk => XS.bipush X37.here hx rfl (hb hby d5_44) zk) ?_
  refine own_st (fun zw zk => XS.idiv X37.here hx rfl (hb hby d5_46) rfl (by decide) zk) ?_
  refine own_st (fun zw zk => XS.istore X37.here hx rfl (hb hby d5_47) rfl rfl zk) ?_
  show own_Go p e below G (T37.setTop (mkF m 49 #[.val (.ref d), .val (.ref o1), .val (.int p2), .val (.int (p2 + (3 : Int32))), .val (.int ((nz / (10 : Int32)) / (10 : Int32))), .val (.int ps1)] []))
  refine own_st (fun zw zk => XS.iinc X37.here hx rfl (hb hby d5_49) rfl rfl zk) ?_
  show own_Go p e below G (T37.setTop (mkF m 52 #[.val (.ref d), .val (.ref o1), .val (.int p2), .val (.int (p2 + (3 : Int32))), .val (.int ((nz / (10 : Int32)) / (10 : Int32))), .val (.int (ps1 + (-1 : Int32)))] []))
  refine own_st (fun zw zk => XS.goto X37.here hx rfl (pc0 := 52) (pc' := 23) rfl (hb hby d5_52) (by decide) (by decide) zk) ?_
  show own_Go p e below G (T37.setTop (mkF m 23 #[.val (.ref d), .val (.ref o1), .val (.int p2), .val (.int (p2 + (3 : Int32))), .val (.int ((nz / (10 : Int32)) / (10 : Int32))), .val (.int (ps1 + (-1 : Int32)))] []))
  generalize hps2 : (ps1 + (-1 : Int32)) = ps2
  have hp2 : ps2.toInt = (na + 0 : Nat) := by rw [← hps2]; exact own_decm hp1
  refine own_st (fun zw zk => XS.iload X37.here hx rfl (hb hby d5_23) rfl zk) ?_
  refine own_st (fun zw zk => XS.iloadN X37.here hx rfl (hb hby d5_25) rfl zk) ?_
  have hc26_2 : ¬ (ps2 < p2) := own_nlt hp2 hat (by omega)
  refine own_st (fun zw zk => XS.icmpNo X37.here hx rfl (hb hby d5_26) rfl (flt hc26_2).1 zk) ?_
  refine own_st (fun zw zk => XS.aloadN X37.here hx rfl (hb hby d5_29) rfl rfl zk) ?_
  refine own_st (fun zw zk => XS.iload X37.here hx rfl (hb hby d5_30) rfl zk) ?_
  refine own_st (fun zw zk => XS.bipush X37.here hx rfl (hb hby d5_32) zk) ?_
  refine own_st (fun zw zk => XS.iload X37.here hx rfl (hb hby d5_34) rfl zk) ?_
  refine own_st (fun zw zk => XS.bipush X37.here hx rfl (hb hby d5_36) zk) ?_
  show own_Go p e below G (T37.setTop (mkF m 38 #[.val (.ref d), .val (.ref o1), .val (.int p2), .val (.int (p2 + (3 : Int32))), .val (.int ((nz / (10 : Int32)) / (10 : Int32))), .val (.int ps2)] [(.int (10 : Int32)), (.int ((nz / (10 : Int32)) / (10 : Int32))), (.int (48 : Int32)), (.int ps2), (.ref o1)]))
  refine own_st (fun zw zk => iremM X37 hx rfl (hb hby d5_38) rfl (by decide) zk) ?_
  refine own_st (fun zw zk => XS.iadd X37.here hx rfl (hb hby d5_39) rfl zk) ?_
  refine own_st (fun zw zk => XS.i2b X37.here hx rfl (hb hby d5_40) rfl zk) ?_
  obtain ⟨T38, h38, X38, e38, W38, V38, st38⟩ := own_bst X37 hx hZ e37 F2_37 (j := ps2) (na + 0) (own_nn hp2) (own_nat hp2) (by simp only [List.length_set, List.length_replicate]; omega) (g := (mkF m 41 #[.val (.ref d), .val (.ref o1), .val (.int p2), .val (.int (p2 + (3 : Int32))), .val (.int ((nz / (10 : Int32)) / (10 : Int32))), .val (.int ps2)] [(.int (((48 : Int32) + (((nz / (10 : Int32)) / (10 : Int32)) % (10 : Int32))).toInt8.toInt32)), (.int ps2), (.ref o1)])) rfl rfl (hb hby d5_41)
  have F2_38 : own_L Z h38 o1 .byte (((((List.replicate 128 (Value.int 0)).set (na + 2) (.int ((((48 : Int32) + (nz % (10 : Int32))).toInt8.toInt32).toInt8.toInt32))).set (na + 1) (.int ((((48 : Int32) + ((nz / (10 : Int32)) % (10 : Int32))).toInt8.toInt32).toInt8.toInt32))).set (na + 0) (.int ((((48 : Int32) + (((nz / (10 : Int32)) / (10 : Int32)) % (10 : Int32))).toInt8.toInt32).toInt8.toInt32)))) := V38
  have N38 := Fr.snoc X38 N37 ge_o1
  refine own_st (fun zw zk => st38 zw zk) ?_
  have F0_38 := F0_37.other W38 (Or.inl ne_d_o1)
  have F1_38 := F1_37.other W38 ne_t_o1
  have Z38 : n0 ≤ h38.size := Nat.le_trans Z37 (Keep.of_wr W38).1
  have Kp38 := Kp37.wr W38 (Or.inl (List.mem_of_getElem? (i := 0) rfl))
  refine own_st (fun zw zk => XS.iload X38.here hx rfl (hb hby d5_42) rfl zk) ?_
  refine own_st (fun zw zk => XS.bipush X38.here hx rfl (hb hby d5_44) zk) ?_
  refine own_st (fun zw zk => XS.idiv X38.here hx rfl (hb hby d5_46) rfl (by decide) zk) ?_
  refine own_st (fun zw zk => XS.istore X38.here hx rfl (hb hby d5_47) rfl rfl zk) ?_
  show own_Go p e below G (T38.setTop (mkF m 49 #[.val (.ref d), .val (.ref o1), .val (.int p2), .val (.int (p2 + (3 : Int32))), .val (.int (((nz / (10 : Int32)) / (10 : Int32)) / (10 : Int32))), .val (.int ps2)] []))
  refine own_st (fun zw zk => XS.iinc X38.here hx rfl (hb hby d5_49) rfl rfl zk) ?_
  show own_Go p e below G (T38.setTop (mkF m 52 #[.val (.ref d), .val (.ref o1), .val (.int p2), .val (.int (p2 + (3 : Int32))), .val (.int (((nz / (10 : Int32)) / (10 : Int32)) / (10 : Int32))), .val (.int (ps2 + (-1 : Int32)))] []))
  refine own_st (fun zw zk => XS.goto X38.here hx rfl (pc0 := 52) (pc' := 23) rfl (hb hby d5_52) (by decide) (by decide) zk) ?_
  show own_Go p e below G (T38.setTop (mkF m 23 #[.val (.ref d), .val (.ref o1), .val (.int p2), .val (.int (p2 + (3 : Int32))), .val (.int (((nz / (10 : Int32)) / (10 : Int32)) / (10 : Int32))), .val (.int (ps2 + (-1 : Int32)))] []))
  generalize hps3 : (ps2 + (-1 : Int32)) = ps3
  have hp3 : ps3 < p2 := by rw [← hps3]; exact own_last (n := na) hp2 hat
  refine own_st (fun zw zk => XS.iload X38.here hx rfl (hb hby d5_23) rfl zk) ?_
  refine own_st (fun zw zk => XS.iloadN X38.here hx rfl (hb hby d5_25) rfl zk) ?_
  have hc26_3 : ps3 < p2 := hp3
  refine own_st (fun zw zk => XS.icmpYes X38.here hx rfl (pc0 := 26) (pc' := 55) rfl (hb hby d5_26) rfl (tlt hc26_3).1 (by decide) (by decide) zk) ?_
  refine own_st (fun zw zk => XS.aloadN X38.here hx rfl (hb hby d5_55) rfl rfl zk) ?_
  refine own_st (fun zw zk => XS.iloadN X38.here hx rfl (hb hby d5_56) rfl zk) ?_
  refine own_st (fun zw zk => XS.bipush X38.here hx rfl (hb hby d5_57) zk) ?_
  obtain ⟨T39, h39, X39, e39, W39, V39, st39⟩ := own_bst X38 hx hZ e38 F2_38 (j := (p2 + (3 : Int32))) (na + 3) (own_nn (own_plus hat (by decide : ((3 : Int32)).toInt = (3 : Nat)) (by omega))) (own_nat (own_plus hat (by decide : ((3 : Int32)).toInt = (3 : Nat)) (by omega))) (by simp only [List.length_set, List.length_replicate]; omega) (g := (mkF m 59 #[.val (.ref d), .val (.ref o1), .val (.int p2), .val (.int (p2 + (3 : Int32))), .val (.int (((nz / (10 : Int32)) / (10 : Int32)) / (10 : Int32))), .val (.int ps3)] [(.int (58 : Int32)), (.int (p2 + (3 : Int32))), (.ref o1)])) rfl rfl (hb hby d5_59)
  have F2_39 : own_L Z h39 o1 .byte ((((((List.replicate 128 (Value.int 0)).set (na + 2) (.int ((((48 : Int32) + (nz % (10 : Int32))).toInt8.toInt32).toInt8.toInt32))).set (na + 1) (.int ((((48 : Int32) + ((nz / (10 : Int32)) % (10 : Int32))).toInt8.toInt32).toInt8.toInt32))).set (na + 0) (.int ((((48 : Int32) + (((nz / (10 : Int32)) / (10 : Int32)) % (10 : Int32))).toInt8.toInt32).toInt8.toInt32))).set (na + 3) (.int (58 : Int32)))) := V39
  have N39 := Fr.snoc X39 N38 ge_o1
  refine own_st (fun zw zk => st39 zw zk) ?_
  have F0_39 := F0_38.other W39 (Or.inl ne_d_o1)
  have F1_39 := F1_38.other W39 ne_t_o1
  have Z39 : n0 ≤ h39.size := Nat.le_trans Z38 (Keep.of_wr W39).1
  have Kp39 := Kp38.wr W39 (Or.inl (List.mem_of_getElem? (i := 0) rfl))
  refine own_st (fun zw zk => XS.aloadN X39.here hx rfl (hb hby d5_60) rfl rfl zk) ?_
  show own_Go p e below G (T39.setTop (mkF m 61 #[.val (.ref d), .val (.ref o1), .val (.int p2), .val (.int (p2 + (3 : Int32))), .val (.int (((nz / (10 : Int32)) / (10 : Int32)) / (10 : Int32))), .val (.int ps3)] [(.ref d)]))
  obtain ⟨T40, X40, e40, st40⟩ := getF X39 hx hZ hown (host := "") (Or.inl (hw _ (List.mem_of_getElem? (i := 26) rfl))) Via.refl e39 F0_39 (g := (mkF m 61 #[.val (.ref d), .val (.ref o1), .val (.int p2), .val (.int (p2 + (3 : Int32))), .val (.int (((nz / (10 : Int32)) / (10 : Int32)) / (10 : Int32))), .val (.int ps3)] [(.ref d)])) rfl rfl (hb hby d5_61)
  refine own_st (fun zw zk => st40 zw zk) ?_
  refine own_st (fun zw zk => XS.iconst X40.here hx rfl (hb hby d5_64) zk) ?_
  refine own_st (fun zw zk => XS.aloadN X40.here hx rfl (hb hby d5_65) rfl rfl zk) ?_
  refine own_st (fun zw zk => XS.iloadN X40.here hx rfl (hb hby d5_66) rfl zk) ?_
  refine own_st (fun zw zk => XS.iconst X40.here hx rfl (hb hby d5_67) zk) ?_
  refine own_st (fun zw zk => XS.iadd X40.here hx rfl (hb hby d5_68) rfl zk) ?_
  refine own_st (fun zw zk => XS.aloadN X40.here hx rfl (hb hby d5_69) rfl rfl zk) ?_
  obtain ⟨T41, X41, e41, st41⟩ := getF X40 hx hZ hown (host := "") (Or.inl (hw _ (List.mem_of_getElem? (i := 26) rfl))) Via.refl e40 F0_39 (g := (mkF m 70 #[.val (.ref d), .val (.ref o1), .val (.int p2), .val (.int (p2 + (3 : Int32))), .val (.int (((nz / (10 : Int32)) / (10 : Int32)) / (10 : Int32))), .val (.int ps3)] [(.ref d), (.int ((p2 + (3 : Int32)) + (1 : Int32))), (.ref o1), (.int (0 : Int32)), (.ref t)])) rfl rfl (hb hby d5_70)
  refine own_st (fun zw zk => st41 zw zk) ?_
  show own_Go p e below G (T41.setTop (mkF m 73 #[.val (.ref d), .val (.ref o1), .val (.int p2), .val (.int (p2 + (3 : Int32))), .val (.int (((nz / (10 : Int32)) / (10 : Int32)) / (10 : Int32))), .val (.int ps3)] [(.ref t), (.int ((p2 + (3 : Int32)) + (1 : Int32))), (.ref o1), (.int (0 : Int32)), (.ref t)]))
  refine own_st (fun zw zk => own_len X41 hx hZ e41 F1_39 (z := nz) (hlz) (g := (mkF m 73 #[.val (.ref d), .val (.ref o1), .val (.int p2), .val (.int (p2 + (3 : Int32))), .val (.int (((nz / (10 : Int32)) / (10 : Int32)) / (10 : Int32))), .val (.int ps3)] [(.ref t), (.int ((p2 + (3 : Int32)) + (1 : Int32))), (.ref o1), (.int (0 : Int32)), (.ref t)])) rfl rfl (hb hby d5_73) _ zk) ?_
  obtain ⟨vo, hvo, hw0, hw1, hw2, hw3, hw4, hw5, hw6, hw7⟩ := own_wr3 (vs := vs) hnn hna hnb hln hd1
  obtain ⟨T42, h42, L42, X42, e42, N42, K42, V42, st42⟩ := own_cp X41 hx hZ hown (hw _ (List.mem_of_getElem? (i := 36) rfl)) (hw _ (List.mem_of_getElem? (i := 39) rfl)) (hw _ (List.mem_of_getElem? (i := 37) rfl)) (hw _ (List.mem_of_getElem? (i := 38) rfl)) e41 F1_39 F2_39 rfl hfit (own_setfit (own_setfit (own_setfit (own_setfit (own_repfit 128) (fits_nar_byte _)) (fits_nar_byte _)) (fits_nar_byte _)) (by decide)) (by omega) (by simp) (sp := (0 : Int32)) (dp := ((p2 + (3 : Int32)) + (1 : Int32))) (nn := nz) (0) (na + 4) (nn) (by decide) (by decide) (own_nn (own_plus (n := na + 3) (k := 1) (own_plus hat (by decide : ((3 : Int32)).toInt = (3 : Nat)) (by omega)) (by decide : (1 : Int32).toInt = (1 : Nat)) (by omega))) (own_nat (own_plus (n := na + 3) (k := 1) (own_plus hat (by decide : ((3 : Int32)).toInt = (3 : Nat)) (by omega)) (by decide : (1 : Int32).toInt = (1 : Nat)) (by omega))) (own_nn hnn) (own_nat hnn) (by omega) (by simp only [List.length_set, List.length_replicate]; omega) N39 ge_o1 (g := (mkF m 74 #[.val (.ref d), .val (.ref o1), .val (.int p2), .val (.int (p2 + (3 : Int32))), .val (.int (((nz / (10 : Int32)) / (10 : Int32)) / (10 : Int32))), .val (.int ps3)] [(.int nz), (.int ((p2 + (3 : Int32)) + (1 : Int32))), (.ref o1), (.int (0 : Int32)), (.ref t)])) rfl (by rw [hml]; rfl) rfl (hb hby d5_74) (by decide) (W := 0) (by show 2 * 0 + _ ≤ _; exact Nat.le_of_eq rfl) (by decide)
  have F2_42 : own_L Z h42 o1 .byte (((((((List.replicate 128 (Value.int 0)).set (na + 2) (.int ((((48 : Int32) + (nz % (10 : Int32))).toInt8.toInt32).toInt8.toInt32))).set (na + 1) (.int ((((48 : Int32) + ((nz / (10 : Int32)) % (10 : Int32))).toInt8.toInt32).toInt8.toInt32))).set (na + 0) (.int ((((48 : Int32) + (((nz / (10 : Int32)) / (10 : Int32)) % (10 : Int32))).toInt8.toInt32).toInt8.toInt32))).set (na + 3) (.int (58 : Int32))).take (na + 4) ++ (vs.drop 0).take nn ++ (((((List.replicate 128 (Value.int 0)).set (na + 2) (.int ((((48 : Int32) + (nz % (10 : Int32))).toInt8.toInt32).toInt8.toInt32))).set (na + 1) (.int ((((48 : Int32) + ((nz / (10 : Int32)) % (10 : Int32))).toInt8.toInt32).toInt8.toInt32))).set (na + 0) (.int ((((48 : Int32) + (((nz / (10 : Int32)) / (10 : Int32)) % (10 : Int32))).toInt8.toInt32).toInt8.toInt32))).set (na + 3) (.int (58 : Int32))).drop ((na + 4) + nn))) := V42
  refine own_st (fun zw zk => st42 zw zk) ?_
  have F0_42 := F0_39.keep K42 (ninS ne_d_o1 nin0)
  have F1_42 := F1_39.keep K42 (ninS ne_t_o1 nin0)
  have Z42 : n0 ≤ h42.size := Nat.le_trans Z39 K42.1
  have Kp42 := Kp39.trans K42 (allS (Or.inl (List.mem_of_getElem? (i := 0) rfl)) all0)
  rw [← hvo] at F2_42
  refine own_st (fun zw zk => XS.iloadN X42.here hx rfl (hb hby d5_77) rfl zk) ?_
  refine own_st (fun zw zk => XS.iconst X42.here hx rfl (hb hby d5_78) zk) ?_
  refine own_st (fun zw zk => XS.iadd X42.here hx rfl (hb hby d5_79) rfl zk) ?_
  refine own_st (fun zw zk => XS.aloadN X42.here hx rfl (hb hby d5_80) rfl rfl zk) ?_
  obtain ⟨T43, X43, e43, st43⟩ := getF X42 hx hZ hown (host := "") (Or.inl (hw _ (List.mem_of_getElem? (i := 26) rfl))) Via.refl e42 F0_42 (g := (mkF m 81 #[.val (.ref d), .val (.ref o1), .val (.int p2), .val (.int (p2 + (3 : Int32))), .val (.int (((nz / (10 : Int32)) / (10 : Int32)) / (10 : Int32))), .val (.int ps3)] [(.ref d), (.int ((p2 + (3 : Int32)) + (1 : Int32)))])) rfl rfl (hb hby d5_81)
  refine own_st (fun zw zk => st43 zw zk) ?_
  refine own_st (fun zw zk => own_len X43 hx hZ e43 F1_42 (z := nz) (hlz) (g := (mkF m 84 #[.val (.ref d), .val (.ref o1), .val (.int p2), .val (.int (p2 + (3 : Int32))), .val (.int (((nz / (10 : Int32)) / (10 : Int32)) / (10 : Int32))), .val (.int ps3)] [(.ref t), (.int ((p2 + (3 : Int32)) + (1 : Int32)))])) rfl rfl (hb hby d5_84) _ zk) ?_
  show own_Go p e below G (T43.setTop (mkF m 85 #[.val (.ref d), .val (.ref o1), .val (.int p2), .val (.int (p2 + (3 : Int32))), .val (.int (((nz / (10 : Int32)) / (10 : Int32)) / (10 : Int32))), .val (.int ps3)] [(.int nz), (.int ((p2 + (3 : Int32)) + (1 : Int32)))]))
  refine own_st (fun zw zk => XS.iadd X43.here hx rfl (hb hby d5_85) rfl zk) ?_
  subst hG
  obtain ⟨fs, hr, hrun, hended, hW, hsame⟩ := X43.leave (v := some (.int (((p2 + (3 : Int32)) + (1 : Int32)) + nz))) (hlocks := Bd.notSynchronized) (fun h => by rw [Bd.returns] at h; cases h)
  refine ⟨_, own_retI X43 hx Bd.returns (hb hby d5_86) hr, _, hrun, hended, _, _, rfl, ?_, ⟨_, rfl⟩, hW, hsame.mono (by decide) (by decide)⟩
  show Q_w3 Z d o1 p2 t vs nz nn na h0 n0 _ T43.heap _
  rw [e43]
  exact ⟨rfl, N42, vo, Kp42, F2_42, hw0, hw1, hw2, hw3, hw4, hw5, hw6, hw7⟩
theorem d8_0 : decode method_5_code 0 = .ok (.iload_n 3, 1) := by decide +kernel
theorem d8_1 : decode method_5_code 1 = .ok (.aload_n 2, 1) := by decide +kernel
theorem d8_2 : decode method_5_code 2 = .ok (.arraylength, 1) := by decide +kernel
theorem d8_3 : decode method_5_code 3 = .ok (.if_icmp .ge 14, 3) := by decide +kernel
theorem d8_6 : decode method_5_code 6 = .ok (.aload_n 0, 1) := by decide +kernel
theorem d8_7 : decode method_5_code 7 = .ok (.iload_n 1, 1) := by decide +kernel
theorem d8_8 : decode method_5_code 8 = .ok (.iload_n 3, 1) := by decide +kernel
theorem d8_9 : decode method_5_code 9 = .ok (.iadd, 1) := by decide +kernel
theorem d8_10 : decode method_5_code 10 = .ok (.baload, 1) := by decide +kernel
theorem d8_11 : decode method_5_code 11 = .ok (.aload_n 2, 1) := by decide +kernel
theorem d8_12 : decode method_5_code 12 = .ok (.iload_n 3, 1) := by decide +kernel
theorem d8_13 : decode method_5_code 13 = .ok (.baload, 1) := by decide +kernel
theorem d8_14 : decode method_5_code 14 = .ok (.if_icmp .ne 7, 3) := by decide +kernel
theorem d8_17 : decode method_5_code 17 = .ok (.iconst 1, 1) := by decide +kernel
theorem d8_18 : decode method_5_code 18 = .ok (.goto 4, 3) := by decide +kernel
theorem d8_22 : decode method_5_code 22 = .ok (.ireturn, 1) := by decide +kernel
theorem ef_rm8 (m : MethodId) (o0 : Addr) (i1 : Int32) (b2 : Addr) (i3 : Int32) : entryFrame m #[(.ref o0), (.int i1), (.ref b2), (.int i3)] 4 = mkF m 0 #[.val (.ref o0), .val (.int i1), .val (.ref b2), .val (.int i3)] [] := by first | (simp [entryFrame, mkF, argsToLocals, Value.category]; done) | rfl
def Q8 (Z : State) (o0 : Addr) (i1 : Int32) (b2 : Addr) (i3 : Int32) (vo : List Value) (vb : List Value) (nz : Int32) (nb : Nat) (ni : Nat) (nn : Nat) (h0 : Heap) (n0 : Nat) (rv : Option Value) (hq : Heap) (Lq : List Loc) : Prop := rv = some (.int (1 : Int32)) ∧ Fr n0 Lq ∧ hq = h0
set_option maxRecDepth 65536 in
set_option maxHeartbeats 40000000 in
theorem rm8 (l : Launch) (Z : State) (a0 : Array Value) (hw : ∀ d ∈ tables_1, d.before a0 Z = true) (ws : List Jvm.Cond) (o0 : Addr) (i1 : Int32) (b2 : Addr) (i3 : Int32) (vo : List Value) (vb : List Value) (nz : Int32) (nb : Nat) (ni : Nat) (nn : Nat) (h0 : Heap) (n0 : Nat) (Z0 : n0 ≤ h0.size) (F0_ : own_L Z h0 o0 .byte (vo)) (F1_ : own_L Z h0 b2 .byte (vb)) (hlz : vb.length.toInt32 = nz) (hnn : nz.toInt = nn) (hlb : vb.length = nn) (h1 : i1.toInt = nb) (h3 : i3.toInt = ni) (hbn : nb + nn < 1000) (hsame : ∀ k, k < nn → vo[nb + k]? = vb[k]?) (hfit : ∀ z ∈ vb, fits .byte z = true) :
    MetFree l (⟨"com/example/portunus/portunus/AtomWriteCanonicalPinLaw", "same", "([BI[BI)Z"⟩ : MethodName) (head1 (Jvm.Cond.code (⟨"com/example/portunus/portunus/AtomWriteCanonicalPinLaw", "same", "([BI[BI)Z"⟩ : MethodName) method_5_code 4 (some .boolean) :: ws) ({ frames := 0, cells := 0, slots := 0, locals := 0 } : Room)) (fun za U => za = #[(.ref o0), (.int i1), (.ref b2), (.int i3)] ∧ Z.Warmed39 U.vm ∧ U.heap = h0) (fun _ _ _ _ _ => True) (fun _ U o U' => ∃ rv Lq, o = .returned rv ∧ Q8 Z o0 i1 b2 i3 vo vb nz nb ni nn h0 n0 rv U'.heap Lq ∧ FrameEnd U o U' Lq ({ frames := 0, cells := 0, slots := 0, locals := 0 } : Room).cells ({ frames := 0, cells := 0, slots := 0, locals := 0 } : Room).slots) := by
  refine MetFree.of_bodySF (plainFor_of_name pn_0) hisR ?_
  intro p e s m args below meth c s₁ Bd hml0 hP hK
  obtain ⟨rfl, hZ, hh⟩ := hP
  have hx := Bd.exec
  have hby := Bd.bytes
  have hml : c.maxLocals = 4 := hml0
  have hown : s.vm.findClass "com/example/portunus/portunus/AtomWriteCanonicalPinLaw" = some m.cls := findClass_of_methodNamed Bd.named
  have hnm := (name_of_methodNamed Bd.named Bd.method).1
  have X0 : Stand p l e ({ frames := 0, cells := 0, slots := 0, locals := 0 } : Room) s m #[(.ref o0), (.int i1), (.ref b2), (.int i3)] below meth c s₁ [] 0 0 := Stand.of_body Bd
  have e0 : s₁.heap = h0 := by rw [← hh, Bd.state]; rfl
  have N0 := Fr.nil n0
  refine own_out (own_nm fun G hG => own_st (fun zt zk => castTop (ef_rm8 m o0 i1 b2 i3) zk) ?_)
  show own_Go p e below G (s₁.setTop (mkF m 0 #[.val (.ref o0), .val (.int i1), .val (.ref b2), .val (.int i3)] []))
  refine own_st (fun zw zk => XS.iloadN X0.here hx rfl (hb hby d8_0) rfl zk) ?_
  refine own_st (fun zw zk => XS.aloadN X0.here hx rfl (hb hby d8_1) rfl rfl zk) ?_
  refine own_st (fun zw zk => own_len X0 hx hZ e0 F1_ (z := nz) (hlz) (g := (mkF m 2 #[.val (.ref o0), .val (.int i1), .val (.ref b2), .val (.int i3)] [(.ref b2), (.int i3)])) rfl rfl (hb hby d8_2) _ zk) ?_
  by_cases hc3 : i3 < nz
  · refine own_st (fun zw zk => XS.icmpNo X0.here hx rfl (hb hby d8_3) rfl (tlt hc3).2.1 zk) ?_
    refine own_st (fun zw zk => XS.aloadN X0.here hx rfl (hb hby d8_6) rfl rfl zk) ?_
    refine own_st (fun zw zk => XS.iloadN X0.here hx rfl (hb hby d8_7) rfl zk) ?_
    refine own_st (fun zw zk => XS.iloadN X0.here hx rfl (hb hby d8_8) rfl zk) ?_
    refine own_st (fun zw zk => XS.iadd X0.here hx rfl (hb hby d8_9) rfl zk) ?_
    show own_Go p e below G (s₁.setTop (mkF m 10 #[.val (.ref o0), .val (.int i1), .val (.ref b2), .val (.int i3)] [(.int (i1 + i3)), (.ref o0)]))
    obtain ⟨z, hz⟩ := own_isint (k := ni) (by rw [hlb]; exact own_ltn h3 hnn hc3) hfit
    refine own_st (fun zw zk => own_bld X0 hx hZ e0 F0_ (j := (i1 + i3)) (v := (.int z)) (i := nb + ni) (own_nn (own_plus h1 h3 (by have := own_ltn h3 hnn hc3; omega))) (own_nat (own_plus h1 h3 (by have := own_ltn h3 hnn hc3; omega))) ((hsame ni (own_ltn h3 hnn hc3)).trans hz) (g := (mkF m 10 #[.val (.ref o0), .val (.int i1), .val (.ref b2), .val (.int i3)] [(.int (i1 + i3)), (.ref o0)])) rfl rfl (hb hby d8_10) _ zk) ?_
    refine own_st (fun zw zk => XS.aloadN X0.here hx rfl (hb hby d8_11) rfl rfl zk) ?_
    refine own_st (fun zw zk => XS.iloadN X0.here hx rfl (hb hby d8_12) rfl zk) ?_
    refine own_st (fun zw zk => own_bld X0 hx hZ e0 F1_ (j := i3) (v := (.int z)) (i := ni) (own_nn h3) (own_nat h3) hz (g := (mkF m 13 #[.val (.ref o0), .val (.int i1), .val (.ref b2), .val (.int i3)] [(.int i3), (.ref b2), (.int z)])) rfl rfl (hb hby d8_13) _ zk) ?_
    refine own_st (fun zw zk => XS.icmpNo X0.here hx rfl (hb hby d8_14) rfl (teq (rfl : z = z)).2 zk) ?_
    refine own_st (fun zw zk => XS.iconst X0.here hx rfl (hb hby d8_17) zk) ?_
    refine own_st (fun zw zk => XS.goto X0.here hx rfl (pc0 := 18) (pc' := 22) rfl (hb hby d8_18) (by decide) (by decide) zk) ?_
    show own_Go p e below G (s₁.setTop (mkF m 22 #[.val (.ref o0), .val (.int i1), .val (.ref b2), .val (.int i3)] [(.int (1 : Int32))]))
    subst hG
    obtain ⟨fs, hr, hrun, hended, hW, hsame⟩ := X0.leave (v := some (.int (1 : Int32))) (hlocks := Bd.notSynchronized) (fun h => by rw [Bd.returns] at h; cases h)
    refine ⟨_, retN X0 hx (t := .boolean) Bd.returns (by simp) (hb hby d8_22) hr, _, hrun, hended, _, _, rfl, ?_, ⟨_, rfl⟩, hW, hsame.mono (by decide) (by decide)⟩
    show Q8 Z o0 i1 b2 i3 vo vb nz nb ni nn h0 n0 _ s₁.heap _
    rw [e0]
    exact ⟨rfl, N0, rfl⟩
  · refine own_st (fun zw zk => XS.icmpYes X0.here hx rfl (pc0 := 3) (pc' := 17) rfl (hb hby d8_3) rfl (flt hc3).2.1 (by decide) (by decide) zk) ?_
    refine own_st (fun zw zk => XS.iconst X0.here hx rfl (hb hby d8_17) zk) ?_
    refine own_st (fun zw zk => XS.goto X0.here hx rfl (pc0 := 18) (pc' := 22) rfl (hb hby d8_18) (by decide) (by decide) zk) ?_
    show own_Go p e below G (s₁.setTop (mkF m 22 #[.val (.ref o0), .val (.int i1), .val (.ref b2), .val (.int i3)] [(.int (1 : Int32))]))
    subst hG
    obtain ⟨fs, hr, hrun, hended, hW, hsame⟩ := X0.leave (v := some (.int (1 : Int32))) (hlocks := Bd.notSynchronized) (fun h => by rw [Bd.returns] at h; cases h)
    refine ⟨_, retN X0 hx (t := .boolean) Bd.returns (by simp) (hb hby d8_22) hr, _, hrun, hended, _, _, rfl, ?_, ⟨_, rfl⟩, hW, hsame.mono (by decide) (by decide)⟩
    show Q8 Z o0 i1 b2 i3 vo vb nz nb ni nn h0 n0 _ s₁.heap _
    rw [e0]
    exact ⟨rfl, N0, rfl⟩
theorem pd_2 : parseMethodDescriptor "([BI[BI)Z" = some ⟨[(.array .byte), .int, (.array .byte), .int], some .boolean⟩ := by decide +kernel
theorem d7_0 : decode method_6_code 0 = .ok (.aload_n 0, 1) := by decide +kernel
theorem d7_1 : decode method_6_code 1 = .ok (.iload_n 1, 1) := by decide +kernel
theorem d7_2 : decode method_6_code 2 = .ok (.aload_n 2, 1) := by decide +kernel
theorem d7_3 : decode method_6_code 3 = .ok (.iload_n 3, 1) := by decide +kernel
theorem d7_4 : decode method_6_code 4 = .ok (.invokestatic 30, 3) := by decide +kernel
theorem d7_7 : decode method_6_code 7 = .ok (.ifCond .eq 93, 3) := by decide +kernel
theorem d7_10 : decode method_6_code 10 = .ok (.aload_n 0, 1) := by decide +kernel
theorem d7_11 : decode method_6_code 11 = .ok (.iload_n 1, 1) := by decide +kernel
theorem d7_12 : decode method_6_code 12 = .ok (.aload_n 2, 1) := by decide +kernel
theorem d7_13 : decode method_6_code 13 = .ok (.iload_n 3, 1) := by decide +kernel
theorem d7_14 : decode method_6_code 14 = .ok (.iconst 1, 1) := by decide +kernel
theorem d7_15 : decode method_6_code 15 = .ok (.iadd, 1) := by decide +kernel
theorem d7_16 : decode method_6_code 16 = .ok (.invokestatic 30, 3) := by decide +kernel
theorem d7_19 : decode method_6_code 19 = .ok (.ifCond .eq 81, 3) := by decide +kernel
theorem d7_22 : decode method_6_code 22 = .ok (.aload_n 0, 1) := by decide +kernel
theorem d7_23 : decode method_6_code 23 = .ok (.iload_n 1, 1) := by decide +kernel
theorem d7_24 : decode method_6_code 24 = .ok (.aload_n 2, 1) := by decide +kernel
theorem d7_25 : decode method_6_code 25 = .ok (.iload_n 3, 1) := by decide +kernel
theorem d7_26 : decode method_6_code 26 = .ok (.iconst 2, 1) := by decide +kernel
theorem d7_27 : decode method_6_code 27 = .ok (.iadd, 1) := by decide +kernel
theorem d7_28 : decode method_6_code 28 = .ok (.invokestatic 30, 3) := by decide +kernel
theorem d7_31 : decode method_6_code 31 = .ok (.ifCond .eq 69, 3) := by decide +kernel
theorem d7_34 : decode method_6_code 34 = .ok (.aload_n 0, 1) := by decide +kernel
theorem d7_35 : decode method_6_code 35 = .ok (.iload_n 1, 1) := by decide +kernel
theorem d7_36 : decode method_6_code 36 = .ok (.aload_n 2, 1) := by decide +kernel
theorem d7_37 : decode method_6_code 37 = .ok (.iload_n 3, 1) := by decide +kernel
theorem d7_38 : decode method_6_code 38 = .ok (.iconst 3, 1) := by decide +kernel
theorem d7_39 : decode method_6_code 39 = .ok (.iadd, 1) := by decide +kernel
theorem d7_40 : decode method_6_code 40 = .ok (.invokestatic 30, 3) := by decide +kernel
theorem d7_43 : decode method_6_code 43 = .ok (.ifCond .eq 57, 3) := by decide +kernel
theorem d7_46 : decode method_6_code 46 = .ok (.aload_n 0, 1) := by decide +kernel
theorem d7_47 : decode method_6_code 47 = .ok (.iload_n 1, 1) := by decide +kernel
theorem d7_48 : decode method_6_code 48 = .ok (.aload_n 2, 1) := by decide +kernel
theorem d7_49 : decode method_6_code 49 = .ok (.iload_n 3, 1) := by decide +kernel
theorem d7_50 : decode method_6_code 50 = .ok (.iconst 4, 1) := by decide +kernel
theorem d7_51 : decode method_6_code 51 = .ok (.iadd, 1) := by decide +kernel
theorem d7_52 : decode method_6_code 52 = .ok (.invokestatic 30, 3) := by decide +kernel
theorem d7_55 : decode method_6_code 55 = .ok (.ifCond .eq 45, 3) := by decide +kernel
theorem d7_58 : decode method_6_code 58 = .ok (.aload_n 0, 1) := by decide +kernel
theorem d7_59 : decode method_6_code 59 = .ok (.iload_n 1, 1) := by decide +kernel
theorem d7_60 : decode method_6_code 60 = .ok (.aload_n 2, 1) := by decide +kernel
theorem d7_61 : decode method_6_code 61 = .ok (.iload_n 3, 1) := by decide +kernel
theorem d7_62 : decode method_6_code 62 = .ok (.iconst 5, 1) := by decide +kernel
theorem d7_63 : decode method_6_code 63 = .ok (.iadd, 1) := by decide +kernel
theorem d7_64 : decode method_6_code 64 = .ok (.invokestatic 30, 3) := by decide +kernel
theorem d7_67 : decode method_6_code 67 = .ok (.ifCond .eq 33, 3) := by decide +kernel
theorem d7_70 : decode method_6_code 70 = .ok (.aload_n 0, 1) := by decide +kernel
theorem d7_71 : decode method_6_code 71 = .ok (.iload_n 1, 1) := by decide +kernel
theorem d7_72 : decode method_6_code 72 = .ok (.aload_n 2, 1) := by decide +kernel
theorem d7_73 : decode method_6_code 73 = .ok (.iload_n 3, 1) := by decide +kernel
theorem d7_74 : decode method_6_code 74 = .ok (.bipush 6, 2) := by decide +kernel
theorem d7_76 : decode method_6_code 76 = .ok (.iadd, 1) := by decide +kernel
theorem d7_77 : decode method_6_code 77 = .ok (.invokestatic 30, 3) := by decide +kernel
theorem d7_80 : decode method_6_code 80 = .ok (.ifCond .eq 20, 3) := by decide +kernel
theorem d7_83 : decode method_6_code 83 = .ok (.aload_n 0, 1) := by decide +kernel
theorem d7_84 : decode method_6_code 84 = .ok (.iload_n 1, 1) := by decide +kernel
theorem d7_85 : decode method_6_code 85 = .ok (.aload_n 2, 1) := by decide +kernel
theorem d7_86 : decode method_6_code 86 = .ok (.iload_n 3, 1) := by decide +kernel
theorem d7_87 : decode method_6_code 87 = .ok (.bipush 7, 2) := by decide +kernel
theorem d7_89 : decode method_6_code 89 = .ok (.iadd, 1) := by decide +kernel
theorem d7_90 : decode method_6_code 90 = .ok (.invokestatic 30, 3) := by decide +kernel
theorem d7_93 : decode method_6_code 93 = .ok (.ifCond .eq 7, 3) := by decide +kernel
theorem d7_96 : decode method_6_code 96 = .ok (.iconst 1, 1) := by decide +kernel
theorem d7_97 : decode method_6_code 97 = .ok (.goto 4, 3) := by decide +kernel
theorem d7_101 : decode method_6_code 101 = .ok (.ireturn, 1) := by decide +kernel
theorem ef_rm7 (m : MethodId) (o0 : Addr) (i1 : Int32) (b2 : Addr) (i3 : Int32) : entryFrame m #[(.ref o0), (.int i1), (.ref b2), (.int i3)] 4 = mkF m 0 #[.val (.ref o0), .val (.int i1), .val (.ref b2), .val (.int i3)] [] := by first | (simp [entryFrame, mkF, argsToLocals, Value.category]; done) | rfl
def Q7 (Z : State) (o0 : Addr) (i1 : Int32) (b2 : Addr) (i3 : Int32) (vo : List Value) (vb : List Value) (nz : Int32) (nb : Nat) (ni : Nat) (nn : Nat) (h0 : Heap) (n0 : Nat) (rv : Option Value) (hq : Heap) (Lq : List Loc) : Prop := rv = some (.int (1 : Int32)) ∧ Fr n0 Lq ∧ hq = h0
set_option maxRecDepth 65536 in
set_option maxHeartbeats 40000000 in
theorem rm7 (l : Launch) (Z : State) (a0 : Array Value) (hw : ∀ d ∈ tables_1, d.before a0 Z = true) (ws : List Jvm.Cond) (o0 : Addr) (i1 : Int32) (b2 : Addr) (i3 : Int32) (vo : List Value) (vb : List Value) (nz : Int32) (nb : Nat) (ni : Nat) (nn : Nat) (h0 : Heap) (n0 : Nat) (Z0 : n0 ≤ h0.size) (F0_ : own_L Z h0 o0 .byte (vo)) (F1_ : own_L Z h0 b2 .byte (vb)) (hlz : vb.length.toInt32 = nz) (hnn : nz.toInt = nn) (hlb : vb.length = nn) (h1 : i1.toInt = nb) (h3 : i3.toInt = ni) (hbn : nb + nn < 1000) (hsame : ∀ k, k < nn → vo[nb + k]? = vb[k]?) (hfit : ∀ z ∈ vb, fits .byte z = true) (hni : ni ≤ 8) :
    MetFree l (⟨"com/example/portunus/portunus/AtomWriteCanonicalPinLaw", "sameLong", "([BI[BI)Z"⟩ : MethodName) (head1 (Jvm.Cond.code (⟨"com/example/portunus/portunus/AtomWriteCanonicalPinLaw", "sameLong", "([BI[BI)Z"⟩ : MethodName) method_6_code 4 (some .boolean) :: ws) ({ frames := 1, cells := 0, slots := 0, locals := 15 } : Room)) (fun za U => za = #[(.ref o0), (.int i1), (.ref b2), (.int i3)] ∧ Z.Warmed39 U.vm ∧ U.heap = h0) (fun _ _ _ _ _ => True) (fun _ U o U' => ∃ rv Lq, o = .returned rv ∧ Q7 Z o0 i1 b2 i3 vo vb nz nb ni nn h0 n0 rv U'.heap Lq ∧ FrameEnd U o U' Lq ({ frames := 1, cells := 0, slots := 0, locals := 15 } : Room).cells ({ frames := 1, cells := 0, slots := 0, locals := 15 } : Room).slots) := by
  refine MetFree.of_bodySF (plainFor_of_name pn_0) hisR ?_
  intro p e s m args below meth c s₁ Bd hml0 hP hK
  obtain ⟨rfl, hZ, hh⟩ := hP
  have hx := Bd.exec
  have hby := Bd.bytes
  have hml : c.maxLocals = 4 := hml0
  have hown : s.vm.findClass "com/example/portunus/portunus/AtomWriteCanonicalPinLaw" = some m.cls := findClass_of_methodNamed Bd.named
  have hnm := (name_of_methodNamed Bd.named Bd.method).1
  have X0 : Stand p l e ({ frames := 1, cells := 0, slots := 0, locals := 15 } : Room) s m #[(.ref o0), (.int i1), (.ref b2), (.int i3)] below meth c s₁ [] 0 0 := Stand.of_body Bd
  have e0 : s₁.heap = h0 := by rw [← hh, Bd.state]; rfl
  have N0 := Fr.nil n0
  refine own_out (own_nm fun G hG => own_st (fun zt zk => castTop (ef_rm7 m o0 i1 b2 i3) zk) ?_)
  show own_Go p e below G (s₁.setTop (mkF m 0 #[.val (.ref o0), .val (.int i1), .val (.ref b2), .val (.int i3)] []))
  refine own_st (fun zw zk => XS.aloadN X0.here hx rfl (hb hby d7_0) rfl rfl zk) ?_
  refine own_st (fun zw zk => XS.iloadN X0.here hx rfl (hb hby d7_1) rfl zk) ?_
  refine own_st (fun zw zk => XS.aloadN X0.here hx rfl (hb hby d7_2) rfl rfl zk) ?_
  refine own_st (fun zw zk => XS.iloadN X0.here hx rfl (hb hby d7_3) rfl zk) ?_
  obtain ⟨_, _, ⟨T44, L44, k44, n44⟩, -, X44, ⟨Lc44, hQ44, l44, y44, z44⟩, st44⟩ := Jvm.LawKit.callS X0 hx (y := (⟨"com/example/portunus/portunus/AtomWriteCanonicalPinLaw", "same", "([BI[BI)Z"⟩ : MethodName)) hown (mvT hZ (hw _ (List.mem_of_getElem? (i := 43) rfl))) (mvT hZ (hw _ (List.mem_of_getElem? (i := 44) rfl))) (mvT hZ (hw _ (List.mem_of_getElem? (i := 3) rfl))) (mvT hZ (hw _ (List.mem_of_getElem? (i := 45) rfl))) (by decide) (backOf (W := 0) (rm8 l Z a0 hw [] o0 i1 b2 i3 vo vb nz nb (ni + 0) nn h0 n0 Z0 (F0_) (F1_) (hlz) (hnn) (hlb) (h1) (h3) (hbn) (hsame) (hfit)) hZ (hw _ (List.mem_of_getElem? (i := 45) rfl)) (hw _ (List.mem_of_getElem? (i := 3) rfl)) (by decide) (by decide)) (g := (mkF m 4 #[.val (.ref o0), .val (.int i1), .val (.ref b2), .val (.int i3)] [(.int i3), (.ref b2), (.int i1), (.ref o0)])) rfl (by rw [hml]; rfl) (argsL := [(.ref o0), (.int i1), (.ref b2), (.int i3)]) (rest := []) (lenOf pd_2 rfl) rfl (by show 2 * 0 + _ ≤ _; exact Nat.le_of_eq rfl) (hb hby d7_4) (fun _ _ => ⟨rfl, e0, (by decide : 0 + 0 ≤ _), (by decide : 0 + 0 ≤ _)⟩)
  dsimp only [Pt.U, Pt.locs, Pt.cells, Pt.slots] at X44 l44 y44 z44 st44 hQ44
  subst l44 y44 z44
  obtain ⟨rfl, N44q, e44⟩ := hQ44
  have N44 := Fr.app N0 N44q
  refine own_st (fun zw zk => st44 zw zk) ?_
  refine own_st (fun zw zk => XS.ifNo X44.here hx rfl (hb hby d7_7) rfl ((if0 _ _).trans (feq (by decide : ¬ ((1 : Int32) = (0 : Int32)))).1) zk) ?_
  refine own_st (fun zw zk => XS.aloadN X44.here hx rfl (hb hby d7_10) rfl rfl zk) ?_
  refine own_st (fun zw zk => XS.iloadN X44.here hx rfl (hb hby d7_11) rfl zk) ?_
  show own_Go p e below G (T44.setTop (mkF m 12 #[.val (.ref o0), .val (.int i1), .val (.ref b2), .val (.int i3)] [(.int i1), (.ref o0)]))
  refine own_st (fun zw zk => XS.aloadN X44.here hx rfl (hb hby d7_12) rfl rfl zk) ?_
  refine own_st (fun zw zk => XS.iloadN X44.here hx rfl (hb hby d7_13) rfl zk) ?_
  refine own_st (fun zw zk => XS.iconst X44.here hx rfl (hb hby d7_14) zk) ?_
  refine own_st (fun zw zk => XS.iadd X44.here hx rfl (hb hby d7_15) rfl zk) ?_
  obtain ⟨_, _, ⟨T45, L45, k45, n45⟩, -, X45, ⟨Lc45, hQ45, l45, y45, z45⟩, st45⟩ := Jvm.LawKit.callS X44 hx (y := (⟨"com/example/portunus/portunus/AtomWriteCanonicalPinLaw", "same", "([BI[BI)Z"⟩ : MethodName)) hown (mvT hZ (hw _ (List.mem_of_getElem? (i := 43) rfl))) (mvT hZ (hw _ (List.mem_of_getElem? (i := 44) rfl))) (mvT hZ (hw _ (List.mem_of_getElem? (i := 3) rfl))) (mvT hZ (hw _ (List.mem_of_getElem? (i := 45) rfl))) (by decide) (backOf (W := 0) (rm8 l Z a0 hw [] o0 i1 b2 (i3 + (1 : Int32)) vo vb nz nb (ni + 1) nn h0 n0 Z0 (F0_) (F1_) (hlz) (hnn) (hlb) (h1) (own_plus h3 (by decide) (by omega)) (hbn) (hsame) (hfit)) hZ (hw _ (List.mem_of_getElem? (i := 45) rfl)) (hw _ (List.mem_of_getElem? (i := 3) rfl)) (by decide) (by decide)) (g := (mkF m 16 #[.val (.ref o0), .val (.int i1), .val (.ref b2), .val (.int i3)] [(.int (i3 + (1 : Int32))), (.ref b2), (.int i1), (.ref o0)])) rfl (by rw [hml]; rfl) (argsL := [(.ref o0), (.int i1), (.ref b2), (.int (i3 + (1 : Int32)))]) (rest := []) (lenOf pd_2 rfl) rfl (by show 2 * 0 + _ ≤ _; exact Nat.le_of_eq rfl) (hb hby d7_16) (fun _ _ => ⟨rfl, e44, (by decide : 0 + 0 ≤ _), (by decide : 0 + 0 ≤ _)⟩)
  dsimp only [Pt.U, Pt.locs, Pt.cells, Pt.slots] at X45 l45 y45 z45 st45 hQ45
  subst l45 y45 z45
  obtain ⟨rfl, N45q, e45⟩ := hQ45
  have N45 := Fr.app N44 N45q
  refine own_st (fun zw zk => st45 zw zk) ?_
  refine own_st (fun zw zk => XS.ifNo X45.here hx rfl (hb hby d7_19) rfl ((if0 _ _).trans (feq (by decide : ¬ ((1 : Int32) = (0 : Int32)))).1) zk) ?_
  refine own_st (fun zw zk => XS.aloadN X45.here hx rfl (hb hby d7_22) rfl rfl zk) ?_
  refine own_st (fun zw zk => XS.iloadN X45.here hx rfl (hb hby d7_23) rfl zk) ?_
  show own_Go p e below G (T45.setTop (mkF m 24 #[.val (.ref o0), .val (.int i1), .val (.ref b2), .val (.int i3)] [(.int i1), (.ref o0)]))
  refine own_st (fun zw zk => XS.aloadN X45.here hx rfl (hb hby d7_24) rfl rfl zk) ?_
  refine own_st (fun zw zk => XS.iloadN X45.here hx rfl (hb hby d7_25) rfl zk) ?_
  refine own_st (fun zw zk => XS.iconst X45.here hx rfl (hb hby d7_26) zk) ?_
  refine own_st (fun zw zk => XS.iadd X45.here hx rfl (hb hby d7_27) rfl zk) ?_
  obtain ⟨_, _, ⟨T46, L46, k46, n46⟩, -, X46, ⟨Lc46, hQ46, l46, y46, z46⟩, st46⟩ := Jvm.LawKit.callS X45 hx (y := (⟨"com/example/portunus/portunus/AtomWriteCanonicalPinLaw", "same", "([BI[BI)Z"⟩ : MethodName)) hown (mvT hZ (hw _ (List.mem_of_getElem? (i := 43) rfl))) (mvT hZ (hw _ (List.mem_of_getElem? (i := 44) rfl))) (mvT hZ (hw _ (List.mem_of_getElem? (i := 3) rfl))) (mvT hZ (hw _ (List.mem_of_getElem? (i := 45) rfl))) (by decide) (backOf (W := 0) (rm8 l Z a0 hw [] o0 i1 b2 (i3 + (2 : Int32)) vo vb nz nb (ni + 2) nn h0 n0 Z0 (F0_) (F1_) (hlz) (hnn) (hlb) (h1) (own_plus h3 (by decide) (by omega)) (hbn) (hsame) (hfit)) hZ (hw _ (List.mem_of_getElem? (i := 45) rfl)) (hw _ (List.mem_of_getElem? (i := 3) rfl)) (by decide) (by decide)) (g := (mkF m 28 #[.val (.ref o0), .val (.int i1), .val (.ref b2), .val (.int i3)] [(.int (i3 + (2 : Int32))), (.ref b2), (.int i1), (.ref o0)])) rfl (by rw [hml]; rfl) (argsL := [(.ref o0), (.int i1), (.ref b2), (.int (i3 + (2 : Int32)))]) (rest := []) (lenOf pd_2 rfl) rfl (by show 2 * 0 + _ ≤ _; exact Nat.le_of_eq rfl) (hb hby d7_28) (fun _ _ => ⟨rfl, e45, (by decide : 0 + 0 ≤ _), (by decide : 0 + 0 ≤ _)⟩)
  dsimp only [Pt.U, Pt.locs, Pt.cells, Pt.slots] at X46 l46 y46 z46 st46 hQ46
  subst l46 y46 z46
  obtain ⟨rfl, N46q, e46⟩ := hQ46
  have N46 := Fr.app N45 N46q
  refine own_st (fun zw zk => st46 zw zk) ?_
  refine own_st (fun zw zk => XS.ifNo X46.here hx rfl (hb hby d7_31) rfl ((if0 _ _).trans (feq (by decide : ¬ ((1 : Int32) = (0 : Int32)))).1) zk) ?_
  refine own_st (fun zw zk => XS.aloadN X46.here hx rfl (hb hby d7_34) rfl rfl zk) ?_
  refine own_st (fun zw zk => XS.iloadN X46.here hx rfl (hb hby d7_35) rfl zk) ?_
  show own_Go p e below G (T46.setTop (mkF m 36 #[.val (.ref o0), .val (.int i1), .val (.ref b2), .val (.int i3)] [(.int i1), (.ref o0)]))
  refine own_st (fun zw zk => XS.aloadN X46.here hx rfl (hb hby d7_36) rfl rfl zk) ?_
  refine own_st (fun zw zk => XS.iloadN X46.here hx rfl (hb hby d7_37) rfl zk) ?_
  refine own_st (fun zw zk => XS.iconst X46.here hx rfl (hb hby d7_38) zk) ?_
  refine own_st (fun zw zk => XS.iadd X46.here hx rfl (hb hby d7_39) rfl zk) ?_
  obtain ⟨_, _, ⟨T47, L47, k47, n47⟩, -, X47, ⟨Lc47, hQ47, l47, y47, z47⟩, st47⟩ := Jvm.LawKit.callS X46 hx (y := (⟨"com/example/portunus/portunus/AtomWriteCanonicalPinLaw", "same", "([BI[BI)Z"⟩ : MethodName)) hown (mvT hZ (hw _ (List.mem_of_getElem? (i := 43) rfl))) (mvT hZ (hw _ (List.mem_of_getElem? (i := 44) rfl))) (mvT hZ (hw _ (List.mem_of_getElem? (i := 3) rfl))) (mvT hZ (hw _ (List.mem_of_getElem? (i := 45) rfl))) (by decide) (backOf (W := 0) (rm8 l Z a0 hw [] o0 i1 b2 (i3 + (3 : Int32)) vo vb nz nb (ni + 3) nn h0 n0 Z0 (F0_) (F1_) (hlz) (hnn) (hlb) (h1) (own_plus h3 (by decide) (by omega)) (hbn) (hsame) (hfit)) hZ (hw _ (List.mem_of_getElem? (i := 45) rfl)) (hw _ (List.mem_of_getElem? (i := 3) rfl)) (by decide) (by decide)) (g := (mkF m 40 #[.val (.ref o0), .val (.int i1), .val (.ref b2), .val (.int i3)] [(.int (i3 + (3 : Int32))), (.ref b2), (.int i1), (.ref o0)])) rfl (by rw [hml]; rfl) (argsL := [(.ref o0), (.int i1), (.ref b2), (.int (i3 + (3 : Int32)))]) (rest := []) (lenOf pd_2 rfl) rfl (by show 2 * 0 + _ ≤ _; exact Nat.le_of_eq rfl) (hb hby d7_40) (fun _ _ => ⟨rfl, e46, (by decide : 0 + 0 ≤ _), (by decide : 0 + 0 ≤ _)⟩)
  dsimp only [Pt.U, Pt.locs, Pt.cells, Pt.slots] at X47 l47 y47 z47 st47 hQ47
  subst l47 y47 z47
  obtain ⟨rfl, N47q, e47⟩ := hQ47
  have N47 := Fr.app N46 N47q
  refine own_st (fun zw zk => st47 zw zk) ?_
  refine own_st (fun zw zk => XS.ifNo X47.here hx rfl (hb hby d7_43) rfl ((if0 _ _).trans (feq (by decide : ¬ ((1 : Int32) = (0 : Int32)))).1) zk) ?_
  refine own_st (fun zw zk => XS.aloadN X47.here hx rfl (hb hby d7_46) rfl rfl zk) ?_
  refine own_st (fun zw zk => XS.iloadN X47.here hx rfl (hb hby d7_47) rfl zk) ?_
  show own_Go p e below G (T47.setTop (mkF m 48 #[.val (.ref o0), .val (.int i1), .val (.ref b2), .val (.int i3)] [(.int i1), (.ref o0)]))
  refine own_st (fun zw zk => XS.aloadN X47.here hx rfl (hb hby d7_48) rfl rfl zk) ?_
  refine own_st (fun zw zk => XS.iloadN X47.here hx rfl (hb hby d7_49) rfl zk) ?_
  refine own_st (fun zw zk => XS.iconst X47.here hx rfl (hb hby d7_50) zk) ?_
  refine own_st (fun zw zk => XS.iadd X47.here hx rfl (hb hby d7_51) rfl zk) ?_
  obtain ⟨_, _, ⟨T48, L48, k48, n48⟩, -, X48, ⟨Lc48, hQ48, l48, y48, z48⟩, st48⟩ := Jvm.LawKit.callS X47 hx (y := (⟨"com/example/portunus/portunus/AtomWriteCanonicalPinLaw", "same", "([BI[BI)Z"⟩ : MethodName)) hown (mvT hZ (hw _ (List.mem_of_getElem? (i := 43) rfl))) (mvT hZ (hw _ (List.mem_of_getElem? (i := 44) rfl))) (mvT hZ (hw _ (List.mem_of_getElem? (i := 3) rfl))) (mvT hZ (hw _ (List.mem_of_getElem? (i := 45) rfl))) (by decide) (backOf (W := 0) (rm8 l Z a0 hw [] o0 i1 b2 (i3 + (4 : Int32)) vo vb nz nb (ni + 4) nn h0 n0 Z0 (F0_) (F1_) (hlz) (hnn) (hlb) (h1) (own_plus h3 (by decide) (by omega)) (hbn) (hsame) (hfit)) hZ (hw _ (List.mem_of_getElem? (i := 45) rfl)) (hw _ (List.mem_of_getElem? (i := 3) rfl)) (by decide) (by decide)) (g := (mkF m 52 #[.val (.ref o0), .val (.int i1), .val (.ref b2), .val (.int i3)] [(.int (i3 + (4 : Int32))), (.ref b2), (.int i1), (.ref o0)])) rfl (by rw [hml]; rfl) (argsL := [(.ref o0), (.int i1), (.ref b2), (.int (i3 + (4 : Int32)))]) (rest := []) (lenOf pd_2 rfl) rfl (by show 2 * 0 + _ ≤ _; exact Nat.le_of_eq rfl) (hb hby d7_52) (fun _ _ => ⟨rfl, e47, (by decide : 0 + 0 ≤ _), (by decide : 0 + 0 ≤ _)⟩)
  dsimp only [Pt.U, Pt.locs, Pt.cells, Pt.slots] at X48 l48 y48 z48 st48 hQ48
  subst l48 y48 z48
  obtain ⟨rfl, N48q, e48⟩ := hQ48
  have N48 := Fr.app N47 N48q
  refine own_st (fun zw zk => st48 zw zk) ?_
  refine own_st (fun zw zk => XS.ifNo X48.here hx rfl (hb hby d7_55) rfl ((if0 _ _).trans (feq (by decide : ¬ ((1 : Int32) = (0 : Int32)))).1) zk) ?_
  refine own_st (fun zw zk => XS.aloadN X48.here hx rfl (hb hby d7_58) rfl rfl zk) ?_
  refine own_st (fun zw zk => XS.iloadN X48.here hx rfl (hb hby d7_59) rfl zk) ?_
  show own_Go p e below G (T48.setTop (mkF m 60 #[.val (.ref o0), .val (.int i1), .val (.ref b2), .val (.int i3)] [(.int i1), (.ref o0)]))
  refine own_st (fun zw zk => XS.aloadN X48.here hx rfl (hb hby d7_60) rfl rfl zk) ?_
  refine own_st (fun zw zk => XS.iloadN X48.here hx rfl (hb hby d7_61) rfl zk) ?_
  refine own_st (fun zw zk => XS.iconst X48.here hx rfl (hb hby d7_62) zk) ?_
  refine own_st (fun zw zk => XS.iadd X48.here hx rfl (hb hby d7_63) rfl zk) ?_
  obtain ⟨_, _, ⟨T49, L49, k49, n49⟩, -, X49, ⟨Lc49, hQ49, l49, y49, z49⟩, st49⟩ := Jvm.LawKit.callS X48 hx (y := (⟨"com/example/portunus/portunus/AtomWriteCanonicalPinLaw", "same", "([BI[BI)Z"⟩ : MethodName)) hown (mvT hZ (hw _ (List.mem_of_getElem? (i := 43) rfl))) (mvT hZ (hw _ (List.mem_of_getElem? (i := 44) rfl))) (mvT hZ (hw _ (List.mem_of_getElem? (i := 3) rfl))) (mvT hZ (hw _ (List.mem_of_getElem? (i := 45) rfl))) (by decide) (backOf (W := 0) (rm8 l Z a0 hw [] o0 i1 b2 (i3 + (5 : Int32)) vo vb nz nb (ni + 5) nn h0 n0 Z0 (F0_) (F1_) (hlz) (hnn) (hlb) (h1) (own_plus h3 (by decide) (by omega)) (hbn) (hsame) (hfit)) hZ (hw _ (List.mem_of_getElem? (i := 45) rfl)) (hw _ (List.mem_of_getElem? (i := 3) rfl)) (by decide) (by decide)) (g := (mkF m 64 #[.val (.ref o0), .val (.int i1), .val (.ref b2), .val (.int i3)] [(.int (i3 + (5 : Int32))), (.ref b2), (.int i1), (.ref o0)])) rfl (by rw [hml]; rfl) (argsL := [(.ref o0), (.int i1), (.ref b2), (.int (i3 + (5 : Int32)))]) (rest := []) (lenOf pd_2 rfl) rfl (by show 2 * 0 + _ ≤ _; exact Nat.le_of_eq rfl) (hb hby d7_64) (fun _ _ => ⟨rfl, e48, (by decide : 0 + 0 ≤ _), (by decide : 0 + 0 ≤ _)⟩)
  dsimp only [Pt.U, Pt.locs, Pt.cells, Pt.slots] at X49 l49 y49 z49 st49 hQ49
  subst l49 y49 z49
  obtain ⟨rfl, N49q, e49⟩ := hQ49
  have N49 := Fr.app N48 N49q
  refine own_st (fun zw zk => st49 zw zk) ?_
  refine own_st (fun zw zk => XS.ifNo X49.here hx rfl (hb hby d7_67) rfl ((if0 _ _).trans (feq (by decide : ¬ ((1 : Int32) = (0 : Int32)))).1) zk) ?_
  refine own_st (fun zw zk => XS.aloadN X49.here hx rfl (hb hby d7_70) rfl rfl zk) ?_
  refine own_st (fun zw zk => XS.iloadN X49.here hx rfl (hb hby d7_71) rfl zk) ?_
  show own_Go p e below G (T49.setTop (mkF m 72 #[.val (.ref o0), .val (.int i1), .val (.ref b2), .val (.int i3)] [(.int i1), (.ref o0)]))
  refine own_st (fun zw zk => XS.aloadN X49.here hx rfl (hb hby d7_72) rfl rfl zk) ?_
  refine own_st (fun zw zk => XS.iloadN X49.here hx rfl (hb hby d7_73) rfl zk) ?_
  refine own_st (fun zw zk => XS.bipush X49.here hx rfl (hb hby d7_74) zk) ?_
  refine own_st (fun zw zk => XS.iadd X49.here hx rfl (hb hby d7_76) rfl zk) ?_
  obtain ⟨_, _, ⟨T50, L50, k50, n50⟩, -, X50, ⟨Lc50, hQ50, l50, y50, z50⟩, st50⟩ := Jvm.LawKit.callS X49 hx (y := (⟨"com/example/portunus/portunus/AtomWriteCanonicalPinLaw", "same", "([BI[BI)Z"⟩ : MethodName)) hown (mvT hZ (hw _ (List.mem_of_getElem? (i := 43) rfl))) (mvT hZ (hw _ (List.mem_of_getElem? (i := 44) rfl))) (mvT hZ (hw _ (List.mem_of_getElem? (i := 3) rfl))) (mvT hZ (hw _ (List.mem_of_getElem? (i := 45) rfl))) (by decide) (backOf (W := 0) (rm8 l Z a0 hw [] o0 i1 b2 (i3 + (6 : Int32)) vo vb nz nb (ni + 6) nn h0 n0 Z0 (F0_) (F1_) (hlz) (hnn) (hlb) (h1) (own_plus h3 (by decide) (by omega)) (hbn) (hsame) (hfit)) hZ (hw _ (List.mem_of_getElem? (i := 45) rfl)) (hw _ (List.mem_of_getElem? (i := 3) rfl)) (by decide) (by decide)) (g := (mkF m 77 #[.val (.ref o0), .val (.int i1), .val (.ref b2), .val (.int i3)] [(.int (i3 + (6 : Int32))), (.ref b2), (.int i1), (.ref o0)])) rfl (by rw [hml]; rfl) (argsL := [(.ref o0), (.int i1), (.ref b2), (.int (i3 + (6 : Int32)))]) (rest := []) (lenOf pd_2 rfl) rfl (by show 2 * 0 + _ ≤ _; exact Nat.le_of_eq rfl) (hb hby d7_77) (fun _ _ => ⟨rfl, e49, (by decide : 0 + 0 ≤ _), (by decide : 0 + 0 ≤ _)⟩)
  dsimp only [Pt.U, Pt.locs, Pt.cells, Pt.slots] at X50 l50 y50 z50 st50 hQ50
  subst l50 y50 z50
  obtain ⟨rfl, N50q, e50⟩ := hQ50
  have N50 := Fr.app N49 N50q
  refine own_st (fun zw zk => st50 zw zk) ?_
  refine own_st (fun zw zk => XS.ifNo X50.here hx rfl (hb hby d7_80) rfl ((if0 _ _).trans (feq (by decide : ¬ ((1 : Int32) = (0 : Int32)))).1) zk) ?_
  refine own_st (fun zw zk => XS.aloadN X50.here hx rfl (hb hby d7_83) rfl rfl zk) ?_
  refine own_st (fun zw zk => XS.iloadN X50.here hx rfl (hb hby d7_84) rfl zk) ?_
  show own_Go p e below G (T50.setTop (mkF m 85 #[.val (.ref o0), .val (.int i1), .val (.ref b2), .val (.int i3)] [(.int i1), (.ref o0)]))
  refine own_st (fun zw zk => XS.aloadN X50.here hx rfl (hb hby d7_85) rfl rfl zk) ?_
  refine own_st (fun zw zk => XS.iloadN X50.here hx rfl (hb hby d7_86) rfl zk) ?_
  refine own_st (fun zw zk => XS.bipush X50.here hx rfl (hb hby d7_87) zk) ?_
  refine own_st (fun zw zk => XS.iadd X50.here hx rfl (hb hby d7_89) rfl zk) ?_
  obtain ⟨_, _, ⟨T51, L51, k51, n51⟩, -, X51, ⟨Lc51, hQ51, l51, y51, z51⟩, st51⟩ := Jvm.LawKit.callS X50 hx (y := (⟨"com/example/portunus/portunus/AtomWriteCanonicalPinLaw", "same", "([BI[BI)Z"⟩ : MethodName)) hown (mvT hZ (hw _ (List.mem_of_getElem? (i := 43) rfl))) (mvT hZ (hw _ (List.mem_of_getElem? (i := 44) rfl))) (mvT hZ (hw _ (List.mem_of_getElem? (i := 3) rfl))) (mvT hZ (hw _ (List.mem_of_getElem? (i := 45) rfl))) (by decide) (backOf (W := 0) (rm8 l Z a0 hw [] o0 i1 b2 (i3 + (7 : Int32)) vo vb nz nb (ni + 7) nn h0 n0 Z0 (F0_) (F1_) (hlz) (hnn) (hlb) (h1) (own_plus h3 (by decide) (by omega)) (hbn) (hsame) (hfit)) hZ (hw _ (List.mem_of_getElem? (i := 45) rfl)) (hw _ (List.mem_of_getElem? (i := 3) rfl)) (by decide) (by decide)) (g := (mkF m 90 #[.val (.ref o0), .val (.int i1), .val (.ref b2), .val (.int i3)] [(.int (i3 + (7 : Int32))), (.ref b2), (.int i1), (.ref o0)])) rfl (by rw [hml]; rfl) (argsL := [(.ref o0), (.int i1), (.ref b2), (.int (i3 + (7 : Int32)))]) (rest := []) (lenOf pd_2 rfl) rfl (by show 2 * 0 + _ ≤ _; exact Nat.le_of_eq rfl) (hb hby d7_90) (fun _ _ => ⟨rfl, e50, (by decide : 0 + 0 ≤ _), (by decide : 0 + 0 ≤ _)⟩)
  dsimp only [Pt.U, Pt.locs, Pt.cells, Pt.slots] at X51 l51 y51 z51 st51 hQ51
  subst l51 y51 z51
  obtain ⟨rfl, N51q, e51⟩ := hQ51
  have N51 := Fr.app N50 N51q
  refine own_st (fun zw zk => st51 zw zk) ?_
  refine own_st (fun zw zk => XS.ifNo X51.here hx rfl (hb hby d7_93) rfl ((if0 _ _).trans (feq (by decide : ¬ ((1 : Int32) = (0 : Int32)))).1) zk) ?_
  refine own_st (fun zw zk => XS.iconst X51.here hx rfl (hb hby d7_96) zk) ?_
  refine own_st (fun zw zk => XS.goto X51.here hx rfl (pc0 := 97) (pc' := 101) rfl (hb hby d7_97) (by decide) (by decide) zk) ?_
  show own_Go p e below G (T51.setTop (mkF m 101 #[.val (.ref o0), .val (.int i1), .val (.ref b2), .val (.int i3)] [(.int (1 : Int32))]))
  subst hG
  obtain ⟨fs, hr, hrun, hended, hW, hsame⟩ := X51.leave (v := some (.int (1 : Int32))) (hlocks := Bd.notSynchronized) (fun h => by rw [Bd.returns] at h; cases h)
  refine ⟨_, retN X51 hx (t := .boolean) Bd.returns (by simp) (hb hby d7_101) hr, _, hrun, hended, _, _, rfl, ?_, ⟨_, rfl⟩, hW, hsame.mono (by decide) (by decide)⟩
  show Q7 Z o0 i1 b2 i3 vo vb nz nb ni nn h0 n0 _ T51.heap _
  rw [e51]
  exact ⟨rfl, N51, rfl⟩
theorem own_n1 (p : Int32) : ((p &&& (15 : Int32)) + (90 : Int32)).toInt = (((p &&& (15 : Int32)) + (90 : Int32)).toInt.toNat : Nat) ∧ ((p &&& (15 : Int32)) + (90 : Int32)).toInt.toNat ≤ 105 := by
  have h := c_mask p 15 4 (by decide) (by decide)
  have : (2 ^ 4 : Nat) = 16 := rfl
  rw [this] at h
  have h1 := c_iadd (p &&& 15) 90
  have r := rng32 ((p &&& 15) + 90)
  have z : (90 : Int32).toInt = 90 := by decide
  rw [z] at h1
  omega
theorem own_n2 (p : Int32) : ((p &&& (15 : Int32)) + (0 : Int32)).toInt = (((p &&& (15 : Int32)) + (0 : Int32)).toInt.toNat : Nat) ∧ ((p &&& (15 : Int32)) + (0 : Int32)).toInt.toNat ≤ 105 := by
  have h := c_mask p 15 4 (by decide) (by decide)
  have : (2 ^ 4 : Nat) = 16 := rfl
  rw [this] at h
  have h1 := c_iadd (p &&& 15) 0
  have r := rng32 ((p &&& 15) + 0)
  have z : (0 : Int32).toInt = 0 := by decide
  rw [z] at h1
  omega
theorem own_at15 (p : Int32) : ∃ na : Nat, (p &&& (15 : Int32)).toInt = na ∧ na ≤ 15 := by
  have h := c_mask p 15 4 (by decide) (by decide)
  have : (2 ^ 4 : Nat) = 16 := rfl
  rw [this] at h
  exact ⟨(p &&& (15 : Int32)).toInt.toNat, by omega, by omega⟩
theorem own_three {x : Int32} {k : Nat} (h : x.toInt = k) : (k < 10 ∧ x < (10 : Int32)) ∨ (10 ≤ k ∧ k < 100 ∧ ¬ (x < (10 : Int32)) ∧ x < (100 : Int32)) ∨ (100 ≤ k ∧ ¬ (x < (10 : Int32)) ∧ ¬ (x < (100 : Int32))) := by
  have z : (10 : Int32).toInt = 10 := by decide
  have z1 : (100 : Int32).toInt = 100 := by decide
  simp only [Int32.lt_iff_toInt_lt, z, z1]
  omega
theorem pd_3 : parseMethodDescriptor "([BIJ)V" = some ⟨[(.array .byte), .int, .long], none⟩ := by decide +kernel
theorem pd_4 : parseMethodDescriptor "([B)V" = some ⟨[(.array .byte)], none⟩ := by decide +kernel
theorem pd_5 : parseMethodDescriptor "([BI)I" = some ⟨[(.array .byte), .int], some .int⟩ := by decide +kernel
theorem ef_rm0 (m : MethodId) (p0 : Int32) (p1 : Int32) (q2 : Int64) (q3 : Int64) : entryFrame m #[(.int p0), (.int p1), (.long q2), (.long q3)] maxLocals = mkF m 0 #[.val (.int p0), .val (.int p1), .val (.long q2), .second, .val (.long q3), .second, .unset, .unset, .unset, .unset, .unset, .unset, .unset, .unset, .unset] [] := by first | (simp [entryFrame, mkF, argsToLocals, Value.category, maxLocals]; done) | rfl
def Q0 (Z : State) (p0 : Int32) (p1 : Int32) (q2 : Int64) (q3 : Int64) (h0 : Heap) (n0 : Nat) (rv : Option Value) (hq : Heap) (Lq : List Loc) : Prop := rv = some (.int 1) ∧ Fr n0 Lq
set_option maxRecDepth 65536 in
set_option maxHeartbeats 40000000 in
theorem rm0 (l : Launch) (Z : State) (a0 : Array Value) (hw : ∀ d ∈ tables_1, d.before a0 Z = true) (ws : List Jvm.Cond) (p0 : Int32) (p1 : Int32) (q2 : Int64) (q3 : Int64) (h0 : Heap) (n0 : Nat) (Z0 : n0 ≤ h0.size) :
    MetFree l x (head1 (Jvm.Cond.code x code maxLocals ret :: ws) room_1) (fun za U => za = #[(.int p0), (.int p1), (.long q2), (.long q3)] ∧ Z.Warmed39 U.vm ∧ U.heap = h0) (fun _ _ _ _ _ => True) (fun _ U o U' => ∃ rv Lq, o = .returned rv ∧ Q0 Z p0 p1 q2 q3 h0 n0 rv U'.heap Lq ∧ FrameEnd U o U' Lq room_1.cells room_1.slots) := by
  refine MetFree.of_bodySF (plainFor_of_name pn_0) hisR ?_
  intro p e s m args below meth c s₁ Bd hml0 hP hK
  obtain ⟨rfl, hZ, hh⟩ := hP
  have hx := Bd.exec
  have hby := Bd.bytes
  have hml : c.maxLocals = 15 := hml0
  have hown : s.vm.findClass "com/example/portunus/portunus/AtomWriteCanonicalPinLaw" = some m.cls := findClass_of_methodNamed Bd.named
  have hnm := (name_of_methodNamed Bd.named Bd.method).1
  have X0 : Stand p l e room_1 s m #[(.int p0), (.int p1), (.long q2), (.long q3)] below meth c s₁ [] 0 0 := Stand.of_body Bd
  have e0 : s₁.heap = h0 := by rw [← hh, Bd.state]; rfl
  have N0 := Fr.nil n0
  refine own_out (own_nm fun G hG => own_st (fun zt zk => castTop (ef_rm0 m p0 p1 q2 q3) zk) ?_)
  have J21_52 : ∀ (n6 : Int32) (nn : Nat) (hnn : n6.toInt = nn) (hn105 : nn ≤ 105), own_Go p e below G (s₁.setTop (mkF m 21 #[.val (.int p0), .val (.int p1), .val (.long q2), .second, .val (.long q3), .second, .val (.int n6), .unset, .unset, .unset, .unset, .unset, .unset, .unset, .unset] [])) := by
    intro n6 nn hnn hn105
    show own_Go p e below G (s₁.setTop (mkF m 21 #[.val (.int p0), .val (.int p1), .val (.long q2), .second, .val (.long q3), .second, .val (.int n6), .unset, .unset, .unset, .unset, .unset, .unset, .unset, .unset] []))
    refine own_st (fun zw zk => XS.iloadN X0.here hx rfl (hb hby at_21) rfl zk) ?_
    refine own_st (fun zw zk => XS.bipush X0.here hx rfl (hb hby at_22) zk) ?_
    refine own_st (fun zw zk => XS.iand X0.here hx rfl (hb hby at_24) rfl zk) ?_
    refine own_st (fun zw zk => XS.istore X0.here hx rfl (hb hby at_25) rfl rfl zk) ?_
    show own_Go p e below G (s₁.setTop (mkF m 27 #[.val (.int p0), .val (.int p1), .val (.long q2), .second, .val (.long q3), .second, .val (.int n6), .val (.int (p1 &&& (15 : Int32))), .unset, .unset, .unset, .unset, .unset, .unset, .unset] []))
    generalize hat7 : (p1 &&& (15 : Int32)) = at7
    obtain ⟨na, hat, hna⟩ : ∃ na : Nat, at7.toInt = na ∧ na ≤ 15 := hat7 ▸ own_at15 p1
    refine own_st (fun zw zk => XS.iload X0.here hx rfl (hb hby at_27) rfl zk) ?_
    obtain ⟨T53, h53, k53, X53, e53, E53, A53, B53, st53⟩ := newPE X0 hx hZ (hw _ (List.mem_of_getElem? (i := 0) rfl)) e0 (g := (mkF m 29 #[.val (.int p0), .val (.int p1), .val (.long q2), .second, .val (.long q3), .second, .val (.int n6), .val (.int at7), .unset, .unset, .unset, .unset, .unset, .unset, .unset] [(.int n6)])) rfl (hb hby at_29) rfl (own_nn hnn) (cap := 105) (by rw [own_nat hnn]; exact hn105) (by decide) (by decide) (by decide) (ad := "[B") (by decide)
    obtain ⟨b53, g53⟩ : ∃ z, z = h0.size := ⟨_, rfl⟩
    rw [← g53] at A53 B53 st53
    have G53 : n0 ≤ b53 := Nat.le_trans Z0 (Nat.le_of_eq g53.symm)
    have Z53 : n0 ≤ h53.size := Nat.le_trans Z0 E53.1
    have V53 : own_L Z h53 b53 .byte ((List.replicate nn (.int 0))) := (by have q := (own_L.new A53); rw [own_nat hnn] at q; exact q)
    refine own_st (fun zw zk => st53 zw zk) ?_
    refine own_st (fun zw zk => XS.astore X53.here hx rfl (hb hby at_31) rfl rfl rfl zk) ?_
    show own_Go p e below G (T53.setTop (mkF m 33 #[.val (.int p0), .val (.int p1), .val (.long q2), .second, .val (.long q3), .second, .val (.int n6), .val (.int at7), .val (.ref b53), .unset, .unset, .unset, .unset, .unset, .unset] []))
    refine own_st (fun zw zk => XS.aload X53.here hx rfl (hb hby at_33) rfl rfl zk) ?_
    refine own_st (fun zw zk => XS.iconst X53.here hx rfl (hb hby at_35) zk) ?_
    refine own_st (fun zw zk => XS.lloadN X53.here hx rfl (hb hby at_36) rfl zk) ?_
    obtain ⟨_, _, ⟨T54, L54, k54, n54⟩, -, X54, ⟨Lc54, hQ54, l54, y54, z54⟩, st54⟩ := Jvm.LawKit.callS X53 hx (y := (⟨"com/example/portunus/portunus/AtomWriteCanonicalPinLaw", "fillLong", "([BIJ)V"⟩ : MethodName)) hown (mvT hZ (hw _ (List.mem_of_getElem? (i := 1) rfl))) (mvT hZ (hw _ (List.mem_of_getElem? (i := 2) rfl))) (mvT hZ (hw _ (List.mem_of_getElem? (i := 3) rfl))) (mvT hZ (hw _ (List.mem_of_getElem? (i := 4) rfl))) (by decide) (backOf (W := 0) (rm1 l Z a0 hw [] b53 (0 : Int32) q2 (List.replicate nn (.int 0)) n6 0 h53 n0 Z53 (V53) (G53) (own_lenz hnn (List.length_replicate)) (by rw [(List.length_replicate)]; exact hnn) (by decide) (by decide) ((own_repfit nn))) hZ (hw _ (List.mem_of_getElem? (i := 4) rfl)) (hw _ (List.mem_of_getElem? (i := 3) rfl)) (by decide) (by decide)) (g := (mkF m 37 #[.val (.int p0), .val (.int p1), .val (.long q2), .second, .val (.long q3), .second, .val (.int n6), .val (.int at7), .val (.ref b53), .unset, .unset, .unset, .unset, .unset, .unset] [(.long q2), (.int (0 : Int32)), (.ref b53)])) rfl (by rw [hml]; rfl) (argsL := [(.ref b53), (.int (0 : Int32)), (.long q2)]) (rest := []) (lenOf pd_3 rfl) rfl (by show 2 * 0 + _ ≤ _; exact Nat.le_of_eq rfl) (hb hby at_37) (fun _ _ => ⟨rfl, e53, (by decide : 1 + 0 ≤ _), (by decide : 105 + 0 ≤ _)⟩)
    dsimp only [Pt.U, Pt.locs, Pt.cells, Pt.slots] at X54 l54 y54 z54 st54 hQ54
    subst l54 y54 z54
    obtain ⟨rfl, N54q, vq54, K54, O54_0, P54_0, P54_1⟩ := hQ54
    have Bb53_54 := B53.keep K54
    have Z54 : n0 ≤ T54.heap.size := Nat.le_trans Z53 K54.1
    have N54 := Fr.app N0 N54q
    refine own_st (fun zw zk => st54 zw zk) ?_
    refine own_st (fun zw zk => XS.aload X54.here hx rfl (hb hby at_40) rfl rfl zk) ?_
    refine own_st (fun zw zk => XS.bipush X54.here hx rfl (hb hby at_42) zk) ?_
    refine own_st (fun zw zk => XS.lload X54.here hx rfl (hb hby at_44) rfl zk) ?_
    obtain ⟨_, _, ⟨T55, L55, k55, n55⟩, -, X55, ⟨Lc55, hQ55, l55, y55, z55⟩, st55⟩ := Jvm.LawKit.callS X54 hx (y := (⟨"com/example/portunus/portunus/AtomWriteCanonicalPinLaw", "fillLong", "([BIJ)V"⟩ : MethodName)) hown (mvT hZ (hw _ (List.mem_of_getElem? (i := 1) rfl))) (mvT hZ (hw _ (List.mem_of_getElem? (i := 2) rfl))) (mvT hZ (hw _ (List.mem_of_getElem? (i := 3) rfl))) (mvT hZ (hw _ (List.mem_of_getElem? (i := 4) rfl))) (by decide) (backOf (W := 0) (rm1 l Z a0 hw [] b53 (8 : Int32) q3 vq54 n6 8 T54.heap n0 Z54 (O54_0) (G53) (own_lenz hnn (P54_0.trans (List.length_replicate))) (by rw [(P54_0.trans (List.length_replicate))]; exact hnn) (by decide) (by decide) (P54_1)) hZ (hw _ (List.mem_of_getElem? (i := 4) rfl)) (hw _ (List.mem_of_getElem? (i := 3) rfl)) (by decide) (by decide)) (g := (mkF m 46 #[.val (.int p0), .val (.int p1), .val (.long q2), .second, .val (.long q3), .second, .val (.int n6), .val (.int at7), .val (.ref b53), .unset, .unset, .unset, .unset, .unset, .unset] [(.long q3), (.int (8 : Int32)), (.ref b53)])) rfl (by rw [hml]; rfl) (argsL := [(.ref b53), (.int (8 : Int32)), (.long q3)]) (rest := []) (lenOf pd_3 rfl) rfl (by show 2 * 0 + _ ≤ _; exact Nat.le_of_eq rfl) (hb hby at_46) (fun _ _ => ⟨rfl, rfl, (by decide : 1 + 0 ≤ _), (by decide : 105 + 0 ≤ _)⟩)
    dsimp only [Pt.U, Pt.locs, Pt.cells, Pt.slots] at X55 l55 y55 z55 st55 hQ55
    subst l55 y55 z55
    obtain ⟨rfl, N55q, vq55, K55, O55_0, P55_0, P55_1⟩ := hQ55
    have Bb53_55 := Bb53_54.keep K55
    have Z55 : n0 ≤ T55.heap.size := Nat.le_trans Z54 K55.1
    have N55 := Fr.app N54 N55q
    refine own_st (fun zw zk => st55 zw zk) ?_
    obtain ⟨vs66, V66, hl66, hf66⟩ : ∃ vs : List Value, own_L Z T55.heap b53 .byte vs ∧ vs.length = nn ∧ ∀ v ∈ vs, fits .byte v = true := ⟨_, O55_0, (P55_0.trans (P54_0.trans (List.length_replicate))), P55_1⟩
    have J66_56 : ∀ (vu : List Value) (hj56 : Heap) (Zj56 : n0 ≤ hj56.size) (Fj56_0 : own_L Z hj56 b53 .byte (vu)) (Fj56_1 : Exa Z hj56 b53 "[B") (Tj56 : State) (Lj56 : List Loc) (Xj56 : Stand p l e room_1 s m #[(.int p0), (.int p1), (.long q2), (.long q3)] below meth c Tj56 Lj56 1 105) (ej56 : Tj56.heap = hj56) (Nj56 : Fr n0 Lj56) (hlenu : vu.length = nn) (hfitu : ∀ z ∈ vu, fits .byte z = true), own_Go p e below G (Tj56.setTop (mkF m 66 #[.val (.int p0), .val (.int p1), .val (.long q2), .second, .val (.long q3), .second, .val (.int n6), .val (.int at7), .val (.ref b53), .unset, .unset, .unset, .unset, .unset, .unset] [])) := by
      intro vu hj56 Zj56 Fj56_0 Fj56_1 Tj56 Lj56 Xj56 ej56 Nj56 hlenu hfitu
      obtain ⟨vs84, V84, hl84, hf84⟩ : ∃ vs : List Value, own_L Z hj56 b53 .byte vs ∧ vs.length = nn ∧ ∀ v ∈ vs, fits .byte v = true := ⟨_, Fj56_0, hlenu, hfitu⟩
      have J84_57 : ∀ (vt : List Value) (hj57 : Heap) (Zj57 : n0 ≤ hj57.size) (Fj57_0 : own_L Z hj57 b53 .byte (vt)) (Fj57_1 : Exa Z hj57 b53 "[B") (Tj57 : State) (Lj57 : List Loc) (Xj57 : Stand p l e room_1 s m #[(.int p0), (.int p1), (.long q2), (.long q3)] below meth c Tj57 Lj57 1 105) (ej57 : Tj57.heap = hj57) (Nj57 : Fr n0 Lj57) (hlen : vt.length = nn) (hfit : ∀ z ∈ vt, fits .byte z = true), own_Go p e below G (Tj57.setTop (mkF m 84 #[.val (.int p0), .val (.int p1), .val (.long q2), .second, .val (.long q3), .second, .val (.int n6), .val (.int at7), .val (.ref b53), .unset, .unset, .unset, .unset, .unset, .unset] [])) := by
        intro vt hj57 Zj57 Fj57_0 Fj57_1 Tj57 Lj57 Xj57 ej57 Nj57 hlen hfit
        show own_Go p e below G (Tj57.setTop (mkF m 84 #[.val (.int p0), .val (.int p1), .val (.long q2), .second, .val (.long q3), .second, .val (.int n6), .val (.int at7), .val (.ref b53), .unset, .unset, .unset, .unset, .unset, .unset] []))
        obtain ⟨T58, h58, X58, e58, E58, A58, D58, -, st58⟩ := newO Xj57 hx hZ hown (hw _ (List.mem_of_getElem? (i := 8) rfl)) (hw _ (List.mem_of_getElem? (i := 9) rfl)) (hw _ (List.mem_of_getElem? (i := 10) rfl)) ej57 (g := (mkF m 84 #[.val (.int p0), .val (.int p1), .val (.long q2), .second, .val (.long q3), .second, .val (.int n6), .val (.int at7), .val (.ref b53), .unset, .unset, .unset, .unset, .unset, .unset] [])) rfl (hb hby at_84) (by decide) (by decide)
        obtain ⟨b58, g58⟩ : ∃ z, z = hj57.size := ⟨_, rfl⟩
        rw [← g58] at A58 D58 st58
        have G58 : n0 ≤ b58 := Nat.le_trans Zj57 (Nat.le_of_eq g58.symm)
        have ne_b53_b58 : b53 ≠ b58 := Nat.ne_of_lt (Nat.lt_of_lt_of_le Fj57_0.lt (Nat.le_of_eq g58.symm))
        have Fj570_58 := Fj57_0.ext E58
        have Fj571_58 := Fj57_1.ext E58
        have Z58 : n0 ≤ h58.size := Nat.le_trans Zj57 E58.1
        have Fb58bytes : Fld Z h58 b58 "com/example/portunus/portunus/Atom" "bytes" "[B" .null := D58 (Or.inr (hw _ (List.mem_of_getElem? (i := 27) rfl))) (ty := (.array .byte)) (by decide)
        refine own_st (fun zw zk => st58 zw zk) ?_
        refine own_st (fun zw zk => XS.dup X58.here hx rfl (hb hby at_87) rfl rfl zk) ?_
        refine own_st (fun zw zk => XS.aload X58.here hx rfl (hb hby at_88) rfl rfl zk) ?_
        obtain ⟨_, _, ⟨T59, L59, k59, n59⟩, -, X59, ⟨Lc59, hQ59, l59, y59, z59⟩, st59⟩ := X58.specialBack hx (y := (⟨"com/example/portunus/portunus/Atom", "<init>", "([B)V"⟩ : MethodName)) rfl hown (mvT hZ (hw _ (List.mem_of_getElem? (i := 11) rfl))) (mvT hZ (hw _ (List.mem_of_getElem? (i := 12) rfl))) (mvT hZ (hw _ (List.mem_of_getElem? (i := 13) rfl))) (by decide) (backOf (W := 1) (rm3 l Z a0 hw [] b58 b53 vt h58 n0 Z58 (A58) (Fb58bytes) (Fj570_58) (Fj571_58) (G58) ((Ne.symm ne_b53_b58)) (by rw [hlen]; exact hn105) (hfit)) hZ (hw _ (List.mem_of_getElem? (i := 13) rfl)) (hw _ (List.mem_of_getElem? (i := 10) rfl)) (by decide) (by decide)) (g := (mkF m 90 #[.val (.int p0), .val (.int p1), .val (.long q2), .second, .val (.long q3), .second, .val (.int n6), .val (.int at7), .val (.ref b53), .unset, .unset, .unset, .unset, .unset, .unset] [(.ref b53), (.ref b58), (.ref b58)])) rfl (by rw [hml]; rfl) (Steps.refl _) (a := b58) (argsL := [(.ref b53)]) (rest := [(.ref b58)]) (lenOf pd_4 rfl) rfl (by show 2 * 0 + _ ≤ _; exact Nat.le_of_eq rfl) (hb hby at_90) (fun _ _ => ⟨rfl, e58, (by decide : 2 + 1 ≤ _), (by decide : 106 + 105 ≤ _)⟩)
        dsimp only [Pt.U, Pt.locs, Pt.cells, Pt.slots] at X59 l59 y59 z59 st59 hQ59
        subst l59 y59 z59
        obtain ⟨rfl, N59q, bb59, szbb59, K59, O59_0, O59_1, O59_2⟩ := hQ59
        have ne_b53_bb59 : b53 ≠ bb59 := Nat.ne_of_lt (Nat.lt_of_lt_of_le Fj570_58.lt szbb59)
        have ne_b58_bb59 : b58 ≠ bb59 := Nat.ne_of_lt (Nat.lt_of_lt_of_le Fb58bytes.lt szbb59)
        have Gbb59 : n0 ≤ bb59 := Nat.le_trans Z58 szbb59
        have Fj570_59 := Fj570_58.keep K59 (ninS ne_b53_b58 nin0)
        have Fj571_59 := Fj571_58.keep K59
        have Ab58_59 := A58.keep K59
        have Z59 : n0 ≤ T59.heap.size := Nat.le_trans Z58 K59.1
        have N59 := Fr.app Nj57 N59q
        refine own_jp st59 ?_
        refine own_st (fun zw zk => XS.astore X59.here hx rfl (hb hby at_93) rfl rfl rfl zk) ?_
        show own_Go p e below G (T59.setTop (mkF m 95 #[.val (.int p0), .val (.int p1), .val (.long q2), .second, .val (.long q3), .second, .val (.int n6), .val (.int at7), .val (.ref b53), .val (.ref b58), .unset, .unset, .unset, .unset, .unset] []))
        refine own_st (fun zw zk => XS.sipush X59.here hx rfl (hb hby at_95) zk) ?_
        obtain ⟨T60, h60, k60, X60, e60, E60, A60, B60, st60⟩ := newPE X59 hx hZ (hw _ (List.mem_of_getElem? (i := 0) rfl)) rfl (g := (mkF m 98 #[.val (.int p0), .val (.int p1), .val (.long q2), .second, .val (.long q3), .second, .val (.int n6), .val (.int at7), .val (.ref b53), .val (.ref b58), .unset, .unset, .unset, .unset, .unset] [(.int (128 : Int32))])) rfl (hb hby at_98) rfl (by decide) (cap := 128) (by decide) (by decide) (by decide) (by decide) (ad := "[B") (by decide)
        obtain ⟨b60, g60⟩ : ∃ z, z = T59.heap.size := ⟨_, rfl⟩
        rw [← g60] at A60 B60 st60
        have G60 : n0 ≤ b60 := Nat.le_trans Z59 (Nat.le_of_eq g60.symm)
        have ne_b53_b60 : b53 ≠ b60 := Nat.ne_of_lt (Nat.lt_of_lt_of_le Fj570_59.lt (Nat.le_of_eq g60.symm))
        have ne_b58_b60 : b58 ≠ b60 := Nat.ne_of_lt (Nat.lt_of_lt_of_le O59_0.lt (Nat.le_of_eq g60.symm))
        have ne_bb59_b60 : bb59 ≠ b60 := Nat.ne_of_lt (Nat.lt_of_lt_of_le O59_2.lt (Nat.le_of_eq g60.symm))
        have Fj570_60 := Fj570_59.ext E60
        have Fj571_60 := Fj571_59.ext E60
        have Ob58E_60 := O59_0.ext E60
        have Ob58bytes_60 := O59_1.ext E60
        have Obb59L_60 := O59_2.ext E60
        have Z60 : n0 ≤ h60.size := Nat.le_trans Z59 E60.1
        have V60 : own_L Z h60 b60 .byte ((List.replicate 128 (Value.int 0))) := own_L.new A60
        refine own_st (fun zw zk => st60 zw zk) ?_
        refine own_st (fun zw zk => XS.astore X60.here hx rfl (hb hby at_100) rfl rfl rfl zk) ?_
        rcases own_three hnn with ⟨k1, c1⟩ | ⟨k1, k2, c1, c2⟩ | ⟨k1, c1, c2⟩
        · show own_Go p e below G (T60.setTop (mkF m 102 #[.val (.int p0), .val (.int p1), .val (.long q2), .second, .val (.long q3), .second, .val (.int n6), .val (.int at7), .val (.ref b53), .val (.ref b58), .val (.ref b60), .unset, .unset, .unset, .unset] []))
          refine own_st (fun zw zk => XS.aload X60.here hx rfl (hb hby at_102) rfl rfl zk) ?_
          refine own_st (fun zw zk => XS.aload X60.here hx rfl (hb hby at_104) rfl rfl zk) ?_
          refine own_st (fun zw zk => XS.iload X60.here hx rfl (hb hby at_106) rfl zk) ?_
          obtain ⟨cq61, kq61, q61a, q61b, q61c⟩ := isOf hZ e60 Ob58E_60
          obtain ⟨_, _, ⟨T61, L61, k61, n61⟩, -, X61, ⟨Lc61, hQ61, l61, y61, z61⟩, st61⟩ := X60.virtualBack hx (y := (⟨"com/example/portunus/portunus/Atom", "writeCanonical", "([BI)I"⟩ : MethodName)) (z := (⟨"com/example/portunus/portunus/Atom", "writeCanonical", "([BI)I"⟩ : MethodName)) hown (mvT hZ (hw _ (List.mem_of_getElem? (i := 28) rfl))) (mvT hZ (hw _ (List.mem_of_getElem? (i := 29) rfl))) (notFace_of_selects (args := #[]) (mvT hZ (hw _ (List.mem_of_getElem? (i := 31) rfl)))) (mvT hZ (hw _ (List.mem_of_getElem? (i := 31) rfl))) (mvT hZ (hw _ (List.mem_of_getElem? (i := 30) rfl))) (by decide) (backOf (W := 0) (rm_w1 l Z a0 hw [] b58 b60 at7 bb59 vt n6 nn na h60 n0 Z60 (Ob58bytes_60) (Obb59L_60) (V60) (G60) (ne_b58_b60) (ne_bb59_b60) (own_lenz hnn hlen) (hlen) (hnn) (hat) (hna) (hn105) (hfit) (k1)) hZ (hw _ (List.mem_of_getElem? (i := 32) rfl)) (hw _ (List.mem_of_getElem? (i := 10) rfl)) (by decide) (by decide)) q61a q61c (g := (mkF m 108 #[.val (.int p0), .val (.int p1), .val (.long q2), .second, .val (.long q3), .second, .val (.int n6), .val (.int at7), .val (.ref b53), .val (.ref b58), .val (.ref b60), .unset, .unset, .unset, .unset] [(.int at7), (.ref b60), (.ref b58)])) rfl (by rw [hml]; rfl) (Steps.refl _) (argsL := [(.ref b60), (.int at7)]) (rest := []) (lenOf pd_5 rfl) rfl (by show 2 * 0 + _ ≤ _; exact Nat.le_of_eq rfl) (hb hby at_108) (fun _ _ => ⟨rfl, e60, (by decide : 4 + 0 ≤ _), (by decide : 339 + 0 ≤ _)⟩)
          dsimp only [Pt.U, Pt.locs, Pt.cells, Pt.slots] at X61 l61 y61 z61 st61 hQ61
          subst l61 y61 z61
          obtain ⟨rfl, N61q, vo61, K61, O61_0, P61_0, P61_1, P61_2, P61_3, P61_4, P61_5⟩ := hQ61
          have Fj570_61 := Fj570_60.keep K61 (ninS ne_b53_b60 nin0)
          have Fj571_61 := Fj571_60.keep K61
          have Ob58E_61 := Ob58E_60.keep K61
          have Ob58bytes_61 := Ob58bytes_60.keep K61 (ninS ne_b58_b60 nin0)
          have Obb59L_61 := Obb59L_60.keep K61 (ninS ne_bb59_b60 nin0)
          have Bb60_61 := B60.keep K61
          have Z61 : n0 ≤ T61.heap.size := Nat.le_trans Z60 K61.1
          have N61 := Fr.app N59 N61q
          refine own_jp st61 ?_
          refine own_st (fun zw zk => XS.istore X61.here hx rfl (hb hby at_111) rfl rfl zk) ?_
          show own_Go p e below G (T61.setTop (mkF m 113 #[.val (.int p0), .val (.int p1), .val (.long q2), .second, .val (.long q3), .second, .val (.int n6), .val (.int at7), .val (.ref b53), .val (.ref b58), .val (.ref b60), .val (.int (((at7 + (1 : Int32)) + (1 : Int32)) + n6)), .unset, .unset, .unset] []))
          refine own_st (fun zw zk => XS.iload X61.here hx rfl (hb hby at_113) rfl zk) ?_
          refine own_st (fun zw zk => XS.bipush X61.here hx rfl (hb hby at_115) zk) ?_
          refine own_st (fun zw zk => XS.icmpNo X61.here hx rfl (hb hby at_117) rfl (tlt c1).2.1 zk) ?_
          refine own_st (fun zw zk => XS.iconst X61.here hx rfl (hb hby at_120) zk) ?_
          refine own_st (fun zw zk => XS.goto X61.here hx rfl (pc0 := 121) (pc' := 136) rfl (hb hby at_121) (by decide) (by decide) zk) ?_
          show own_Go p e below G (T61.setTop (mkF m 136 #[.val (.int p0), .val (.int p1), .val (.long q2), .second, .val (.long q3), .second, .val (.int n6), .val (.int at7), .val (.ref b53), .val (.ref b58), .val (.ref b60), .val (.int (((at7 + (1 : Int32)) + (1 : Int32)) + n6)), .unset, .unset, .unset] [(.int (1 : Int32))]))
          refine own_st (fun zw zk => XS.istore X61.here hx rfl (hb hby at_136) rfl rfl zk) ?_
          show own_Go p e below G (T61.setTop (mkF m 138 #[.val (.int p0), .val (.int p1), .val (.long q2), .second, .val (.long q3), .second, .val (.int n6), .val (.int at7), .val (.ref b53), .val (.ref b58), .val (.ref b60), .val (.int (((at7 + (1 : Int32)) + (1 : Int32)) + n6)), .val (.int (1 : Int32)), .unset, .unset] []))
          refine own_st (fun zw zk => XS.iload X61.here hx rfl (hb hby at_138) rfl zk) ?_
          refine own_st (fun zw zk => XS.iload X61.here hx rfl (hb hby at_140) rfl zk) ?_
          refine own_st (fun zw zk => XS.iload X61.here hx rfl (hb hby at_142) rfl zk) ?_
          refine own_st (fun zw zk => XS.iadd X61.here hx rfl (hb hby at_144) rfl zk) ?_
          refine own_st (fun zw zk => XS.iconst X61.here hx rfl (hb hby at_145) zk) ?_
          refine own_st (fun zw zk => XS.iadd X61.here hx rfl (hb hby at_146) rfl zk) ?_
          refine own_st (fun zw zk => XS.iload X61.here hx rfl (hb hby at_147) rfl zk) ?_
          refine own_st (fun zw zk => XS.iadd X61.here hx rfl (hb hby at_149) rfl zk) ?_
          show own_Go p e below G (T61.setTop (mkF m 150 #[.val (.int p0), .val (.int p1), .val (.long q2), .second, .val (.long q3), .second, .val (.int n6), .val (.int at7), .val (.ref b53), .val (.ref b58), .val (.ref b60), .val (.int (((at7 + (1 : Int32)) + (1 : Int32)) + n6)), .val (.int (1 : Int32)), .unset, .unset] [(.int (((at7 + (1 : Int32)) + (1 : Int32)) + n6)), (.int (((at7 + (1 : Int32)) + (1 : Int32)) + n6))]))
          refine own_st (fun zw zk => XS.icmpNo X61.here hx rfl (hb hby at_150) rfl (teq (rfl : (((at7 + (1 : Int32)) + (1 : Int32)) + n6) = (((at7 + (1 : Int32)) + (1 : Int32)) + n6))).2 zk) ?_
          refine own_st (fun zw zk => XS.iconst X61.here hx rfl (hb hby at_153) zk) ?_
          refine own_st (fun zw zk => XS.goto X61.here hx rfl (pc0 := 154) (pc' := 158) rfl (hb hby at_154) (by decide) (by decide) zk) ?_
          show own_Go p e below G (T61.setTop (mkF m 158 #[.val (.int p0), .val (.int p1), .val (.long q2), .second, .val (.long q3), .second, .val (.int n6), .val (.int at7), .val (.ref b53), .val (.ref b58), .val (.ref b60), .val (.int (((at7 + (1 : Int32)) + (1 : Int32)) + n6)), .val (.int (1 : Int32)), .unset, .unset] [(.int (1 : Int32))]))
          refine own_st (fun zw zk => XS.istore X61.here hx rfl (hb hby at_158) rfl rfl zk) ?_
          show own_Go p e below G (T61.setTop (mkF m 160 #[.val (.int p0), .val (.int p1), .val (.long q2), .second, .val (.long q3), .second, .val (.int n6), .val (.int at7), .val (.ref b53), .val (.ref b58), .val (.ref b60), .val (.int (((at7 + (1 : Int32)) + (1 : Int32)) + n6)), .val (.int (1 : Int32)), .val (.int (1 : Int32)), .unset] []))
          refine own_st (fun zw zk => XS.iload X61.here hx rfl (hb hby at_160) rfl zk) ?_
          refine own_st (fun zw zk => XS.iconst X61.here hx rfl (hb hby at_162) zk) ?_
          refine own_st (fun zw zk => XS.icmpNo X61.here hx rfl (hb hby at_163) rfl (teq (by decide : (1 : Int32) = (1 : Int32))).2 zk) ?_
          refine own_st (fun zw zk => XS.iload X61.here hx rfl (hb hby at_166) rfl zk) ?_
          refine own_st (fun zw zk => XS.ifNo X61.here hx rfl (hb hby at_168) rfl ((if0 _ _).trans (feq (by decide : ¬ ((1 : Int32) = (0 : Int32)))).1) zk) ?_
          refine own_st (fun zw zk => XS.aload X61.here hx rfl (hb hby at_171) rfl rfl zk) ?_
          refine own_st (fun zw zk => XS.iload X61.here hx rfl (hb hby at_173) rfl zk) ?_
          refine own_st (fun zw zk => own_bld X61 hx hZ rfl O61_0 (j := at7) (v := (.int ((48 : Int32) + n6))) (i := na + 0) (own_nn hat) (own_nat (n := na + 0) hat) P61_1 (g := (mkF m 175 #[.val (.int p0), .val (.int p1), .val (.long q2), .second, .val (.long q3), .second, .val (.int n6), .val (.int at7), .val (.ref b53), .val (.ref b58), .val (.ref b60), .val (.int (((at7 + (1 : Int32)) + (1 : Int32)) + n6)), .val (.int (1 : Int32)), .val (.int (1 : Int32)), .unset] [(.int at7), (.ref b60)])) rfl rfl (hb hby at_175) _ zk) ?_
          show own_Go p e below G (T61.setTop (mkF m 176 #[.val (.int p0), .val (.int p1), .val (.long q2), .second, .val (.long q3), .second, .val (.int n6), .val (.int at7), .val (.ref b53), .val (.ref b58), .val (.ref b60), .val (.int (((at7 + (1 : Int32)) + (1 : Int32)) + n6)), .val (.int (1 : Int32)), .val (.int (1 : Int32)), .unset] [(.int ((48 : Int32) + n6))]))
          refine own_st (fun zw zk => XS.bipush X61.here hx rfl (hb hby at_176) zk) ?_
          refine own_st (fun zw zk => XS.iload X61.here hx rfl (hb hby at_178) rfl zk) ?_
          refine own_st (fun zw zk => XS.iadd X61.here hx rfl (hb hby at_180) rfl zk) ?_
          refine own_st (fun zw zk => XS.icmpNo X61.here hx rfl (hb hby at_181) rfl (teq (rfl : ((48 : Int32) + n6) = ((48 : Int32) + n6))).2 zk) ?_
          refine own_st (fun zw zk => XS.iconst X61.here hx rfl (hb hby at_184) zk) ?_
          refine own_st (fun zw zk => XS.goto X61.here hx rfl (pc0 := 185) (pc' := 189) rfl (hb hby at_185) (by decide) (by decide) zk) ?_
          show own_Go p e below G (T61.setTop (mkF m 189 #[.val (.int p0), .val (.int p1), .val (.long q2), .second, .val (.long q3), .second, .val (.int n6), .val (.int at7), .val (.ref b53), .val (.ref b58), .val (.ref b60), .val (.int (((at7 + (1 : Int32)) + (1 : Int32)) + n6)), .val (.int (1 : Int32)), .val (.int (1 : Int32)), .unset] [(.int (1 : Int32))]))
          refine own_st (fun zw zk => XS.istore X61.here hx rfl (hb hby at_189) rfl rfl zk) ?_
          show own_Go p e below G (T61.setTop (mkF m 191 #[.val (.int p0), .val (.int p1), .val (.long q2), .second, .val (.long q3), .second, .val (.int n6), .val (.int at7), .val (.ref b53), .val (.ref b58), .val (.ref b60), .val (.int (((at7 + (1 : Int32)) + (1 : Int32)) + n6)), .val (.int (1 : Int32)), .val (.int (1 : Int32)), .unset] []))
          refine own_st (fun zw zk => XS.goto X61.here hx rfl (pc0 := 191) (pc' := 316) rfl (hb hby at_191) (by decide) (by decide) zk) ?_
          show own_Go p e below G (T61.setTop (mkF m 316 #[.val (.int p0), .val (.int p1), .val (.long q2), .second, .val (.long q3), .second, .val (.int n6), .val (.int at7), .val (.ref b53), .val (.ref b58), .val (.ref b60), .val (.int (((at7 + (1 : Int32)) + (1 : Int32)) + n6)), .val (.int (1 : Int32)), .val (.int (1 : Int32)), .unset] []))
          refine own_st (fun zw zk => XS.iload X61.here hx rfl (hb hby at_316) rfl zk) ?_
          refine own_st (fun zw zk => XS.ifNo X61.here hx rfl (hb hby at_318) rfl ((if0 _ _).trans (feq (by decide : ¬ ((1 : Int32) = (0 : Int32)))).1) zk) ?_
          refine own_st (fun zw zk => XS.aload X61.here hx rfl (hb hby at_321) rfl rfl zk) ?_
          refine own_st (fun zw zk => XS.iload X61.here hx rfl (hb hby at_323) rfl zk) ?_
          refine own_st (fun zw zk => XS.iload X61.here hx rfl (hb hby at_325) rfl zk) ?_
          refine own_st (fun zw zk => XS.iadd X61.here hx rfl (hb hby at_327) rfl zk) ?_
          refine own_st (fun zw zk => own_bld X61 hx hZ rfl O61_0 (j := (at7 + (1 : Int32))) (v := (.int (58 : Int32))) (i := na + 1) (own_nn (own_plus hat (by decide : ((1 : Int32)).toInt = (1 : Nat)) (by omega))) (own_nat (own_plus hat (by decide : ((1 : Int32)).toInt = (1 : Nat)) (by omega))) P61_2 (g := (mkF m 328 #[.val (.int p0), .val (.int p1), .val (.long q2), .second, .val (.long q3), .second, .val (.int n6), .val (.int at7), .val (.ref b53), .val (.ref b58), .val (.ref b60), .val (.int (((at7 + (1 : Int32)) + (1 : Int32)) + n6)), .val (.int (1 : Int32)), .val (.int (1 : Int32)), .unset] [(.int (at7 + (1 : Int32))), (.ref b60)])) rfl rfl (hb hby at_328) _ zk) ?_
          refine own_st (fun zw zk => XS.bipush X61.here hx rfl (hb hby at_329) zk) ?_
          show own_Go p e below G (T61.setTop (mkF m 331 #[.val (.int p0), .val (.int p1), .val (.long q2), .second, .val (.long q3), .second, .val (.int n6), .val (.int at7), .val (.ref b53), .val (.ref b58), .val (.ref b60), .val (.int (((at7 + (1 : Int32)) + (1 : Int32)) + n6)), .val (.int (1 : Int32)), .val (.int (1 : Int32)), .unset] [(.int (58 : Int32)), (.int (58 : Int32))]))
          refine own_st (fun zw zk => XS.icmpNo X61.here hx rfl (hb hby at_331) rfl (teq (by decide : (58 : Int32) = (58 : Int32))).2 zk) ?_
          refine own_st (fun zw zk => XS.iconst X61.here hx rfl (hb hby at_334) zk) ?_
          refine own_st (fun zw zk => XS.goto X61.here hx rfl (pc0 := 335) (pc' := 339) rfl (hb hby at_335) (by decide) (by decide) zk) ?_
          show own_Go p e below G (T61.setTop (mkF m 339 #[.val (.int p0), .val (.int p1), .val (.long q2), .second, .val (.long q3), .second, .val (.int n6), .val (.int at7), .val (.ref b53), .val (.ref b58), .val (.ref b60), .val (.int (((at7 + (1 : Int32)) + (1 : Int32)) + n6)), .val (.int (1 : Int32)), .val (.int (1 : Int32)), .unset] [(.int (1 : Int32))]))
          refine own_st (fun zw zk => XS.istore X61.here hx rfl (hb hby at_339) rfl rfl zk) ?_
          show own_Go p e below G (T61.setTop (mkF m 341 #[.val (.int p0), .val (.int p1), .val (.long q2), .second, .val (.long q3), .second, .val (.int n6), .val (.int at7), .val (.ref b53), .val (.ref b58), .val (.ref b60), .val (.int (((at7 + (1 : Int32)) + (1 : Int32)) + n6)), .val (.int (1 : Int32)), .val (.int (1 : Int32)), .unset] []))
          refine own_st (fun zw zk => XS.iload X61.here hx rfl (hb hby at_341) rfl zk) ?_
          refine own_st (fun zw zk => XS.iload X61.here hx rfl (hb hby at_343) rfl zk) ?_
          refine own_st (fun zw zk => XS.iadd X61.here hx rfl (hb hby at_345) rfl zk) ?_
          refine own_st (fun zw zk => XS.iconst X61.here hx rfl (hb hby at_346) zk) ?_
          refine own_st (fun zw zk => XS.iadd X61.here hx rfl (hb hby at_347) rfl zk) ?_
          refine own_st (fun zw zk => XS.istore X61.here hx rfl (hb hby at_348) rfl rfl zk) ?_
          have hbase : (((at7 + (1 : Int32)) + (1 : Int32))).toInt = (na + 2 : Nat) := own_plus (n := na + 1) (k := 1) (own_plus hat (by decide : ((1 : Int32)).toInt = (1 : Nat)) (by omega)) (by decide : (1 : Int32).toInt = (1 : Nat)) (by omega)
          show own_Go p e below G (T61.setTop (mkF m 350 #[.val (.int p0), .val (.int p1), .val (.long q2), .second, .val (.long q3), .second, .val (.int n6), .val (.int at7), .val (.ref b53), .val (.ref b58), .val (.ref b60), .val (.int (((at7 + (1 : Int32)) + (1 : Int32)) + n6)), .val (.int (1 : Int32)), .val (.int (1 : Int32)), .val (.int ((at7 + (1 : Int32)) + (1 : Int32)))] []))
          refine own_st (fun zw zk => XS.iload X61.here hx rfl (hb hby at_350) rfl zk) ?_
          refine own_st (fun zw zk => XS.ifNo X61.here hx rfl (hb hby at_352) rfl ((if0 _ _).trans (feq (by decide : ¬ ((1 : Int32) = (0 : Int32)))).1) zk) ?_
          refine own_st (fun zw zk => XS.aload X61.here hx rfl (hb hby at_355) rfl rfl zk) ?_
          refine own_st (fun zw zk => XS.iload X61.here hx rfl (hb hby at_357) rfl zk) ?_
          refine own_st (fun zw zk => XS.aload X61.here hx rfl (hb hby at_359) rfl rfl zk) ?_
          refine own_st (fun zw zk => XS.iconst X61.here hx rfl (hb hby at_361) zk) ?_
          obtain ⟨_, _, ⟨T62, L62, k62, n62⟩, -, X62, ⟨Lc62, hQ62, l62, y62, z62⟩, st62⟩ := Jvm.LawKit.callS X61 hx (y := (⟨"com/example/portunus/portunus/AtomWriteCanonicalPinLaw", "sameLong", "([BI[BI)Z"⟩ : MethodName)) hown (mvT hZ (hw _ (List.mem_of_getElem? (i := 40) rfl))) (mvT hZ (hw _ (List.mem_of_getElem? (i := 41) rfl))) (mvT hZ (hw _ (List.mem_of_getElem? (i := 3) rfl))) (mvT hZ (hw _ (List.mem_of_getElem? (i := 42) rfl))) (by decide) (backOf (W := 0) (rm7 l Z a0 hw [] b60 ((at7 + (1 : Int32)) + (1 : Int32)) b53 (0 : Int32) vo61 vt n6 (na + 2) 0 nn T61.heap n0 Z61 (O61_0) (Fj570_61) (own_lenz hnn hlen) (hnn) (hlen) (hbase) (by decide) (by omega) (P61_3) (hfit) (by decide)) hZ (hw _ (List.mem_of_getElem? (i := 42) rfl)) (hw _ (List.mem_of_getElem? (i := 3) rfl)) (by decide) (by decide)) (g := (mkF m 362 #[.val (.int p0), .val (.int p1), .val (.long q2), .second, .val (.long q3), .second, .val (.int n6), .val (.int at7), .val (.ref b53), .val (.ref b58), .val (.ref b60), .val (.int (((at7 + (1 : Int32)) + (1 : Int32)) + n6)), .val (.int (1 : Int32)), .val (.int (1 : Int32)), .val (.int ((at7 + (1 : Int32)) + (1 : Int32)))] [(.int (0 : Int32)), (.ref b53), (.int ((at7 + (1 : Int32)) + (1 : Int32))), (.ref b60)])) rfl (by rw [hml]; rfl) (argsL := [(.ref b60), (.int ((at7 + (1 : Int32)) + (1 : Int32))), (.ref b53), (.int (0 : Int32))]) (rest := []) (lenOf pd_2 rfl) rfl (by show 2 * 0 + _ ≤ _; exact Nat.le_of_eq rfl) (hb hby at_362) (fun _ _ => ⟨rfl, rfl, (by decide : 4 + 0 ≤ _), (by decide : 339 + 0 ≤ _)⟩)
          dsimp only [Pt.U, Pt.locs, Pt.cells, Pt.slots] at X62 l62 y62 z62 st62 hQ62
          subst l62 y62 z62
          obtain ⟨rfl, N62q, e62⟩ := hQ62
          have N62 := Fr.app N61 N62q
          refine own_st (fun zw zk => st62 zw zk) ?_
          refine own_st (fun zw zk => XS.ifNo X62.here hx rfl (hb hby at_365) rfl ((if0 _ _).trans (feq (by decide : ¬ ((1 : Int32) = (0 : Int32)))).1) zk) ?_
          show own_Go p e below G (T62.setTop (mkF m 368 #[.val (.int p0), .val (.int p1), .val (.long q2), .second, .val (.long q3), .second, .val (.int n6), .val (.int at7), .val (.ref b53), .val (.ref b58), .val (.ref b60), .val (.int (((at7 + (1 : Int32)) + (1 : Int32)) + n6)), .val (.int (1 : Int32)), .val (.int (1 : Int32)), .val (.int ((at7 + (1 : Int32)) + (1 : Int32)))] []))
          refine own_st (fun zw zk => XS.aload X62.here hx rfl (hb hby at_368) rfl rfl zk) ?_
          refine own_st (fun zw zk => XS.iload X62.here hx rfl (hb hby at_370) rfl zk) ?_
          refine own_st (fun zw zk => XS.aload X62.here hx rfl (hb hby at_372) rfl rfl zk) ?_
          refine own_st (fun zw zk => XS.bipush X62.here hx rfl (hb hby at_374) zk) ?_
          obtain ⟨_, _, ⟨T63, L63, k63, n63⟩, -, X63, ⟨Lc63, hQ63, l63, y63, z63⟩, st63⟩ := Jvm.LawKit.callS X62 hx (y := (⟨"com/example/portunus/portunus/AtomWriteCanonicalPinLaw", "sameLong", "([BI[BI)Z"⟩ : MethodName)) hown (mvT hZ (hw _ (List.mem_of_getElem? (i := 40) rfl))) (mvT hZ (hw _ (List.mem_of_getElem? (i := 41) rfl))) (mvT hZ (hw _ (List.mem_of_getElem? (i := 3) rfl))) (mvT hZ (hw _ (List.mem_of_getElem? (i := 42) rfl))) (by decide) (backOf (W := 0) (rm7 l Z a0 hw [] b60 ((at7 + (1 : Int32)) + (1 : Int32)) b53 (8 : Int32) vo61 vt n6 (na + 2) 8 nn T61.heap n0 Z61 (O61_0) (Fj570_61) (own_lenz hnn hlen) (hnn) (hlen) (hbase) (by decide) (by omega) (P61_3) (hfit) (by decide)) hZ (hw _ (List.mem_of_getElem? (i := 42) rfl)) (hw _ (List.mem_of_getElem? (i := 3) rfl)) (by decide) (by decide)) (g := (mkF m 376 #[.val (.int p0), .val (.int p1), .val (.long q2), .second, .val (.long q3), .second, .val (.int n6), .val (.int at7), .val (.ref b53), .val (.ref b58), .val (.ref b60), .val (.int (((at7 + (1 : Int32)) + (1 : Int32)) + n6)), .val (.int (1 : Int32)), .val (.int (1 : Int32)), .val (.int ((at7 + (1 : Int32)) + (1 : Int32)))] [(.int (8 : Int32)), (.ref b53), (.int ((at7 + (1 : Int32)) + (1 : Int32))), (.ref b60)])) rfl (by rw [hml]; rfl) (argsL := [(.ref b60), (.int ((at7 + (1 : Int32)) + (1 : Int32))), (.ref b53), (.int (8 : Int32))]) (rest := []) (lenOf pd_2 rfl) rfl (by show 2 * 0 + _ ≤ _; exact Nat.le_of_eq rfl) (hb hby at_376) (fun _ _ => ⟨rfl, e62, (by decide : 4 + 0 ≤ _), (by decide : 339 + 0 ≤ _)⟩)
          dsimp only [Pt.U, Pt.locs, Pt.cells, Pt.slots] at X63 l63 y63 z63 st63 hQ63
          subst l63 y63 z63
          obtain ⟨rfl, N63q, e63⟩ := hQ63
          have N63 := Fr.app N62 N63q
          refine own_st (fun zw zk => st63 zw zk) ?_
          refine own_st (fun zw zk => XS.ifNo X63.here hx rfl (hb hby at_379) rfl ((if0 _ _).trans (feq (by decide : ¬ ((1 : Int32) = (0 : Int32)))).1) zk) ?_
          refine own_st (fun zw zk => XS.iconst X63.here hx rfl (hb hby at_382) zk) ?_
          refine own_st (fun zw zk => XS.goto X63.here hx rfl (pc0 := 383) (pc' := 387) rfl (hb hby at_383) (by decide) (by decide) zk) ?_
          show own_Go p e below G (T63.setTop (mkF m 387 #[.val (.int p0), .val (.int p1), .val (.long q2), .second, .val (.long q3), .second, .val (.int n6), .val (.int at7), .val (.ref b53), .val (.ref b58), .val (.ref b60), .val (.int (((at7 + (1 : Int32)) + (1 : Int32)) + n6)), .val (.int (1 : Int32)), .val (.int (1 : Int32)), .val (.int ((at7 + (1 : Int32)) + (1 : Int32)))] [(.int (1 : Int32))]))
          refine own_st (fun zw zk => XS.istore X63.here hx rfl (hb hby at_387) rfl rfl zk) ?_
          have J426_64 : own_Go p e below G (T63.setTop (mkF m 426 #[.val (.int p0), .val (.int p1), .val (.long q2), .second, .val (.long q3), .second, .val (.int n6), .val (.int at7), .val (.ref b53), .val (.ref b58), .val (.ref b60), .val (.int (((at7 + (1 : Int32)) + (1 : Int32)) + n6)), .val (.int (1 : Int32)), .val (.int (1 : Int32)), .val (.int ((at7 + (1 : Int32)) + (1 : Int32)))] [])) := by
            have J464_65 : own_Go p e below G (T63.setTop (mkF m 464 #[.val (.int p0), .val (.int p1), .val (.long q2), .second, .val (.long q3), .second, .val (.int n6), .val (.int at7), .val (.ref b53), .val (.ref b58), .val (.ref b60), .val (.int (((at7 + (1 : Int32)) + (1 : Int32)) + n6)), .val (.int (1 : Int32)), .val (.int (1 : Int32)), .val (.int ((at7 + (1 : Int32)) + (1 : Int32)))] [])) := by
              show own_Go p e below G (T63.setTop (mkF m 464 #[.val (.int p0), .val (.int p1), .val (.long q2), .second, .val (.long q3), .second, .val (.int n6), .val (.int at7), .val (.ref b53), .val (.ref b58), .val (.ref b60), .val (.int (((at7 + (1 : Int32)) + (1 : Int32)) + n6)), .val (.int (1 : Int32)), .val (.int (1 : Int32)), .val (.int ((at7 + (1 : Int32)) + (1 : Int32)))] []))
              refine own_st (fun zw zk => XS.iload X63.here hx rfl (hb hby at_464) rfl zk) ?_
              refine own_st (fun zw zk => XS.ifNo X63.here hx rfl (hb hby at_466) rfl ((if0 _ _).trans (feq (by decide : ¬ ((1 : Int32) = (0 : Int32)))).1) zk) ?_
              refine own_st (fun zw zk => XS.aload X63.here hx rfl (hb hby at_469) rfl rfl zk) ?_
              refine own_st (fun zw zk => XS.iload X63.here hx rfl (hb hby at_471) rfl zk) ?_
              refine own_st (fun zw zk => XS.iload X63.here hx rfl (hb hby at_473) rfl zk) ?_
              refine own_st (fun zw zk => XS.iadd X63.here hx rfl (hb hby at_475) rfl zk) ?_
              refine own_st (fun zw zk => own_bld X63 hx hZ e63 O61_0 (j := (((at7 + (1 : Int32)) + (1 : Int32)) + n6)) (v := (.int (0 : Int32))) (i := na + 2 + nn) (own_nn (own_plus hbase hnn (by omega))) (own_nat (own_plus hbase hnn (by omega))) P61_4 (g := (mkF m 476 #[.val (.int p0), .val (.int p1), .val (.long q2), .second, .val (.long q3), .second, .val (.int n6), .val (.int at7), .val (.ref b53), .val (.ref b58), .val (.ref b60), .val (.int (((at7 + (1 : Int32)) + (1 : Int32)) + n6)), .val (.int (1 : Int32)), .val (.int (1 : Int32)), .val (.int ((at7 + (1 : Int32)) + (1 : Int32)))] [(.int (((at7 + (1 : Int32)) + (1 : Int32)) + n6)), (.ref b60)])) rfl rfl (hb hby at_476) _ zk) ?_
              refine own_st (fun zw zk => XS.ifNo X63.here hx rfl (hb hby at_477) rfl ((if0 _ _).trans (teq (by decide : (0 : Int32) = (0 : Int32))).2) zk) ?_
              show own_Go p e below G (T63.setTop (mkF m 480 #[.val (.int p0), .val (.int p1), .val (.long q2), .second, .val (.long q3), .second, .val (.int n6), .val (.int at7), .val (.ref b53), .val (.ref b58), .val (.ref b60), .val (.int (((at7 + (1 : Int32)) + (1 : Int32)) + n6)), .val (.int (1 : Int32)), .val (.int (1 : Int32)), .val (.int ((at7 + (1 : Int32)) + (1 : Int32)))] []))
              refine own_st (fun zw zk => XS.iconst X63.here hx rfl (hb hby at_480) zk) ?_
              refine own_st (fun zw zk => XS.goto X63.here hx rfl (pc0 := 481) (pc' := 485) rfl (hb hby at_481) (by decide) (by decide) zk) ?_
              show own_Go p e below G (T63.setTop (mkF m 485 #[.val (.int p0), .val (.int p1), .val (.long q2), .second, .val (.long q3), .second, .val (.int n6), .val (.int at7), .val (.ref b53), .val (.ref b58), .val (.ref b60), .val (.int (((at7 + (1 : Int32)) + (1 : Int32)) + n6)), .val (.int (1 : Int32)), .val (.int (1 : Int32)), .val (.int ((at7 + (1 : Int32)) + (1 : Int32)))] [(.int (1 : Int32))]))
              refine own_st (fun zw zk => XS.istore X63.here hx rfl (hb hby at_485) rfl rfl zk) ?_
              have J514_66 : own_Go p e below G (T63.setTop (mkF m 514 #[.val (.int p0), .val (.int p1), .val (.long q2), .second, .val (.long q3), .second, .val (.int n6), .val (.int at7), .val (.ref b53), .val (.ref b58), .val (.ref b60), .val (.int (((at7 + (1 : Int32)) + (1 : Int32)) + n6)), .val (.int (1 : Int32)), .val (.int (1 : Int32)), .val (.int ((at7 + (1 : Int32)) + (1 : Int32)))] [])) := by
                show own_Go p e below G (T63.setTop (mkF m 514 #[.val (.int p0), .val (.int p1), .val (.long q2), .second, .val (.long q3), .second, .val (.int n6), .val (.int at7), .val (.ref b53), .val (.ref b58), .val (.ref b60), .val (.int (((at7 + (1 : Int32)) + (1 : Int32)) + n6)), .val (.int (1 : Int32)), .val (.int (1 : Int32)), .val (.int ((at7 + (1 : Int32)) + (1 : Int32)))] []))
                refine own_st (fun zw zk => XS.iload X63.here hx rfl (hb hby at_514) rfl zk) ?_
                subst hG
                obtain ⟨fs, hr, hrun, hended, hW, hsame⟩ := X63.leave (v := some (.int (1 : Int32))) (hlocks := Bd.notSynchronized) (fun h => by rw [Bd.returns] at h; cases h)
                refine ⟨_, retN X63 hx (t := .boolean) Bd.returns (by simp) (hb hby at_516) hr, _, hrun, hended, _, _, rfl, ?_, ⟨_, rfl⟩, hW, hsame.mono (by decide) (by decide)⟩
                show Q0 Z p0 p1 q2 q3 h0 n0 _ T63.heap _
                rw [e63]
                exact ⟨rfl, N63⟩
              show own_Go p e below G (T63.setTop (mkF m 487 #[.val (.int p0), .val (.int p1), .val (.long q2), .second, .val (.long q3), .second, .val (.int n6), .val (.int at7), .val (.ref b53), .val (.ref b58), .val (.ref b60), .val (.int (((at7 + (1 : Int32)) + (1 : Int32)) + n6)), .val (.int (1 : Int32)), .val (.int (1 : Int32)), .val (.int ((at7 + (1 : Int32)) + (1 : Int32)))] []))
              refine own_st (fun zw zk => XS.iload X63.here hx rfl (hb hby at_487) rfl zk) ?_
              by_cases hc489 : (0 : Int32) < at7
              · refine own_st (fun zw zk => XS.ifNo X63.here hx rfl (hb hby at_489) rfl ((if0 _ _).trans (tlt hc489).2.2.2) zk) ?_
                refine own_st (fun zw zk => XS.iload X63.here hx rfl (hb hby at_492) rfl zk) ?_
                refine own_st (fun zw zk => XS.ifNo X63.here hx rfl (hb hby at_494) rfl ((if0 _ _).trans (feq (by decide : ¬ ((1 : Int32) = (0 : Int32)))).1) zk) ?_
                refine own_st (fun zw zk => XS.aload X63.here hx rfl (hb hby at_497) rfl rfl zk) ?_
                refine own_st (fun zw zk => XS.iload X63.here hx rfl (hb hby at_499) rfl zk) ?_
                refine own_st (fun zw zk => XS.iconst X63.here hx rfl (hb hby at_501) zk) ?_
                refine own_st (fun zw zk => XS.isub X63.here hx rfl (hb hby at_502) rfl zk) ?_
                show own_Go p e below G (T63.setTop (mkF m 503 #[.val (.int p0), .val (.int p1), .val (.long q2), .second, .val (.long q3), .second, .val (.int n6), .val (.int at7), .val (.ref b53), .val (.ref b58), .val (.ref b60), .val (.int (((at7 + (1 : Int32)) + (1 : Int32)) + n6)), .val (.int (1 : Int32)), .val (.int (1 : Int32)), .val (.int ((at7 + (1 : Int32)) + (1 : Int32)))] [(.int (at7 - (1 : Int32))), (.ref b60)]))
                refine own_st (fun zw zk => own_bld X63 hx hZ e63 O61_0 (j := (at7 - (1 : Int32))) (v := (.int (0 : Int32))) (i := na - 1) (own_nn (own_dec (n := na - 1) (by have := own_posn hat hc489; omega))) (own_nat (own_dec (n := na - 1) (by have := own_posn hat hc489; omega))) (P61_5 (own_posn hat hc489)) (g := (mkF m 503 #[.val (.int p0), .val (.int p1), .val (.long q2), .second, .val (.long q3), .second, .val (.int n6), .val (.int at7), .val (.ref b53), .val (.ref b58), .val (.ref b60), .val (.int (((at7 + (1 : Int32)) + (1 : Int32)) + n6)), .val (.int (1 : Int32)), .val (.int (1 : Int32)), .val (.int ((at7 + (1 : Int32)) + (1 : Int32)))] [(.int (at7 - (1 : Int32))), (.ref b60)])) rfl rfl (hb hby at_503) _ zk) ?_
                refine own_st (fun zw zk => XS.ifNo X63.here hx rfl (hb hby at_504) rfl ((if0 _ _).trans (teq (by decide : (0 : Int32) = (0 : Int32))).2) zk) ?_
                refine own_st (fun zw zk => XS.iconst X63.here hx rfl (hb hby at_507) zk) ?_
                refine own_st (fun zw zk => XS.goto X63.here hx rfl (pc0 := 508) (pc' := 512) rfl (hb hby at_508) (by decide) (by decide) zk) ?_
                show own_Go p e below G (T63.setTop (mkF m 512 #[.val (.int p0), .val (.int p1), .val (.long q2), .second, .val (.long q3), .second, .val (.int n6), .val (.int at7), .val (.ref b53), .val (.ref b58), .val (.ref b60), .val (.int (((at7 + (1 : Int32)) + (1 : Int32)) + n6)), .val (.int (1 : Int32)), .val (.int (1 : Int32)), .val (.int ((at7 + (1 : Int32)) + (1 : Int32)))] [(.int (1 : Int32))]))
                refine own_st (fun zw zk => XS.istore X63.here hx rfl (hb hby at_512) rfl rfl zk) ?_
                show own_Go p e below G (T63.setTop (mkF m 514 #[.val (.int p0), .val (.int p1), .val (.long q2), .second, .val (.long q3), .second, .val (.int n6), .val (.int at7), .val (.ref b53), .val (.ref b58), .val (.ref b60), .val (.int (((at7 + (1 : Int32)) + (1 : Int32)) + n6)), .val (.int (1 : Int32)), .val (.int (1 : Int32)), .val (.int ((at7 + (1 : Int32)) + (1 : Int32)))] []))
                exact J514_66
              · refine own_st (fun zw zk => XS.ifYes X63.here hx rfl (pc0 := 489) (pc' := 514) rfl (hb hby at_489) rfl ((if0 _ _).trans (flt hc489).2.2.2) (by decide) (by decide) zk) ?_
                show own_Go p e below G (T63.setTop (mkF m 514 #[.val (.int p0), .val (.int p1), .val (.long q2), .second, .val (.long q3), .second, .val (.int n6), .val (.int at7), .val (.ref b53), .val (.ref b58), .val (.ref b60), .val (.int (((at7 + (1 : Int32)) + (1 : Int32)) + n6)), .val (.int (1 : Int32)), .val (.int (1 : Int32)), .val (.int ((at7 + (1 : Int32)) + (1 : Int32)))] []))
                exact J514_66
            show own_Go p e below G (T63.setTop (mkF m 426 #[.val (.int p0), .val (.int p1), .val (.long q2), .second, .val (.long q3), .second, .val (.int n6), .val (.int at7), .val (.ref b53), .val (.ref b58), .val (.ref b60), .val (.int (((at7 + (1 : Int32)) + (1 : Int32)) + n6)), .val (.int (1 : Int32)), .val (.int (1 : Int32)), .val (.int ((at7 + (1 : Int32)) + (1 : Int32)))] []))
            refine own_st (fun zw zk => XS.iload X63.here hx rfl (hb hby at_426) rfl zk) ?_
            refine own_st (fun zw zk => XS.iconst X63.here hx rfl (hb hby at_428) zk) ?_
            by_cases hc429 : (2 : Int32) < n6
            · refine own_st (fun zw zk => XS.icmpNo X63.here hx rfl (hb hby at_429) rfl (tlt hc429).2.2.2 zk) ?_
              refine own_st (fun zw zk => XS.iload X63.here hx rfl (hb hby at_432) rfl zk) ?_
              refine own_st (fun zw zk => XS.ifNo X63.here hx rfl (hb hby at_434) rfl ((if0 _ _).trans (feq (by decide : ¬ ((1 : Int32) = (0 : Int32)))).1) zk) ?_
              refine own_st (fun zw zk => XS.aload X63.here hx rfl (hb hby at_437) rfl rfl zk) ?_
              refine own_st (fun zw zk => XS.iload X63.here hx rfl (hb hby at_439) rfl zk) ?_
              refine own_st (fun zw zk => XS.iload X63.here hx rfl (hb hby at_441) rfl zk) ?_
              show own_Go p e below G (T63.setTop (mkF m 443 #[.val (.int p0), .val (.int p1), .val (.long q2), .second, .val (.long q3), .second, .val (.int n6), .val (.int at7), .val (.ref b53), .val (.ref b58), .val (.ref b60), .val (.int (((at7 + (1 : Int32)) + (1 : Int32)) + n6)), .val (.int (1 : Int32)), .val (.int (1 : Int32)), .val (.int ((at7 + (1 : Int32)) + (1 : Int32)))] [(.int n6), (.int ((at7 + (1 : Int32)) + (1 : Int32))), (.ref b60)]))
              refine own_st (fun zw zk => XS.iconst X63.here hx rfl (hb hby at_443) zk) ?_
              refine own_st (fun zw zk => XS.idiv X63.here hx rfl (hb hby at_444) rfl (by decide) zk) ?_
              refine own_st (fun zw zk => XS.iadd X63.here hx rfl (hb hby at_445) rfl zk) ?_
              obtain ⟨z, hz⟩ := own_isint (vs := vt) (k := nn / 2) (by rw [hlen]; have := own_pos2 hnn hc429; omega) hfit
              refine own_st (fun zw zk => own_bld X63 hx hZ e63 O61_0 (j := (((at7 + (1 : Int32)) + (1 : Int32)) + (n6 / (2 : Int32)))) (v := (.int z)) (i := na + 2 + (nn / 2)) (own_nn (own_plus hbase (own_halfn hnn) (by omega))) (own_nat (own_plus hbase (own_halfn hnn) (by omega))) ((P61_3 (nn / 2) (by have := own_pos2 hnn hc429; omega)).trans hz) (g := (mkF m 446 #[.val (.int p0), .val (.int p1), .val (.long q2), .second, .val (.long q3), .second, .val (.int n6), .val (.int at7), .val (.ref b53), .val (.ref b58), .val (.ref b60), .val (.int (((at7 + (1 : Int32)) + (1 : Int32)) + n6)), .val (.int (1 : Int32)), .val (.int (1 : Int32)), .val (.int ((at7 + (1 : Int32)) + (1 : Int32)))] [(.int (((at7 + (1 : Int32)) + (1 : Int32)) + (n6 / (2 : Int32)))), (.ref b60)])) rfl rfl (hb hby at_446) _ zk) ?_
              refine own_st (fun zw zk => XS.aload X63.here hx rfl (hb hby at_447) rfl rfl zk) ?_
              refine own_st (fun zw zk => XS.iload X63.here hx rfl (hb hby at_449) rfl zk) ?_
              refine own_st (fun zw zk => XS.iconst X63.here hx rfl (hb hby at_451) zk) ?_
              refine own_st (fun zw zk => XS.idiv X63.here hx rfl (hb hby at_452) rfl (by decide) zk) ?_
              show own_Go p e below G (T63.setTop (mkF m 453 #[.val (.int p0), .val (.int p1), .val (.long q2), .second, .val (.long q3), .second, .val (.int n6), .val (.int at7), .val (.ref b53), .val (.ref b58), .val (.ref b60), .val (.int (((at7 + (1 : Int32)) + (1 : Int32)) + n6)), .val (.int (1 : Int32)), .val (.int (1 : Int32)), .val (.int ((at7 + (1 : Int32)) + (1 : Int32)))] [(.int (n6 / (2 : Int32))), (.ref b53), (.int z)]))
              refine own_st (fun zw zk => own_bld X63 hx hZ e63 Fj570_61 (j := (n6 / (2 : Int32))) (v := (.int z)) (i := nn / 2) (own_nn (own_halfn hnn)) (own_nat (own_halfn hnn)) hz (g := (mkF m 453 #[.val (.int p0), .val (.int p1), .val (.long q2), .second, .val (.long q3), .second, .val (.int n6), .val (.int at7), .val (.ref b53), .val (.ref b58), .val (.ref b60), .val (.int (((at7 + (1 : Int32)) + (1 : Int32)) + n6)), .val (.int (1 : Int32)), .val (.int (1 : Int32)), .val (.int ((at7 + (1 : Int32)) + (1 : Int32)))] [(.int (n6 / (2 : Int32))), (.ref b53), (.int z)])) rfl rfl (hb hby at_453) _ zk) ?_
              refine own_st (fun zw zk => XS.icmpNo X63.here hx rfl (hb hby at_454) rfl (teq (rfl : z = z)).2 zk) ?_
              refine own_st (fun zw zk => XS.iconst X63.here hx rfl (hb hby at_457) zk) ?_
              refine own_st (fun zw zk => XS.goto X63.here hx rfl (pc0 := 458) (pc' := 462) rfl (hb hby at_458) (by decide) (by decide) zk) ?_
              show own_Go p e below G (T63.setTop (mkF m 462 #[.val (.int p0), .val (.int p1), .val (.long q2), .second, .val (.long q3), .second, .val (.int n6), .val (.int at7), .val (.ref b53), .val (.ref b58), .val (.ref b60), .val (.int (((at7 + (1 : Int32)) + (1 : Int32)) + n6)), .val (.int (1 : Int32)), .val (.int (1 : Int32)), .val (.int ((at7 + (1 : Int32)) + (1 : Int32)))] [(.int (1 : Int32))]))
              refine own_st (fun zw zk => XS.istore X63.here hx rfl (hb hby at_462) rfl rfl zk) ?_
              show own_Go p e below G (T63.setTop (mkF m 464 #[.val (.int p0), .val (.int p1), .val (.long q2), .second, .val (.long q3), .second, .val (.int n6), .val (.int at7), .val (.ref b53), .val (.ref b58), .val (.ref b60), .val (.int (((at7 + (1 : Int32)) + (1 : Int32)) + n6)), .val (.int (1 : Int32)), .val (.int (1 : Int32)), .val (.int ((at7 + (1 : Int32)) + (1 : Int32)))] []))
              exact J464_65
            · refine own_st (fun zw zk => XS.icmpYes X63.here hx rfl (pc0 := 429) (pc' := 464) rfl (hb hby at_429) rfl (flt hc429).2.2.2 (by decide) (by decide) zk) ?_
              show own_Go p e below G (T63.setTop (mkF m 464 #[.val (.int p0), .val (.int p1), .val (.long q2), .second, .val (.long q3), .second, .val (.int n6), .val (.int at7), .val (.ref b53), .val (.ref b58), .val (.ref b60), .val (.int (((at7 + (1 : Int32)) + (1 : Int32)) + n6)), .val (.int (1 : Int32)), .val (.int (1 : Int32)), .val (.int ((at7 + (1 : Int32)) + (1 : Int32)))] []))
              exact J464_65
          show own_Go p e below G (T63.setTop (mkF m 389 #[.val (.int p0), .val (.int p1), .val (.long q2), .second, .val (.long q3), .second, .val (.int n6), .val (.int at7), .val (.ref b53), .val (.ref b58), .val (.ref b60), .val (.int (((at7 + (1 : Int32)) + (1 : Int32)) + n6)), .val (.int (1 : Int32)), .val (.int (1 : Int32)), .val (.int ((at7 + (1 : Int32)) + (1 : Int32)))] []))
          refine own_st (fun zw zk => XS.iload X63.here hx rfl (hb hby at_389) rfl zk) ?_
          by_cases hc391 : (0 : Int32) < n6
          · refine own_st (fun zw zk => XS.ifNo X63.here hx rfl (hb hby at_391) rfl ((if0 _ _).trans (tlt hc391).2.2.2) zk) ?_
            refine own_st (fun zw zk => XS.iload X63.here hx rfl (hb hby at_394) rfl zk) ?_
            refine own_st (fun zw zk => XS.ifNo X63.here hx rfl (hb hby at_396) rfl ((if0 _ _).trans (feq (by decide : ¬ ((1 : Int32) = (0 : Int32)))).1) zk) ?_
            refine own_st (fun zw zk => XS.aload X63.here hx rfl (hb hby at_399) rfl rfl zk) ?_
            refine own_st (fun zw zk => XS.iload X63.here hx rfl (hb hby at_401) rfl zk) ?_
            refine own_st (fun zw zk => XS.iload X63.here hx rfl (hb hby at_403) rfl zk) ?_
            refine own_st (fun zw zk => XS.iadd X63.here hx rfl (hb hby at_405) rfl zk) ?_
            show own_Go p e below G (T63.setTop (mkF m 406 #[.val (.int p0), .val (.int p1), .val (.long q2), .second, .val (.long q3), .second, .val (.int n6), .val (.int at7), .val (.ref b53), .val (.ref b58), .val (.ref b60), .val (.int (((at7 + (1 : Int32)) + (1 : Int32)) + n6)), .val (.int (1 : Int32)), .val (.int (1 : Int32)), .val (.int ((at7 + (1 : Int32)) + (1 : Int32)))] [(.int (((at7 + (1 : Int32)) + (1 : Int32)) + n6)), (.ref b60)]))
            refine own_st (fun zw zk => XS.iconst X63.here hx rfl (hb hby at_406) zk) ?_
            refine own_st (fun zw zk => XS.isub X63.here hx rfl (hb hby at_407) rfl zk) ?_
            obtain ⟨z, hz⟩ := own_isint (vs := vt) (k := nn - 1) (by rw [hlen]; have := own_posn hnn hc391; omega) hfit
            refine own_st (fun zw zk => own_bld X63 hx hZ e63 O61_0 (j := ((((at7 + (1 : Int32)) + (1 : Int32)) + n6) - (1 : Int32))) (v := (.int z)) (i := na + 2 + (nn - 1)) (own_nn (own_dec (n := na + 2 + (nn - 1)) (by have q := own_plus hbase hnn (by omega); have := own_posn hnn hc391; omega))) (own_nat (own_dec (n := na + 2 + (nn - 1)) (by have q := own_plus hbase hnn (by omega); have := own_posn hnn hc391; omega))) ((P61_3 (nn - 1) (by have := own_posn hnn hc391; omega)).trans hz) (g := (mkF m 408 #[.val (.int p0), .val (.int p1), .val (.long q2), .second, .val (.long q3), .second, .val (.int n6), .val (.int at7), .val (.ref b53), .val (.ref b58), .val (.ref b60), .val (.int (((at7 + (1 : Int32)) + (1 : Int32)) + n6)), .val (.int (1 : Int32)), .val (.int (1 : Int32)), .val (.int ((at7 + (1 : Int32)) + (1 : Int32)))] [(.int ((((at7 + (1 : Int32)) + (1 : Int32)) + n6) - (1 : Int32))), (.ref b60)])) rfl rfl (hb hby at_408) _ zk) ?_
            refine own_st (fun zw zk => XS.aload X63.here hx rfl (hb hby at_409) rfl rfl zk) ?_
            refine own_st (fun zw zk => XS.iload X63.here hx rfl (hb hby at_411) rfl zk) ?_
            refine own_st (fun zw zk => XS.iconst X63.here hx rfl (hb hby at_413) zk) ?_
            refine own_st (fun zw zk => XS.isub X63.here hx rfl (hb hby at_414) rfl zk) ?_
            refine own_st (fun zw zk => own_bld X63 hx hZ e63 Fj570_61 (j := (n6 - (1 : Int32))) (v := (.int z)) (i := nn - 1) (own_nn (own_dec (n := nn - 1) (by have := own_posn hnn hc391; omega))) (own_nat (own_dec (n := nn - 1) (by have := own_posn hnn hc391; omega))) hz (g := (mkF m 415 #[.val (.int p0), .val (.int p1), .val (.long q2), .second, .val (.long q3), .second, .val (.int n6), .val (.int at7), .val (.ref b53), .val (.ref b58), .val (.ref b60), .val (.int (((at7 + (1 : Int32)) + (1 : Int32)) + n6)), .val (.int (1 : Int32)), .val (.int (1 : Int32)), .val (.int ((at7 + (1 : Int32)) + (1 : Int32)))] [(.int (n6 - (1 : Int32))), (.ref b53), (.int z)])) rfl rfl (hb hby at_415) _ zk) ?_
            show own_Go p e below G (T63.setTop (mkF m 416 #[.val (.int p0), .val (.int p1), .val (.long q2), .second, .val (.long q3), .second, .val (.int n6), .val (.int at7), .val (.ref b53), .val (.ref b58), .val (.ref b60), .val (.int (((at7 + (1 : Int32)) + (1 : Int32)) + n6)), .val (.int (1 : Int32)), .val (.int (1 : Int32)), .val (.int ((at7 + (1 : Int32)) + (1 : Int32)))] [(.int z), (.int z)]))
            refine own_st (fun zw zk => XS.icmpNo X63.here hx rfl (hb hby at_416) rfl (teq (rfl : z = z)).2 zk) ?_
            refine own_st (fun zw zk => XS.iconst X63.here hx rfl (hb hby at_419) zk) ?_
            refine own_st (fun zw zk => XS.goto X63.here hx rfl (pc0 := 420) (pc' := 424) rfl (hb hby at_420) (by decide) (by decide) zk) ?_
            show own_Go p e below G (T63.setTop (mkF m 424 #[.val (.int p0), .val (.int p1), .val (.long q2), .second, .val (.long q3), .second, .val (.int n6), .val (.int at7), .val (.ref b53), .val (.ref b58), .val (.ref b60), .val (.int (((at7 + (1 : Int32)) + (1 : Int32)) + n6)), .val (.int (1 : Int32)), .val (.int (1 : Int32)), .val (.int ((at7 + (1 : Int32)) + (1 : Int32)))] [(.int (1 : Int32))]))
            refine own_st (fun zw zk => XS.istore X63.here hx rfl (hb hby at_424) rfl rfl zk) ?_
            show own_Go p e below G (T63.setTop (mkF m 426 #[.val (.int p0), .val (.int p1), .val (.long q2), .second, .val (.long q3), .second, .val (.int n6), .val (.int at7), .val (.ref b53), .val (.ref b58), .val (.ref b60), .val (.int (((at7 + (1 : Int32)) + (1 : Int32)) + n6)), .val (.int (1 : Int32)), .val (.int (1 : Int32)), .val (.int ((at7 + (1 : Int32)) + (1 : Int32)))] []))
            exact J426_64
          · refine own_st (fun zw zk => XS.ifYes X63.here hx rfl (pc0 := 391) (pc' := 426) rfl (hb hby at_391) rfl ((if0 _ _).trans (flt hc391).2.2.2) (by decide) (by decide) zk) ?_
            show own_Go p e below G (T63.setTop (mkF m 426 #[.val (.int p0), .val (.int p1), .val (.long q2), .second, .val (.long q3), .second, .val (.int n6), .val (.int at7), .val (.ref b53), .val (.ref b58), .val (.ref b60), .val (.int (((at7 + (1 : Int32)) + (1 : Int32)) + n6)), .val (.int (1 : Int32)), .val (.int (1 : Int32)), .val (.int ((at7 + (1 : Int32)) + (1 : Int32)))] []))
            exact J426_64
        · show own_Go p e below G (T60.setTop (mkF m 102 #[.val (.int p0), .val (.int p1), .val (.long q2), .second, .val (.long q3), .second, .val (.int n6), .val (.int at7), .val (.ref b53), .val (.ref b58), .val (.ref b60), .unset, .unset, .unset, .unset] []))
          refine own_st (fun zw zk => XS.aload X60.here hx rfl (hb hby at_102) rfl rfl zk) ?_
          refine own_st (fun zw zk => XS.aload X60.here hx rfl (hb hby at_104) rfl rfl zk) ?_
          refine own_st (fun zw zk => XS.iload X60.here hx rfl (hb hby at_106) rfl zk) ?_
          obtain ⟨cq67, kq67, q67a, q67b, q67c⟩ := isOf hZ e60 Ob58E_60
          obtain ⟨_, _, ⟨T67, L67, k67, n67⟩, -, X67, ⟨Lc67, hQ67, l67, y67, z67⟩, st67⟩ := X60.virtualBack hx (y := (⟨"com/example/portunus/portunus/Atom", "writeCanonical", "([BI)I"⟩ : MethodName)) (z := (⟨"com/example/portunus/portunus/Atom", "writeCanonical", "([BI)I"⟩ : MethodName)) hown (mvT hZ (hw _ (List.mem_of_getElem? (i := 28) rfl))) (mvT hZ (hw _ (List.mem_of_getElem? (i := 29) rfl))) (notFace_of_selects (args := #[]) (mvT hZ (hw _ (List.mem_of_getElem? (i := 31) rfl)))) (mvT hZ (hw _ (List.mem_of_getElem? (i := 31) rfl))) (mvT hZ (hw _ (List.mem_of_getElem? (i := 30) rfl))) (by decide) (backOf (W := 0) (rm_w2 l Z a0 hw [] b58 b60 at7 bb59 vt n6 nn na h60 n0 Z60 (Ob58bytes_60) (Obb59L_60) (V60) (G60) (ne_b58_b60) (ne_bb59_b60) (own_lenz hnn hlen) (hlen) (hnn) (hat) (hna) (hn105) (hfit) (k1) (k2)) hZ (hw _ (List.mem_of_getElem? (i := 32) rfl)) (hw _ (List.mem_of_getElem? (i := 10) rfl)) (by decide) (by decide)) q67a q67c (g := (mkF m 108 #[.val (.int p0), .val (.int p1), .val (.long q2), .second, .val (.long q3), .second, .val (.int n6), .val (.int at7), .val (.ref b53), .val (.ref b58), .val (.ref b60), .unset, .unset, .unset, .unset] [(.int at7), (.ref b60), (.ref b58)])) rfl (by rw [hml]; rfl) (Steps.refl _) (argsL := [(.ref b60), (.int at7)]) (rest := []) (lenOf pd_5 rfl) rfl (by show 2 * 0 + _ ≤ _; exact Nat.le_of_eq rfl) (hb hby at_108) (fun _ _ => ⟨rfl, e60, (by decide : 4 + 0 ≤ _), (by decide : 339 + 0 ≤ _)⟩)
          dsimp only [Pt.U, Pt.locs, Pt.cells, Pt.slots] at X67 l67 y67 z67 st67 hQ67
          subst l67 y67 z67
          obtain ⟨rfl, N67q, vo67, K67, O67_0, P67_0, P67_1, P67_2, P67_3, P67_4, P67_5, P67_6⟩ := hQ67
          have Fj570_67 := Fj570_60.keep K67 (ninS ne_b53_b60 nin0)
          have Fj571_67 := Fj571_60.keep K67
          have Ob58E_67 := Ob58E_60.keep K67
          have Ob58bytes_67 := Ob58bytes_60.keep K67 (ninS ne_b58_b60 nin0)
          have Obb59L_67 := Obb59L_60.keep K67 (ninS ne_bb59_b60 nin0)
          have Bb60_67 := B60.keep K67
          have Z67 : n0 ≤ T67.heap.size := Nat.le_trans Z60 K67.1
          have N67 := Fr.app N59 N67q
          refine own_jp st67 ?_
          refine own_st (fun zw zk => XS.istore X67.here hx rfl (hb hby at_111) rfl rfl zk) ?_
          show own_Go p e below G (T67.setTop (mkF m 113 #[.val (.int p0), .val (.int p1), .val (.long q2), .second, .val (.long q3), .second, .val (.int n6), .val (.int at7), .val (.ref b53), .val (.ref b58), .val (.ref b60), .val (.int (((at7 + (2 : Int32)) + (1 : Int32)) + n6)), .unset, .unset, .unset] []))
          refine own_st (fun zw zk => XS.iload X67.here hx rfl (hb hby at_113) rfl zk) ?_
          refine own_st (fun zw zk => XS.bipush X67.here hx rfl (hb hby at_115) zk) ?_
          refine own_st (fun zw zk => XS.icmpYes X67.here hx rfl (pc0 := 117) (pc' := 124) rfl (hb hby at_117) rfl (flt c1).2.1 (by decide) (by decide) zk) ?_
          refine own_st (fun zw zk => XS.iload X67.here hx rfl (hb hby at_124) rfl zk) ?_
          refine own_st (fun zw zk => XS.bipush X67.here hx rfl (hb hby at_126) zk) ?_
          refine own_st (fun zw zk => XS.icmpNo X67.here hx rfl (hb hby at_128) rfl (tlt c2).2.1 zk) ?_
          refine own_st (fun zw zk => XS.iconst X67.here hx rfl (hb hby at_131) zk) ?_
          refine own_st (fun zw zk => XS.goto X67.here hx rfl (pc0 := 132) (pc' := 136) rfl (hb hby at_132) (by decide) (by decide) zk) ?_
          show own_Go p e below G (T67.setTop (mkF m 136 #[.val (.int p0), .val (.int p1), .val (.long q2), .second, .val (.long q3), .second, .val (.int n6), .val (.int at7), .val (.ref b53), .val (.ref b58), .val (.ref b60), .val (.int (((at7 + (2 : Int32)) + (1 : Int32)) + n6)), .unset, .unset, .unset] [(.int (2 : Int32))]))
          refine own_st (fun zw zk => XS.istore X67.here hx rfl (hb hby at_136) rfl rfl zk) ?_
          show own_Go p e below G (T67.setTop (mkF m 138 #[.val (.int p0), .val (.int p1), .val (.long q2), .second, .val (.long q3), .second, .val (.int n6), .val (.int at7), .val (.ref b53), .val (.ref b58), .val (.ref b60), .val (.int (((at7 + (2 : Int32)) + (1 : Int32)) + n6)), .val (.int (2 : Int32)), .unset, .unset] []))
          refine own_st (fun zw zk => XS.iload X67.here hx rfl (hb hby at_138) rfl zk) ?_
          refine own_st (fun zw zk => XS.iload X67.here hx rfl (hb hby at_140) rfl zk) ?_
          refine own_st (fun zw zk => XS.iload X67.here hx rfl (hb hby at_142) rfl zk) ?_
          refine own_st (fun zw zk => XS.iadd X67.here hx rfl (hb hby at_144) rfl zk) ?_
          refine own_st (fun zw zk => XS.iconst X67.here hx rfl (hb hby at_145) zk) ?_
          refine own_st (fun zw zk => XS.iadd X67.here hx rfl (hb hby at_146) rfl zk) ?_
          refine own_st (fun zw zk => XS.iload X67.here hx rfl (hb hby at_147) rfl zk) ?_
          refine own_st (fun zw zk => XS.iadd X67.here hx rfl (hb hby at_149) rfl zk) ?_
          show own_Go p e below G (T67.setTop (mkF m 150 #[.val (.int p0), .val (.int p1), .val (.long q2), .second, .val (.long q3), .second, .val (.int n6), .val (.int at7), .val (.ref b53), .val (.ref b58), .val (.ref b60), .val (.int (((at7 + (2 : Int32)) + (1 : Int32)) + n6)), .val (.int (2 : Int32)), .unset, .unset] [(.int (((at7 + (2 : Int32)) + (1 : Int32)) + n6)), (.int (((at7 + (2 : Int32)) + (1 : Int32)) + n6))]))
          refine own_st (fun zw zk => XS.icmpNo X67.here hx rfl (hb hby at_150) rfl (teq (rfl : (((at7 + (2 : Int32)) + (1 : Int32)) + n6) = (((at7 + (2 : Int32)) + (1 : Int32)) + n6))).2 zk) ?_
          refine own_st (fun zw zk => XS.iconst X67.here hx rfl (hb hby at_153) zk) ?_
          refine own_st (fun zw zk => XS.goto X67.here hx rfl (pc0 := 154) (pc' := 158) rfl (hb hby at_154) (by decide) (by decide) zk) ?_
          show own_Go p e below G (T67.setTop (mkF m 158 #[.val (.int p0), .val (.int p1), .val (.long q2), .second, .val (.long q3), .second, .val (.int n6), .val (.int at7), .val (.ref b53), .val (.ref b58), .val (.ref b60), .val (.int (((at7 + (2 : Int32)) + (1 : Int32)) + n6)), .val (.int (2 : Int32)), .unset, .unset] [(.int (1 : Int32))]))
          refine own_st (fun zw zk => XS.istore X67.here hx rfl (hb hby at_158) rfl rfl zk) ?_
          show own_Go p e below G (T67.setTop (mkF m 160 #[.val (.int p0), .val (.int p1), .val (.long q2), .second, .val (.long q3), .second, .val (.int n6), .val (.int at7), .val (.ref b53), .val (.ref b58), .val (.ref b60), .val (.int (((at7 + (2 : Int32)) + (1 : Int32)) + n6)), .val (.int (2 : Int32)), .val (.int (1 : Int32)), .unset] []))
          refine own_st (fun zw zk => XS.iload X67.here hx rfl (hb hby at_160) rfl zk) ?_
          refine own_st (fun zw zk => XS.iconst X67.here hx rfl (hb hby at_162) zk) ?_
          refine own_st (fun zw zk => XS.icmpYes X67.here hx rfl (pc0 := 163) (pc' := 194) rfl (hb hby at_163) rfl (feq (by decide : ¬ ((2 : Int32) = (1 : Int32)))).2 (by decide) (by decide) zk) ?_
          refine own_st (fun zw zk => XS.iload X67.here hx rfl (hb hby at_194) rfl zk) ?_
          refine own_st (fun zw zk => XS.iconst X67.here hx rfl (hb hby at_196) zk) ?_
          refine own_st (fun zw zk => XS.icmpNo X67.here hx rfl (hb hby at_197) rfl (teq (by decide : (2 : Int32) = (2 : Int32))).2 zk) ?_
          refine own_st (fun zw zk => XS.iload X67.here hx rfl (hb hby at_200) rfl zk) ?_
          refine own_st (fun zw zk => XS.ifNo X67.here hx rfl (hb hby at_202) rfl ((if0 _ _).trans (feq (by decide : ¬ ((1 : Int32) = (0 : Int32)))).1) zk) ?_
          show own_Go p e below G (T67.setTop (mkF m 205 #[.val (.int p0), .val (.int p1), .val (.long q2), .second, .val (.long q3), .second, .val (.int n6), .val (.int at7), .val (.ref b53), .val (.ref b58), .val (.ref b60), .val (.int (((at7 + (2 : Int32)) + (1 : Int32)) + n6)), .val (.int (2 : Int32)), .val (.int (1 : Int32)), .unset] []))
          refine own_st (fun zw zk => XS.aload X67.here hx rfl (hb hby at_205) rfl rfl zk) ?_
          refine own_st (fun zw zk => XS.iload X67.here hx rfl (hb hby at_207) rfl zk) ?_
          refine own_st (fun zw zk => own_bld X67 hx hZ rfl O67_0 (j := at7) (v := (.int ((48 : Int32) + (n6 / (10 : Int32))))) (i := na + 0) (own_nn hat) (own_nat (n := na + 0) hat) P67_1 (g := (mkF m 209 #[.val (.int p0), .val (.int p1), .val (.long q2), .second, .val (.long q3), .second, .val (.int n6), .val (.int at7), .val (.ref b53), .val (.ref b58), .val (.ref b60), .val (.int (((at7 + (2 : Int32)) + (1 : Int32)) + n6)), .val (.int (2 : Int32)), .val (.int (1 : Int32)), .unset] [(.int at7), (.ref b60)])) rfl rfl (hb hby at_209) _ zk) ?_
          refine own_st (fun zw zk => XS.bipush X67.here hx rfl (hb hby at_210) zk) ?_
          refine own_st (fun zw zk => XS.iload X67.here hx rfl (hb hby at_212) rfl zk) ?_
          refine own_st (fun zw zk => XS.bipush X67.here hx rfl (hb hby at_214) zk) ?_
          refine own_st (fun zw zk => XS.idiv X67.here hx rfl (hb hby at_216) rfl (by decide) zk) ?_
          refine own_st (fun zw zk => XS.iadd X67.here hx rfl (hb hby at_217) rfl zk) ?_
          show own_Go p e below G (T67.setTop (mkF m 218 #[.val (.int p0), .val (.int p1), .val (.long q2), .second, .val (.long q3), .second, .val (.int n6), .val (.int at7), .val (.ref b53), .val (.ref b58), .val (.ref b60), .val (.int (((at7 + (2 : Int32)) + (1 : Int32)) + n6)), .val (.int (2 : Int32)), .val (.int (1 : Int32)), .unset] [(.int ((48 : Int32) + (n6 / (10 : Int32)))), (.int ((48 : Int32) + (n6 / (10 : Int32))))]))
          refine own_st (fun zw zk => XS.icmpNo X67.here hx rfl (hb hby at_218) rfl (teq (rfl : ((48 : Int32) + (n6 / (10 : Int32))) = ((48 : Int32) + (n6 / (10 : Int32))))).2 zk) ?_
          refine own_st (fun zw zk => XS.aload X67.here hx rfl (hb hby at_221) rfl rfl zk) ?_
          refine own_st (fun zw zk => XS.iload X67.here hx rfl (hb hby at_223) rfl zk) ?_
          refine own_st (fun zw zk => XS.iconst X67.here hx rfl (hb hby at_225) zk) ?_
          refine own_st (fun zw zk => XS.iadd X67.here hx rfl (hb hby at_226) rfl zk) ?_
          refine own_st (fun zw zk => own_bld X67 hx hZ rfl O67_0 (j := (at7 + (1 : Int32))) (v := (.int ((48 : Int32) + (n6 % (10 : Int32))))) (i := na + 1) (own_nn (own_plus hat (by decide : ((1 : Int32)).toInt = (1 : Nat)) (by omega))) (own_nat (n := na + 1) (own_plus hat (by decide : ((1 : Int32)).toInt = (1 : Nat)) (by omega))) P67_2 (g := (mkF m 227 #[.val (.int p0), .val (.int p1), .val (.long q2), .second, .val (.long q3), .second, .val (.int n6), .val (.int at7), .val (.ref b53), .val (.ref b58), .val (.ref b60), .val (.int (((at7 + (2 : Int32)) + (1 : Int32)) + n6)), .val (.int (2 : Int32)), .val (.int (1 : Int32)), .unset] [(.int (at7 + (1 : Int32))), (.ref b60)])) rfl rfl (hb hby at_227) _ zk) ?_
          refine own_st (fun zw zk => XS.bipush X67.here hx rfl (hb hby at_228) zk) ?_
          refine own_st (fun zw zk => XS.iload X67.here hx rfl (hb hby at_230) rfl zk) ?_
          show own_Go p e below G (T67.setTop (mkF m 232 #[.val (.int p0), .val (.int p1), .val (.long q2), .second, .val (.long q3), .second, .val (.int n6), .val (.int at7), .val (.ref b53), .val (.ref b58), .val (.ref b60), .val (.int (((at7 + (2 : Int32)) + (1 : Int32)) + n6)), .val (.int (2 : Int32)), .val (.int (1 : Int32)), .unset] [(.int n6), (.int (48 : Int32)), (.int ((48 : Int32) + (n6 % (10 : Int32))))]))
          refine own_st (fun zw zk => XS.bipush X67.here hx rfl (hb hby at_232) zk) ?_
          refine own_st (fun zw zk => iremM X67 hx rfl (hb hby at_234) rfl (by decide) zk) ?_
          refine own_st (fun zw zk => XS.iadd X67.here hx rfl (hb hby at_235) rfl zk) ?_
          refine own_st (fun zw zk => XS.icmpNo X67.here hx rfl (hb hby at_236) rfl (teq (rfl : ((48 : Int32) + (n6 % (10 : Int32))) = ((48 : Int32) + (n6 % (10 : Int32))))).2 zk) ?_
          refine own_st (fun zw zk => XS.iconst X67.here hx rfl (hb hby at_239) zk) ?_
          refine own_st (fun zw zk => XS.goto X67.here hx rfl (pc0 := 240) (pc' := 244) rfl (hb hby at_240) (by decide) (by decide) zk) ?_
          show own_Go p e below G (T67.setTop (mkF m 244 #[.val (.int p0), .val (.int p1), .val (.long q2), .second, .val (.long q3), .second, .val (.int n6), .val (.int at7), .val (.ref b53), .val (.ref b58), .val (.ref b60), .val (.int (((at7 + (2 : Int32)) + (1 : Int32)) + n6)), .val (.int (2 : Int32)), .val (.int (1 : Int32)), .unset] [(.int (1 : Int32))]))
          refine own_st (fun zw zk => XS.istore X67.here hx rfl (hb hby at_244) rfl rfl zk) ?_
          show own_Go p e below G (T67.setTop (mkF m 246 #[.val (.int p0), .val (.int p1), .val (.long q2), .second, .val (.long q3), .second, .val (.int n6), .val (.int at7), .val (.ref b53), .val (.ref b58), .val (.ref b60), .val (.int (((at7 + (2 : Int32)) + (1 : Int32)) + n6)), .val (.int (2 : Int32)), .val (.int (1 : Int32)), .unset] []))
          refine own_st (fun zw zk => XS.goto X67.here hx rfl (pc0 := 246) (pc' := 316) rfl (hb hby at_246) (by decide) (by decide) zk) ?_
          show own_Go p e below G (T67.setTop (mkF m 316 #[.val (.int p0), .val (.int p1), .val (.long q2), .second, .val (.long q3), .second, .val (.int n6), .val (.int at7), .val (.ref b53), .val (.ref b58), .val (.ref b60), .val (.int (((at7 + (2 : Int32)) + (1 : Int32)) + n6)), .val (.int (2 : Int32)), .val (.int (1 : Int32)), .unset] []))
          refine own_st (fun zw zk => XS.iload X67.here hx rfl (hb hby at_316) rfl zk) ?_
          refine own_st (fun zw zk => XS.ifNo X67.here hx rfl (hb hby at_318) rfl ((if0 _ _).trans (feq (by decide : ¬ ((1 : Int32) = (0 : Int32)))).1) zk) ?_
          refine own_st (fun zw zk => XS.aload X67.here hx rfl (hb hby at_321) rfl rfl zk) ?_
          refine own_st (fun zw zk => XS.iload X67.here hx rfl (hb hby at_323) rfl zk) ?_
          refine own_st (fun zw zk => XS.iload X67.here hx rfl (hb hby at_325) rfl zk) ?_
          refine own_st (fun zw zk => XS.iadd X67.here hx rfl (hb hby at_327) rfl zk) ?_
          refine own_st (fun zw zk => own_bld X67 hx hZ rfl O67_0 (j := (at7 + (2 : Int32))) (v := (.int (58 : Int32))) (i := na + 2) (own_nn (own_plus hat (by decide : ((2 : Int32)).toInt = (2 : Nat)) (by omega))) (own_nat (own_plus hat (by decide : ((2 : Int32)).toInt = (2 : Nat)) (by omega))) P67_3 (g := (mkF m 328 #[.val (.int p0), .val (.int p1), .val (.long q2), .second, .val (.long q3), .second, .val (.int n6), .val (.int at7), .val (.ref b53), .val (.ref b58), .val (.ref b60), .val (.int (((at7 + (2 : Int32)) + (1 : Int32)) + n6)), .val (.int (2 : Int32)), .val (.int (1 : Int32)), .unset] [(.int (at7 + (2 : Int32))), (.ref b60)])) rfl rfl (hb hby at_328) _ zk) ?_
          refine own_st (fun zw zk => XS.bipush X67.here hx rfl (hb hby at_329) zk) ?_
          show own_Go p e below G (T67.setTop (mkF m 331 #[.val (.int p0), .val (.int p1), .val (.long q2), .second, .val (.long q3), .second, .val (.int n6), .val (.int at7), .val (.ref b53), .val (.ref b58), .val (.ref b60), .val (.int (((at7 + (2 : Int32)) + (1 : Int32)) + n6)), .val (.int (2 : Int32)), .val (.int (1 : Int32)), .unset] [(.int (58 : Int32)), (.int (58 : Int32))]))
          refine own_st (fun zw zk => XS.icmpNo X67.here hx rfl (hb hby at_331) rfl (teq (by decide : (58 : Int32) = (58 : Int32))).2 zk) ?_
          refine own_st (fun zw zk => XS.iconst X67.here hx rfl (hb hby at_334) zk) ?_
          refine own_st (fun zw zk => XS.goto X67.here hx rfl (pc0 := 335) (pc' := 339) rfl (hb hby at_335) (by decide) (by decide) zk) ?_
          show own_Go p e below G (T67.setTop (mkF m 339 #[.val (.int p0), .val (.int p1), .val (.long q2), .second, .val (.long q3), .second, .val (.int n6), .val (.int at7), .val (.ref b53), .val (.ref b58), .val (.ref b60), .val (.int (((at7 + (2 : Int32)) + (1 : Int32)) + n6)), .val (.int (2 : Int32)), .val (.int (1 : Int32)), .unset] [(.int (1 : Int32))]))
          refine own_st (fun zw zk => XS.istore X67.here hx rfl (hb hby at_339) rfl rfl zk) ?_
          show own_Go p e below G (T67.setTop (mkF m 341 #[.val (.int p0), .val (.int p1), .val (.long q2), .second, .val (.long q3), .second, .val (.int n6), .val (.int at7), .val (.ref b53), .val (.ref b58), .val (.ref b60), .val (.int (((at7 + (2 : Int32)) + (1 : Int32)) + n6)), .val (.int (2 : Int32)), .val (.int (1 : Int32)), .unset] []))
          refine own_st (fun zw zk => XS.iload X67.here hx rfl (hb hby at_341) rfl zk) ?_
          refine own_st (fun zw zk => XS.iload X67.here hx rfl (hb hby at_343) rfl zk) ?_
          refine own_st (fun zw zk => XS.iadd X67.here hx rfl (hb hby at_345) rfl zk) ?_
          refine own_st (fun zw zk => XS.iconst X67.here hx rfl (hb hby at_346) zk) ?_
          refine own_st (fun zw zk => XS.iadd X67.here hx rfl (hb hby at_347) rfl zk) ?_
          refine own_st (fun zw zk => XS.istore X67.here hx rfl (hb hby at_348) rfl rfl zk) ?_
          have hbase : (((at7 + (2 : Int32)) + (1 : Int32))).toInt = (na + 3 : Nat) := own_plus (n := na + 2) (k := 1) (own_plus hat (by decide : ((2 : Int32)).toInt = (2 : Nat)) (by omega)) (by decide : (1 : Int32).toInt = (1 : Nat)) (by omega)
          show own_Go p e below G (T67.setTop (mkF m 350 #[.val (.int p0), .val (.int p1), .val (.long q2), .second, .val (.long q3), .second, .val (.int n6), .val (.int at7), .val (.ref b53), .val (.ref b58), .val (.ref b60), .val (.int (((at7 + (2 : Int32)) + (1 : Int32)) + n6)), .val (.int (2 : Int32)), .val (.int (1 : Int32)), .val (.int ((at7 + (2 : Int32)) + (1 : Int32)))] []))
          refine own_st (fun zw zk => XS.iload X67.here hx rfl (hb hby at_350) rfl zk) ?_
          refine own_st (fun zw zk => XS.ifNo X67.here hx rfl (hb hby at_352) rfl ((if0 _ _).trans (feq (by decide : ¬ ((1 : Int32) = (0 : Int32)))).1) zk) ?_
          refine own_st (fun zw zk => XS.aload X67.here hx rfl (hb hby at_355) rfl rfl zk) ?_
          refine own_st (fun zw zk => XS.iload X67.here hx rfl (hb hby at_357) rfl zk) ?_
          refine own_st (fun zw zk => XS.aload X67.here hx rfl (hb hby at_359) rfl rfl zk) ?_
          refine own_st (fun zw zk => XS.iconst X67.here hx rfl (hb hby at_361) zk) ?_
          obtain ⟨_, _, ⟨T68, L68, k68, n68⟩, -, X68, ⟨Lc68, hQ68, l68, y68, z68⟩, st68⟩ := Jvm.LawKit.callS X67 hx (y := (⟨"com/example/portunus/portunus/AtomWriteCanonicalPinLaw", "sameLong", "([BI[BI)Z"⟩ : MethodName)) hown (mvT hZ (hw _ (List.mem_of_getElem? (i := 40) rfl))) (mvT hZ (hw _ (List.mem_of_getElem? (i := 41) rfl))) (mvT hZ (hw _ (List.mem_of_getElem? (i := 3) rfl))) (mvT hZ (hw _ (List.mem_of_getElem? (i := 42) rfl))) (by decide) (backOf (W := 0) (rm7 l Z a0 hw [] b60 ((at7 + (2 : Int32)) + (1 : Int32)) b53 (0 : Int32) vo67 vt n6 (na + 3) 0 nn T67.heap n0 Z67 (O67_0) (Fj570_67) (own_lenz hnn hlen) (hnn) (hlen) (hbase) (by decide) (by omega) (P67_4) (hfit) (by decide)) hZ (hw _ (List.mem_of_getElem? (i := 42) rfl)) (hw _ (List.mem_of_getElem? (i := 3) rfl)) (by decide) (by decide)) (g := (mkF m 362 #[.val (.int p0), .val (.int p1), .val (.long q2), .second, .val (.long q3), .second, .val (.int n6), .val (.int at7), .val (.ref b53), .val (.ref b58), .val (.ref b60), .val (.int (((at7 + (2 : Int32)) + (1 : Int32)) + n6)), .val (.int (2 : Int32)), .val (.int (1 : Int32)), .val (.int ((at7 + (2 : Int32)) + (1 : Int32)))] [(.int (0 : Int32)), (.ref b53), (.int ((at7 + (2 : Int32)) + (1 : Int32))), (.ref b60)])) rfl (by rw [hml]; rfl) (argsL := [(.ref b60), (.int ((at7 + (2 : Int32)) + (1 : Int32))), (.ref b53), (.int (0 : Int32))]) (rest := []) (lenOf pd_2 rfl) rfl (by show 2 * 0 + _ ≤ _; exact Nat.le_of_eq rfl) (hb hby at_362) (fun _ _ => ⟨rfl, rfl, (by decide : 4 + 0 ≤ _), (by decide : 339 + 0 ≤ _)⟩)
          dsimp only [Pt.U, Pt.locs, Pt.cells, Pt.slots] at X68 l68 y68 z68 st68 hQ68
          subst l68 y68 z68
          obtain ⟨rfl, N68q, e68⟩ := hQ68
          have N68 := Fr.app N67 N68q
          refine own_st (fun zw zk => st68 zw zk) ?_
          refine own_st (fun zw zk => XS.ifNo X68.here hx rfl (hb hby at_365) rfl ((if0 _ _).trans (feq (by decide : ¬ ((1 : Int32) = (0 : Int32)))).1) zk) ?_
          show own_Go p e below G (T68.setTop (mkF m 368 #[.val (.int p0), .val (.int p1), .val (.long q2), .second, .val (.long q3), .second, .val (.int n6), .val (.int at7), .val (.ref b53), .val (.ref b58), .val (.ref b60), .val (.int (((at7 + (2 : Int32)) + (1 : Int32)) + n6)), .val (.int (2 : Int32)), .val (.int (1 : Int32)), .val (.int ((at7 + (2 : Int32)) + (1 : Int32)))] []))
          refine own_st (fun zw zk => XS.aload X68.here hx rfl (hb hby at_368) rfl rfl zk) ?_
          refine own_st (fun zw zk => XS.iload X68.here hx rfl (hb hby at_370) rfl zk) ?_
          refine own_st (fun zw zk => XS.aload X68.here hx rfl (hb hby at_372) rfl rfl zk) ?_
          refine own_st (fun zw zk => XS.bipush X68.here hx rfl (hb hby at_374) zk) ?_
          obtain ⟨_, _, ⟨T69, L69, k69, n69⟩, -, X69, ⟨Lc69, hQ69, l69, y69, z69⟩, st69⟩ := Jvm.LawKit.callS X68 hx (y := (⟨"com/example/portunus/portunus/AtomWriteCanonicalPinLaw", "sameLong", "([BI[BI)Z"⟩ : MethodName)) hown (mvT hZ (hw _ (List.mem_of_getElem? (i := 40) rfl))) (mvT hZ (hw _ (List.mem_of_getElem? (i := 41) rfl))) (mvT hZ (hw _ (List.mem_of_getElem? (i := 3) rfl))) (mvT hZ (hw _ (List.mem_of_getElem? (i := 42) rfl))) (by decide) (backOf (W := 0) (rm7 l Z a0 hw [] b60 ((at7 + (2 : Int32)) + (1 : Int32)) b53 (8 : Int32) vo67 vt n6 (na + 3) 8 nn T67.heap n0 Z67 (O67_0) (Fj570_67) (own_lenz hnn hlen) (hnn) (hlen) (hbase) (by decide) (by omega) (P67_4) (hfit) (by decide)) hZ (hw _ (List.mem_of_getElem? (i := 42) rfl)) (hw _ (List.mem_of_getElem? (i := 3) rfl)) (by decide) (by decide)) (g := (mkF m 376 #[.val (.int p0), .val (.int p1), .val (.long q2), .second, .val (.long q3), .second, .val (.int n6), .val (.int at7), .val (.ref b53), .val (.ref b58), .val (.ref b60), .val (.int (((at7 + (2 : Int32)) + (1 : Int32)) + n6)), .val (.int (2 : Int32)), .val (.int (1 : Int32)), .val (.int ((at7 + (2 : Int32)) + (1 : Int32)))] [(.int (8 : Int32)), (.ref b53), (.int ((at7 + (2 : Int32)) + (1 : Int32))), (.ref b60)])) rfl (by rw [hml]; rfl) (argsL := [(.ref b60), (.int ((at7 + (2 : Int32)) + (1 : Int32))), (.ref b53), (.int (8 : Int32))]) (rest := []) (lenOf pd_2 rfl) rfl (by show 2 * 0 + _ ≤ _; exact Nat.le_of_eq rfl) (hb hby at_376) (fun _ _ => ⟨rfl, e68, (by decide : 4 + 0 ≤ _), (by decide : 339 + 0 ≤ _)⟩)
          dsimp only [Pt.U, Pt.locs, Pt.cells, Pt.slots] at X69 l69 y69 z69 st69 hQ69
          subst l69 y69 z69
          obtain ⟨rfl, N69q, e69⟩ := hQ69
          have N69 := Fr.app N68 N69q
          refine own_st (fun zw zk => st69 zw zk) ?_
          refine own_st (fun zw zk => XS.ifNo X69.here hx rfl (hb hby at_379) rfl ((if0 _ _).trans (feq (by decide : ¬ ((1 : Int32) = (0 : Int32)))).1) zk) ?_
          refine own_st (fun zw zk => XS.iconst X69.here hx rfl (hb hby at_382) zk) ?_
          refine own_st (fun zw zk => XS.goto X69.here hx rfl (pc0 := 383) (pc' := 387) rfl (hb hby at_383) (by decide) (by decide) zk) ?_
          show own_Go p e below G (T69.setTop (mkF m 387 #[.val (.int p0), .val (.int p1), .val (.long q2), .second, .val (.long q3), .second, .val (.int n6), .val (.int at7), .val (.ref b53), .val (.ref b58), .val (.ref b60), .val (.int (((at7 + (2 : Int32)) + (1 : Int32)) + n6)), .val (.int (2 : Int32)), .val (.int (1 : Int32)), .val (.int ((at7 + (2 : Int32)) + (1 : Int32)))] [(.int (1 : Int32))]))
          refine own_st (fun zw zk => XS.istore X69.here hx rfl (hb hby at_387) rfl rfl zk) ?_
          have J426_70 : own_Go p e below G (T69.setTop (mkF m 426 #[.val (.int p0), .val (.int p1), .val (.long q2), .second, .val (.long q3), .second, .val (.int n6), .val (.int at7), .val (.ref b53), .val (.ref b58), .val (.ref b60), .val (.int (((at7 + (2 : Int32)) + (1 : Int32)) + n6)), .val (.int (2 : Int32)), .val (.int (1 : Int32)), .val (.int ((at7 + (2 : Int32)) + (1 : Int32)))] [])) := by
            have J464_71 : own_Go p e below G (T69.setTop (mkF m 464 #[.val (.int p0), .val (.int p1), .val (.long q2), .second, .val (.long q3), .second, .val (.int n6), .val (.int at7), .val (.ref b53), .val (.ref b58), .val (.ref b60), .val (.int (((at7 + (2 : Int32)) + (1 : Int32)) + n6)), .val (.int (2 : Int32)), .val (.int (1 : Int32)), .val (.int ((at7 + (2 : Int32)) + (1 : Int32)))] [])) := by
              show own_Go p e below G (T69.setTop (mkF m 464 #[.val (.int p0), .val (.int p1), .val (.long q2), .second, .val (.long q3), .second, .val (.int n6), .val (.int at7), .val (.ref b53), .val (.ref b58), .val (.ref b60), .val (.int (((at7 + (2 : Int32)) + (1 : Int32)) + n6)), .val (.int (2 : Int32)), .val (.int (1 : Int32)), .val (.int ((at7 + (2 : Int32)) + (1 : Int32)))] []))
              refine own_st (fun zw zk => XS.iload X69.here hx rfl (hb hby at_464) rfl zk) ?_
              refine own_st (fun zw zk => XS.ifNo X69.here hx rfl (hb hby at_466) rfl ((if0 _ _).trans (feq (by decide : ¬ ((1 : Int32) = (0 : Int32)))).1) zk) ?_
              refine own_st (fun zw zk => XS.aload X69.here hx rfl (hb hby at_469) rfl rfl zk) ?_
              refine own_st (fun zw zk => XS.iload X69.here hx rfl (hb hby at_471) rfl zk) ?_
              refine own_st (fun zw zk => XS.iload X69.here hx rfl (hb hby at_473) rfl zk) ?_
              refine own_st (fun zw zk => XS.iadd X69.here hx rfl (hb hby at_475) rfl zk) ?_
              refine own_st (fun zw zk => own_bld X69 hx hZ e69 O67_0 (j := (((at7 + (2 : Int32)) + (1 : Int32)) + n6)) (v := (.int (0 : Int32))) (i := na + 3 + nn) (own_nn (own_plus hbase hnn (by omega))) (own_nat (own_plus hbase hnn (by omega))) P67_5 (g := (mkF m 476 #[.val (.int p0), .val (.int p1), .val (.long q2), .second, .val (.long q3), .second, .val (.int n6), .val (.int at7), .val (.ref b53), .val (.ref b58), .val (.ref b60), .val (.int (((at7 + (2 : Int32)) + (1 : Int32)) + n6)), .val (.int (2 : Int32)), .val (.int (1 : Int32)), .val (.int ((at7 + (2 : Int32)) + (1 : Int32)))] [(.int (((at7 + (2 : Int32)) + (1 : Int32)) + n6)), (.ref b60)])) rfl rfl (hb hby at_476) _ zk) ?_
              refine own_st (fun zw zk => XS.ifNo X69.here hx rfl (hb hby at_477) rfl ((if0 _ _).trans (teq (by decide : (0 : Int32) = (0 : Int32))).2) zk) ?_
              show own_Go p e below G (T69.setTop (mkF m 480 #[.val (.int p0), .val (.int p1), .val (.long q2), .second, .val (.long q3), .second, .val (.int n6), .val (.int at7), .val (.ref b53), .val (.ref b58), .val (.ref b60), .val (.int (((at7 + (2 : Int32)) + (1 : Int32)) + n6)), .val (.int (2 : Int32)), .val (.int (1 : Int32)), .val (.int ((at7 + (2 : Int32)) + (1 : Int32)))] []))
              refine own_st (fun zw zk => XS.iconst X69.here hx rfl (hb hby at_480) zk) ?_
              refine own_st (fun zw zk => XS.goto X69.here hx rfl (pc0 := 481) (pc' := 485) rfl (hb hby at_481) (by decide) (by decide) zk) ?_
              show own_Go p e below G (T69.setTop (mkF m 485 #[.val (.int p0), .val (.int p1), .val (.long q2), .second, .val (.long q3), .second, .val (.int n6), .val (.int at7), .val (.ref b53), .val (.ref b58), .val (.ref b60), .val (.int (((at7 + (2 : Int32)) + (1 : Int32)) + n6)), .val (.int (2 : Int32)), .val (.int (1 : Int32)), .val (.int ((at7 + (2 : Int32)) + (1 : Int32)))] [(.int (1 : Int32))]))
              refine own_st (fun zw zk => XS.istore X69.here hx rfl (hb hby at_485) rfl rfl zk) ?_
              have J514_72 : own_Go p e below G (T69.setTop (mkF m 514 #[.val (.int p0), .val (.int p1), .val (.long q2), .second, .val (.long q3), .second, .val (.int n6), .val (.int at7), .val (.ref b53), .val (.ref b58), .val (.ref b60), .val (.int (((at7 + (2 : Int32)) + (1 : Int32)) + n6)), .val (.int (2 : Int32)), .val (.int (1 : Int32)), .val (.int ((at7 + (2 : Int32)) + (1 : Int32)))] [])) := by
                show own_Go p e below G (T69.setTop (mkF m 514 #[.val (.int p0), .val (.int p1), .val (.long q2), .second, .val (.long q3), .second, .val (.int n6), .val (.int at7), .val (.ref b53), .val (.ref b58), .val (.ref b60), .val (.int (((at7 + (2 : Int32)) + (1 : Int32)) + n6)), .val (.int (2 : Int32)), .val (.int (1 : Int32)), .val (.int ((at7 + (2 : Int32)) + (1 : Int32)))] []))
                refine own_st (fun zw zk => XS.iload X69.here hx rfl (hb hby at_514) rfl zk) ?_
                subst hG
                obtain ⟨fs, hr, hrun, hended, hW, hsame⟩ := X69.leave (v := some (.int (1 : Int32))) (hlocks := Bd.notSynchronized) (fun h => by rw [Bd.returns] at h; cases h)
                refine ⟨_, retN X69 hx (t := .boolean) Bd.returns (by simp) (hb hby at_516) hr, _, hrun, hended, _, _, rfl, ?_, ⟨_, rfl⟩, hW, hsame.mono (by decide) (by decide)⟩
                show Q0 Z p0 p1 q2 q3 h0 n0 _ T69.heap _
                rw [e69]
                exact ⟨rfl, N69⟩
              show own_Go p e below G (T69.setTop (mkF m 487 #[.val (.int p0), .val (.int p1), .val (.long q2), .second, .val (.long q3), .second, .val (.int n6), .val (.int at7), .val (.ref b53), .val (.ref b58), .val (.ref b60), .val (.int (((at7 + (2 : Int32)) + (1 : Int32)) + n6)), .val (.int (2 : Int32)), .val (.int (1 : Int32)), .val (.int ((at7 + (2 : Int32)) + (1 : Int32)))] []))
              refine own_st (fun zw zk => XS.iload X69.here hx rfl (hb hby at_487) rfl zk) ?_
              by_cases hc489 : (0 : Int32) < at7
              · refine own_st (fun zw zk => XS.ifNo X69.here hx rfl (hb hby at_489) rfl ((if0 _ _).trans (tlt hc489).2.2.2) zk) ?_
                refine own_st (fun zw zk => XS.iload X69.here hx rfl (hb hby at_492) rfl zk) ?_
                refine own_st (fun zw zk => XS.ifNo X69.here hx rfl (hb hby at_494) rfl ((if0 _ _).trans (feq (by decide : ¬ ((1 : Int32) = (0 : Int32)))).1) zk) ?_
                refine own_st (fun zw zk => XS.aload X69.here hx rfl (hb hby at_497) rfl rfl zk) ?_
                refine own_st (fun zw zk => XS.iload X69.here hx rfl (hb hby at_499) rfl zk) ?_
                refine own_st (fun zw zk => XS.iconst X69.here hx rfl (hb hby at_501) zk) ?_
                refine own_st (fun zw zk => XS.isub X69.here hx rfl (hb hby at_502) rfl zk) ?_
                show own_Go p e below G (T69.setTop (mkF m 503 #[.val (.int p0), .val (.int p1), .val (.long q2), .second, .val (.long q3), .second, .val (.int n6), .val (.int at7), .val (.ref b53), .val (.ref b58), .val (.ref b60), .val (.int (((at7 + (2 : Int32)) + (1 : Int32)) + n6)), .val (.int (2 : Int32)), .val (.int (1 : Int32)), .val (.int ((at7 + (2 : Int32)) + (1 : Int32)))] [(.int (at7 - (1 : Int32))), (.ref b60)]))
                refine own_st (fun zw zk => own_bld X69 hx hZ e69 O67_0 (j := (at7 - (1 : Int32))) (v := (.int (0 : Int32))) (i := na - 1) (own_nn (own_dec (n := na - 1) (by have := own_posn hat hc489; omega))) (own_nat (own_dec (n := na - 1) (by have := own_posn hat hc489; omega))) (P67_6 (own_posn hat hc489)) (g := (mkF m 503 #[.val (.int p0), .val (.int p1), .val (.long q2), .second, .val (.long q3), .second, .val (.int n6), .val (.int at7), .val (.ref b53), .val (.ref b58), .val (.ref b60), .val (.int (((at7 + (2 : Int32)) + (1 : Int32)) + n6)), .val (.int (2 : Int32)), .val (.int (1 : Int32)), .val (.int ((at7 + (2 : Int32)) + (1 : Int32)))] [(.int (at7 - (1 : Int32))), (.ref b60)])) rfl rfl (hb hby at_503) _ zk) ?_
                refine own_st (fun zw zk => XS.ifNo X69.here hx rfl (hb hby at_504) rfl ((if0 _ _).trans (teq (by decide : (0 : Int32) = (0 : Int32))).2) zk) ?_
                refine own_st (fun zw zk => XS.iconst X69.here hx rfl (hb hby at_507) zk) ?_
                refine own_st (fun zw zk => XS.goto X69.here hx rfl (pc0 := 508) (pc' := 512) rfl (hb hby at_508) (by decide) (by decide) zk) ?_
                show own_Go p e below G (T69.setTop (mkF m 512 #[.val (.int p0), .val (.int p1), .val (.long q2), .second, .val (.long q3), .second, .val (.int n6), .val (.int at7), .val (.ref b53), .val (.ref b58), .val (.ref b60), .val (.int (((at7 + (2 : Int32)) + (1 : Int32)) + n6)), .val (.int (2 : Int32)), .val (.int (1 : Int32)), .val (.int ((at7 + (2 : Int32)) + (1 : Int32)))] [(.int (1 : Int32))]))
                refine own_st (fun zw zk => XS.istore X69.here hx rfl (hb hby at_512) rfl rfl zk) ?_
                show own_Go p e below G (T69.setTop (mkF m 514 #[.val (.int p0), .val (.int p1), .val (.long q2), .second, .val (.long q3), .second, .val (.int n6), .val (.int at7), .val (.ref b53), .val (.ref b58), .val (.ref b60), .val (.int (((at7 + (2 : Int32)) + (1 : Int32)) + n6)), .val (.int (2 : Int32)), .val (.int (1 : Int32)), .val (.int ((at7 + (2 : Int32)) + (1 : Int32)))] []))
                exact J514_72
              · refine own_st (fun zw zk => XS.ifYes X69.here hx rfl (pc0 := 489) (pc' := 514) rfl (hb hby at_489) rfl ((if0 _ _).trans (flt hc489).2.2.2) (by decide) (by decide) zk) ?_
                show own_Go p e below G (T69.setTop (mkF m 514 #[.val (.int p0), .val (.int p1), .val (.long q2), .second, .val (.long q3), .second, .val (.int n6), .val (.int at7), .val (.ref b53), .val (.ref b58), .val (.ref b60), .val (.int (((at7 + (2 : Int32)) + (1 : Int32)) + n6)), .val (.int (2 : Int32)), .val (.int (1 : Int32)), .val (.int ((at7 + (2 : Int32)) + (1 : Int32)))] []))
                exact J514_72
            show own_Go p e below G (T69.setTop (mkF m 426 #[.val (.int p0), .val (.int p1), .val (.long q2), .second, .val (.long q3), .second, .val (.int n6), .val (.int at7), .val (.ref b53), .val (.ref b58), .val (.ref b60), .val (.int (((at7 + (2 : Int32)) + (1 : Int32)) + n6)), .val (.int (2 : Int32)), .val (.int (1 : Int32)), .val (.int ((at7 + (2 : Int32)) + (1 : Int32)))] []))
            refine own_st (fun zw zk => XS.iload X69.here hx rfl (hb hby at_426) rfl zk) ?_
            refine own_st (fun zw zk => XS.iconst X69.here hx rfl (hb hby at_428) zk) ?_
            by_cases hc429 : (2 : Int32) < n6
            · refine own_st (fun zw zk => XS.icmpNo X69.here hx rfl (hb hby at_429) rfl (tlt hc429).2.2.2 zk) ?_
              refine own_st (fun zw zk => XS.iload X69.here hx rfl (hb hby at_432) rfl zk) ?_
              refine own_st (fun zw zk => XS.ifNo X69.here hx rfl (hb hby at_434) rfl ((if0 _ _).trans (feq (by decide : ¬ ((1 : Int32) = (0 : Int32)))).1) zk) ?_
              refine own_st (fun zw zk => XS.aload X69.here hx rfl (hb hby at_437) rfl rfl zk) ?_
              refine own_st (fun zw zk => XS.iload X69.here hx rfl (hb hby at_439) rfl zk) ?_
              refine own_st (fun zw zk => XS.iload X69.here hx rfl (hb hby at_441) rfl zk) ?_
              show own_Go p e below G (T69.setTop (mkF m 443 #[.val (.int p0), .val (.int p1), .val (.long q2), .second, .val (.long q3), .second, .val (.int n6), .val (.int at7), .val (.ref b53), .val (.ref b58), .val (.ref b60), .val (.int (((at7 + (2 : Int32)) + (1 : Int32)) + n6)), .val (.int (2 : Int32)), .val (.int (1 : Int32)), .val (.int ((at7 + (2 : Int32)) + (1 : Int32)))] [(.int n6), (.int ((at7 + (2 : Int32)) + (1 : Int32))), (.ref b60)]))
              refine own_st (fun zw zk => XS.iconst X69.here hx rfl (hb hby at_443) zk) ?_
              refine own_st (fun zw zk => XS.idiv X69.here hx rfl (hb hby at_444) rfl (by decide) zk) ?_
              refine own_st (fun zw zk => XS.iadd X69.here hx rfl (hb hby at_445) rfl zk) ?_
              obtain ⟨z, hz⟩ := own_isint (vs := vt) (k := nn / 2) (by rw [hlen]; have := own_pos2 hnn hc429; omega) hfit
              refine own_st (fun zw zk => own_bld X69 hx hZ e69 O67_0 (j := (((at7 + (2 : Int32)) + (1 : Int32)) + (n6 / (2 : Int32)))) (v := (.int z)) (i := na + 3 + (nn / 2)) (own_nn (own_plus hbase (own_halfn hnn) (by omega))) (own_nat (own_plus hbase (own_halfn hnn) (by omega))) ((P67_4 (nn / 2) (by have := own_pos2 hnn hc429; omega)).trans hz) (g := (mkF m 446 #[.val (.int p0), .val (.int p1), .val (.long q2), .second, .val (.long q3), .second, .val (.int n6), .val (.int at7), .val (.ref b53), .val (.ref b58), .val (.ref b60), .val (.int (((at7 + (2 : Int32)) + (1 : Int32)) + n6)), .val (.int (2 : Int32)), .val (.int (1 : Int32)), .val (.int ((at7 + (2 : Int32)) + (1 : Int32)))] [(.int (((at7 + (2 : Int32)) + (1 : Int32)) + (n6 / (2 : Int32)))), (.ref b60)])) rfl rfl (hb hby at_446) _ zk) ?_
              refine own_st (fun zw zk => XS.aload X69.here hx rfl (hb hby at_447) rfl rfl zk) ?_
              refine own_st (fun zw zk => XS.iload X69.here hx rfl (hb hby at_449) rfl zk) ?_
              refine own_st (fun zw zk => XS.iconst X69.here hx rfl (hb hby at_451) zk) ?_
              refine own_st (fun zw zk => XS.idiv X69.here hx rfl (hb hby at_452) rfl (by decide) zk) ?_
              show own_Go p e below G (T69.setTop (mkF m 453 #[.val (.int p0), .val (.int p1), .val (.long q2), .second, .val (.long q3), .second, .val (.int n6), .val (.int at7), .val (.ref b53), .val (.ref b58), .val (.ref b60), .val (.int (((at7 + (2 : Int32)) + (1 : Int32)) + n6)), .val (.int (2 : Int32)), .val (.int (1 : Int32)), .val (.int ((at7 + (2 : Int32)) + (1 : Int32)))] [(.int (n6 / (2 : Int32))), (.ref b53), (.int z)]))
              refine own_st (fun zw zk => own_bld X69 hx hZ e69 Fj570_67 (j := (n6 / (2 : Int32))) (v := (.int z)) (i := nn / 2) (own_nn (own_halfn hnn)) (own_nat (own_halfn hnn)) hz (g := (mkF m 453 #[.val (.int p0), .val (.int p1), .val (.long q2), .second, .val (.long q3), .second, .val (.int n6), .val (.int at7), .val (.ref b53), .val (.ref b58), .val (.ref b60), .val (.int (((at7 + (2 : Int32)) + (1 : Int32)) + n6)), .val (.int (2 : Int32)), .val (.int (1 : Int32)), .val (.int ((at7 + (2 : Int32)) + (1 : Int32)))] [(.int (n6 / (2 : Int32))), (.ref b53), (.int z)])) rfl rfl (hb hby at_453) _ zk) ?_
              refine own_st (fun zw zk => XS.icmpNo X69.here hx rfl (hb hby at_454) rfl (teq (rfl : z = z)).2 zk) ?_
              refine own_st (fun zw zk => XS.iconst X69.here hx rfl (hb hby at_457) zk) ?_
              refine own_st (fun zw zk => XS.goto X69.here hx rfl (pc0 := 458) (pc' := 462) rfl (hb hby at_458) (by decide) (by decide) zk) ?_
              show own_Go p e below G (T69.setTop (mkF m 462 #[.val (.int p0), .val (.int p1), .val (.long q2), .second, .val (.long q3), .second, .val (.int n6), .val (.int at7), .val (.ref b53), .val (.ref b58), .val (.ref b60), .val (.int (((at7 + (2 : Int32)) + (1 : Int32)) + n6)), .val (.int (2 : Int32)), .val (.int (1 : Int32)), .val (.int ((at7 + (2 : Int32)) + (1 : Int32)))] [(.int (1 : Int32))]))
              refine own_st (fun zw zk => XS.istore X69.here hx rfl (hb hby at_462) rfl rfl zk) ?_
              show own_Go p e below G (T69.setTop (mkF m 464 #[.val (.int p0), .val (.int p1), .val (.long q2), .second, .val (.long q3), .second, .val (.int n6), .val (.int at7), .val (.ref b53), .val (.ref b58), .val (.ref b60), .val (.int (((at7 + (2 : Int32)) + (1 : Int32)) + n6)), .val (.int (2 : Int32)), .val (.int (1 : Int32)), .val (.int ((at7 + (2 : Int32)) + (1 : Int32)))] []))
              exact J464_71
            · refine own_st (fun zw zk => XS.icmpYes X69.here hx rfl (pc0 := 429) (pc' := 464) rfl (hb hby at_429) rfl (flt hc429).2.2.2 (by decide) (by decide) zk) ?_
              show own_Go p e below G (T69.setTop (mkF m 464 #[.val (.int p0), .val (.int p1), .val (.long q2), .second, .val (.long q3), .second, .val (.int n6), .val (.int at7), .val (.ref b53), .val (.ref b58), .val (.ref b60), .val (.int (((at7 + (2 : Int32)) + (1 : Int32)) + n6)), .val (.int (2 : Int32)), .val (.int (1 : Int32)), .val (.int ((at7 + (2 : Int32)) + (1 : Int32)))] []))
              exact J464_71
          show own_Go p e below G (T69.setTop (mkF m 389 #[.val (.int p0), .val (.int p1), .val (.long q2), .second, .val (.long q3), .second, .val (.int n6), .val (.int at7), .val (.ref b53), .val (.ref b58), .val (.ref b60), .val (.int (((at7 + (2 : Int32)) + (1 : Int32)) + n6)), .val (.int (2 : Int32)), .val (.int (1 : Int32)), .val (.int ((at7 + (2 : Int32)) + (1 : Int32)))] []))
          refine own_st (fun zw zk => XS.iload X69.here hx rfl (hb hby at_389) rfl zk) ?_
          by_cases hc391 : (0 : Int32) < n6
          · refine own_st (fun zw zk => XS.ifNo X69.here hx rfl (hb hby at_391) rfl ((if0 _ _).trans (tlt hc391).2.2.2) zk) ?_
            refine own_st (fun zw zk => XS.iload X69.here hx rfl (hb hby at_394) rfl zk) ?_
            refine own_st (fun zw zk => XS.ifNo X69.here hx rfl (hb hby at_396) rfl ((if0 _ _).trans (feq (by decide : ¬ ((1 : Int32) = (0 : Int32)))).1) zk) ?_
            refine own_st (fun zw zk => XS.aload X69.here hx rfl (hb hby at_399) rfl rfl zk) ?_
            refine own_st (fun zw zk => XS.iload X69.here hx rfl (hb hby at_401) rfl zk) ?_
            refine own_st (fun zw zk => XS.iload X69.here hx rfl (hb hby at_403) rfl zk) ?_
            refine own_st (fun zw zk => XS.iadd X69.here hx rfl (hb hby at_405) rfl zk) ?_
            show own_Go p e below G (T69.setTop (mkF m 406 #[.val (.int p0), .val (.int p1), .val (.long q2), .second, .val (.long q3), .second, .val (.int n6), .val (.int at7), .val (.ref b53), .val (.ref b58), .val (.ref b60), .val (.int (((at7 + (2 : Int32)) + (1 : Int32)) + n6)), .val (.int (2 : Int32)), .val (.int (1 : Int32)), .val (.int ((at7 + (2 : Int32)) + (1 : Int32)))] [(.int (((at7 + (2 : Int32)) + (1 : Int32)) + n6)), (.ref b60)]))
            refine own_st (fun zw zk => XS.iconst X69.here hx rfl (hb hby at_406) zk) ?_
            refine own_st (fun zw zk => XS.isub X69.here hx rfl (hb hby at_407) rfl zk) ?_
            obtain ⟨z, hz⟩ := own_isint (vs := vt) (k := nn - 1) (by rw [hlen]; have := own_posn hnn hc391; omega) hfit
            refine own_st (fun zw zk => own_bld X69 hx hZ e69 O67_0 (j := ((((at7 + (2 : Int32)) + (1 : Int32)) + n6) - (1 : Int32))) (v := (.int z)) (i := na + 3 + (nn - 1)) (own_nn (own_dec (n := na + 3 + (nn - 1)) (by have q := own_plus hbase hnn (by omega); have := own_posn hnn hc391; omega))) (own_nat (own_dec (n := na + 3 + (nn - 1)) (by have q := own_plus hbase hnn (by omega); have := own_posn hnn hc391; omega))) ((P67_4 (nn - 1) (by have := own_posn hnn hc391; omega)).trans hz) (g := (mkF m 408 #[.val (.int p0), .val (.int p1), .val (.long q2), .second, .val (.long q3), .second, .val (.int n6), .val (.int at7), .val (.ref b53), .val (.ref b58), .val (.ref b60), .val (.int (((at7 + (2 : Int32)) + (1 : Int32)) + n6)), .val (.int (2 : Int32)), .val (.int (1 : Int32)), .val (.int ((at7 + (2 : Int32)) + (1 : Int32)))] [(.int ((((at7 + (2 : Int32)) + (1 : Int32)) + n6) - (1 : Int32))), (.ref b60)])) rfl rfl (hb hby at_408) _ zk) ?_
            refine own_st (fun zw zk => XS.aload X69.here hx rfl (hb hby at_409) rfl rfl zk) ?_
            refine own_st (fun zw zk => XS.iload X69.here hx rfl (hb hby at_411) rfl zk) ?_
            refine own_st (fun zw zk => XS.iconst X69.here hx rfl (hb hby at_413) zk) ?_
            refine own_st (fun zw zk => XS.isub X69.here hx rfl (hb hby at_414) rfl zk) ?_
            refine own_st (fun zw zk => own_bld X69 hx hZ e69 Fj570_67 (j := (n6 - (1 : Int32))) (v := (.int z)) (i := nn - 1) (own_nn (own_dec (n := nn - 1) (by have := own_posn hnn hc391; omega))) (own_nat (own_dec (n := nn - 1) (by have := own_posn hnn hc391; omega))) hz (g := (mkF m 415 #[.val (.int p0), .val (.int p1), .val (.long q2), .second, .val (.long q3), .second, .val (.int n6), .val (.int at7), .val (.ref b53), .val (.ref b58), .val (.ref b60), .val (.int (((at7 + (2 : Int32)) + (1 : Int32)) + n6)), .val (.int (2 : Int32)), .val (.int (1 : Int32)), .val (.int ((at7 + (2 : Int32)) + (1 : Int32)))] [(.int (n6 - (1 : Int32))), (.ref b53), (.int z)])) rfl rfl (hb hby at_415) _ zk) ?_
            show own_Go p e below G (T69.setTop (mkF m 416 #[.val (.int p0), .val (.int p1), .val (.long q2), .second, .val (.long q3), .second, .val (.int n6), .val (.int at7), .val (.ref b53), .val (.ref b58), .val (.ref b60), .val (.int (((at7 + (2 : Int32)) + (1 : Int32)) + n6)), .val (.int (2 : Int32)), .val (.int (1 : Int32)), .val (.int ((at7 + (2 : Int32)) + (1 : Int32)))] [(.int z), (.int z)]))
            refine own_st (fun zw zk => XS.icmpNo X69.here hx rfl (hb hby at_416) rfl (teq (rfl : z = z)).2 zk) ?_
            refine own_st (fun zw zk => XS.iconst X69.here hx rfl (hb hby at_419) zk) ?_
            refine own_st (fun zw zk => XS.goto X69.here hx rfl (pc0 := 420) (pc' := 424) rfl (hb hby at_420) (by decide) (by decide) zk) ?_
            show own_Go p e below G (T69.setTop (mkF m 424 #[.val (.int p0), .val (.int p1), .val (.long q2), .second, .val (.long q3), .second, .val (.int n6), .val (.int at7), .val (.ref b53), .val (.ref b58), .val (.ref b60), .val (.int (((at7 + (2 : Int32)) + (1 : Int32)) + n6)), .val (.int (2 : Int32)), .val (.int (1 : Int32)), .val (.int ((at7 + (2 : Int32)) + (1 : Int32)))] [(.int (1 : Int32))]))
            refine own_st (fun zw zk => XS.istore X69.here hx rfl (hb hby at_424) rfl rfl zk) ?_
            show own_Go p e below G (T69.setTop (mkF m 426 #[.val (.int p0), .val (.int p1), .val (.long q2), .second, .val (.long q3), .second, .val (.int n6), .val (.int at7), .val (.ref b53), .val (.ref b58), .val (.ref b60), .val (.int (((at7 + (2 : Int32)) + (1 : Int32)) + n6)), .val (.int (2 : Int32)), .val (.int (1 : Int32)), .val (.int ((at7 + (2 : Int32)) + (1 : Int32)))] []))
            exact J426_70
          · refine own_st (fun zw zk => XS.ifYes X69.here hx rfl (pc0 := 391) (pc' := 426) rfl (hb hby at_391) rfl ((if0 _ _).trans (flt hc391).2.2.2) (by decide) (by decide) zk) ?_
            show own_Go p e below G (T69.setTop (mkF m 426 #[.val (.int p0), .val (.int p1), .val (.long q2), .second, .val (.long q3), .second, .val (.int n6), .val (.int at7), .val (.ref b53), .val (.ref b58), .val (.ref b60), .val (.int (((at7 + (2 : Int32)) + (1 : Int32)) + n6)), .val (.int (2 : Int32)), .val (.int (1 : Int32)), .val (.int ((at7 + (2 : Int32)) + (1 : Int32)))] []))
            exact J426_70
        · show own_Go p e below G (T60.setTop (mkF m 102 #[.val (.int p0), .val (.int p1), .val (.long q2), .second, .val (.long q3), .second, .val (.int n6), .val (.int at7), .val (.ref b53), .val (.ref b58), .val (.ref b60), .unset, .unset, .unset, .unset] []))
          refine own_st (fun zw zk => XS.aload X60.here hx rfl (hb hby at_102) rfl rfl zk) ?_
          refine own_st (fun zw zk => XS.aload X60.here hx rfl (hb hby at_104) rfl rfl zk) ?_
          refine own_st (fun zw zk => XS.iload X60.here hx rfl (hb hby at_106) rfl zk) ?_
          obtain ⟨cq73, kq73, q73a, q73b, q73c⟩ := isOf hZ e60 Ob58E_60
          obtain ⟨_, _, ⟨T73, L73, k73, n73⟩, -, X73, ⟨Lc73, hQ73, l73, y73, z73⟩, st73⟩ := X60.virtualBack hx (y := (⟨"com/example/portunus/portunus/Atom", "writeCanonical", "([BI)I"⟩ : MethodName)) (z := (⟨"com/example/portunus/portunus/Atom", "writeCanonical", "([BI)I"⟩ : MethodName)) hown (mvT hZ (hw _ (List.mem_of_getElem? (i := 28) rfl))) (mvT hZ (hw _ (List.mem_of_getElem? (i := 29) rfl))) (notFace_of_selects (args := #[]) (mvT hZ (hw _ (List.mem_of_getElem? (i := 31) rfl)))) (mvT hZ (hw _ (List.mem_of_getElem? (i := 31) rfl))) (mvT hZ (hw _ (List.mem_of_getElem? (i := 30) rfl))) (by decide) (backOf (W := 0) (rm_w3 l Z a0 hw [] b58 b60 at7 bb59 vt n6 nn na h60 n0 Z60 (Ob58bytes_60) (Obb59L_60) (V60) (G60) (ne_b58_b60) (ne_bb59_b60) (own_lenz hnn hlen) (hlen) (hnn) (hat) (hna) (hn105) (hfit) (k1)) hZ (hw _ (List.mem_of_getElem? (i := 32) rfl)) (hw _ (List.mem_of_getElem? (i := 10) rfl)) (by decide) (by decide)) q73a q73c (g := (mkF m 108 #[.val (.int p0), .val (.int p1), .val (.long q2), .second, .val (.long q3), .second, .val (.int n6), .val (.int at7), .val (.ref b53), .val (.ref b58), .val (.ref b60), .unset, .unset, .unset, .unset] [(.int at7), (.ref b60), (.ref b58)])) rfl (by rw [hml]; rfl) (Steps.refl _) (argsL := [(.ref b60), (.int at7)]) (rest := []) (lenOf pd_5 rfl) rfl (by show 2 * 0 + _ ≤ _; exact Nat.le_of_eq rfl) (hb hby at_108) (fun _ _ => ⟨rfl, e60, (by decide : 4 + 0 ≤ _), (by decide : 339 + 0 ≤ _)⟩)
          dsimp only [Pt.U, Pt.locs, Pt.cells, Pt.slots] at X73 l73 y73 z73 st73 hQ73
          subst l73 y73 z73
          obtain ⟨rfl, N73q, vo73, K73, O73_0, P73_0, P73_1, P73_2, P73_3, P73_4, P73_5, P73_6, P73_7⟩ := hQ73
          have Fj570_73 := Fj570_60.keep K73 (ninS ne_b53_b60 nin0)
          have Fj571_73 := Fj571_60.keep K73
          have Ob58E_73 := Ob58E_60.keep K73
          have Ob58bytes_73 := Ob58bytes_60.keep K73 (ninS ne_b58_b60 nin0)
          have Obb59L_73 := Obb59L_60.keep K73 (ninS ne_bb59_b60 nin0)
          have Bb60_73 := B60.keep K73
          have Z73 : n0 ≤ T73.heap.size := Nat.le_trans Z60 K73.1
          have N73 := Fr.app N59 N73q
          refine own_jp st73 ?_
          refine own_st (fun zw zk => XS.istore X73.here hx rfl (hb hby at_111) rfl rfl zk) ?_
          show own_Go p e below G (T73.setTop (mkF m 113 #[.val (.int p0), .val (.int p1), .val (.long q2), .second, .val (.long q3), .second, .val (.int n6), .val (.int at7), .val (.ref b53), .val (.ref b58), .val (.ref b60), .val (.int (((at7 + (3 : Int32)) + (1 : Int32)) + n6)), .unset, .unset, .unset] []))
          refine own_st (fun zw zk => XS.iload X73.here hx rfl (hb hby at_113) rfl zk) ?_
          refine own_st (fun zw zk => XS.bipush X73.here hx rfl (hb hby at_115) zk) ?_
          refine own_st (fun zw zk => XS.icmpYes X73.here hx rfl (pc0 := 117) (pc' := 124) rfl (hb hby at_117) rfl (flt c1).2.1 (by decide) (by decide) zk) ?_
          refine own_st (fun zw zk => XS.iload X73.here hx rfl (hb hby at_124) rfl zk) ?_
          refine own_st (fun zw zk => XS.bipush X73.here hx rfl (hb hby at_126) zk) ?_
          refine own_st (fun zw zk => XS.icmpYes X73.here hx rfl (pc0 := 128) (pc' := 135) rfl (hb hby at_128) rfl (flt c2).2.1 (by decide) (by decide) zk) ?_
          refine own_st (fun zw zk => XS.iconst X73.here hx rfl (hb hby at_135) zk) ?_
          refine own_st (fun zw zk => XS.istore X73.here hx rfl (hb hby at_136) rfl rfl zk) ?_
          show own_Go p e below G (T73.setTop (mkF m 138 #[.val (.int p0), .val (.int p1), .val (.long q2), .second, .val (.long q3), .second, .val (.int n6), .val (.int at7), .val (.ref b53), .val (.ref b58), .val (.ref b60), .val (.int (((at7 + (3 : Int32)) + (1 : Int32)) + n6)), .val (.int (3 : Int32)), .unset, .unset] []))
          refine own_st (fun zw zk => XS.iload X73.here hx rfl (hb hby at_138) rfl zk) ?_
          refine own_st (fun zw zk => XS.iload X73.here hx rfl (hb hby at_140) rfl zk) ?_
          refine own_st (fun zw zk => XS.iload X73.here hx rfl (hb hby at_142) rfl zk) ?_
          refine own_st (fun zw zk => XS.iadd X73.here hx rfl (hb hby at_144) rfl zk) ?_
          refine own_st (fun zw zk => XS.iconst X73.here hx rfl (hb hby at_145) zk) ?_
          refine own_st (fun zw zk => XS.iadd X73.here hx rfl (hb hby at_146) rfl zk) ?_
          refine own_st (fun zw zk => XS.iload X73.here hx rfl (hb hby at_147) rfl zk) ?_
          refine own_st (fun zw zk => XS.iadd X73.here hx rfl (hb hby at_149) rfl zk) ?_
          show own_Go p e below G (T73.setTop (mkF m 150 #[.val (.int p0), .val (.int p1), .val (.long q2), .second, .val (.long q3), .second, .val (.int n6), .val (.int at7), .val (.ref b53), .val (.ref b58), .val (.ref b60), .val (.int (((at7 + (3 : Int32)) + (1 : Int32)) + n6)), .val (.int (3 : Int32)), .unset, .unset] [(.int (((at7 + (3 : Int32)) + (1 : Int32)) + n6)), (.int (((at7 + (3 : Int32)) + (1 : Int32)) + n6))]))
          refine own_st (fun zw zk => XS.icmpNo X73.here hx rfl (hb hby at_150) rfl (teq (rfl : (((at7 + (3 : Int32)) + (1 : Int32)) + n6) = (((at7 + (3 : Int32)) + (1 : Int32)) + n6))).2 zk) ?_
          refine own_st (fun zw zk => XS.iconst X73.here hx rfl (hb hby at_153) zk) ?_
          refine own_st (fun zw zk => XS.goto X73.here hx rfl (pc0 := 154) (pc' := 158) rfl (hb hby at_154) (by decide) (by decide) zk) ?_
          show own_Go p e below G (T73.setTop (mkF m 158 #[.val (.int p0), .val (.int p1), .val (.long q2), .second, .val (.long q3), .second, .val (.int n6), .val (.int at7), .val (.ref b53), .val (.ref b58), .val (.ref b60), .val (.int (((at7 + (3 : Int32)) + (1 : Int32)) + n6)), .val (.int (3 : Int32)), .unset, .unset] [(.int (1 : Int32))]))
          refine own_st (fun zw zk => XS.istore X73.here hx rfl (hb hby at_158) rfl rfl zk) ?_
          show own_Go p e below G (T73.setTop (mkF m 160 #[.val (.int p0), .val (.int p1), .val (.long q2), .second, .val (.long q3), .second, .val (.int n6), .val (.int at7), .val (.ref b53), .val (.ref b58), .val (.ref b60), .val (.int (((at7 + (3 : Int32)) + (1 : Int32)) + n6)), .val (.int (3 : Int32)), .val (.int (1 : Int32)), .unset] []))
          refine own_st (fun zw zk => XS.iload X73.here hx rfl (hb hby at_160) rfl zk) ?_
          refine own_st (fun zw zk => XS.iconst X73.here hx rfl (hb hby at_162) zk) ?_
          refine own_st (fun zw zk => XS.icmpYes X73.here hx rfl (pc0 := 163) (pc' := 194) rfl (hb hby at_163) rfl (feq (by decide : ¬ ((3 : Int32) = (1 : Int32)))).2 (by decide) (by decide) zk) ?_
          refine own_st (fun zw zk => XS.iload X73.here hx rfl (hb hby at_194) rfl zk) ?_
          refine own_st (fun zw zk => XS.iconst X73.here hx rfl (hb hby at_196) zk) ?_
          refine own_st (fun zw zk => XS.icmpYes X73.here hx rfl (pc0 := 197) (pc' := 249) rfl (hb hby at_197) rfl (feq (by decide : ¬ ((3 : Int32) = (2 : Int32)))).2 (by decide) (by decide) zk) ?_
          refine own_st (fun zw zk => XS.iload X73.here hx rfl (hb hby at_249) rfl zk) ?_
          refine own_st (fun zw zk => XS.ifNo X73.here hx rfl (hb hby at_251) rfl ((if0 _ _).trans (feq (by decide : ¬ ((1 : Int32) = (0 : Int32)))).1) zk) ?_
          show own_Go p e below G (T73.setTop (mkF m 254 #[.val (.int p0), .val (.int p1), .val (.long q2), .second, .val (.long q3), .second, .val (.int n6), .val (.int at7), .val (.ref b53), .val (.ref b58), .val (.ref b60), .val (.int (((at7 + (3 : Int32)) + (1 : Int32)) + n6)), .val (.int (3 : Int32)), .val (.int (1 : Int32)), .unset] []))
          refine own_st (fun zw zk => XS.aload X73.here hx rfl (hb hby at_254) rfl rfl zk) ?_
          refine own_st (fun zw zk => XS.iload X73.here hx rfl (hb hby at_256) rfl zk) ?_
          refine own_st (fun zw zk => own_bld X73 hx hZ rfl O73_0 (j := at7) (v := (.int ((48 : Int32) + (n6 / (100 : Int32))))) (i := na + 0) (own_nn hat) (own_nat (n := na + 0) hat) P73_1 (g := (mkF m 258 #[.val (.int p0), .val (.int p1), .val (.long q2), .second, .val (.long q3), .second, .val (.int n6), .val (.int at7), .val (.ref b53), .val (.ref b58), .val (.ref b60), .val (.int (((at7 + (3 : Int32)) + (1 : Int32)) + n6)), .val (.int (3 : Int32)), .val (.int (1 : Int32)), .unset] [(.int at7), (.ref b60)])) rfl rfl (hb hby at_258) _ zk) ?_
          refine own_st (fun zw zk => XS.bipush X73.here hx rfl (hb hby at_259) zk) ?_
          refine own_st (fun zw zk => XS.iload X73.here hx rfl (hb hby at_261) rfl zk) ?_
          refine own_st (fun zw zk => XS.bipush X73.here hx rfl (hb hby at_263) zk) ?_
          refine own_st (fun zw zk => XS.idiv X73.here hx rfl (hb hby at_265) rfl (by decide) zk) ?_
          refine own_st (fun zw zk => XS.iadd X73.here hx rfl (hb hby at_266) rfl zk) ?_
          show own_Go p e below G (T73.setTop (mkF m 267 #[.val (.int p0), .val (.int p1), .val (.long q2), .second, .val (.long q3), .second, .val (.int n6), .val (.int at7), .val (.ref b53), .val (.ref b58), .val (.ref b60), .val (.int (((at7 + (3 : Int32)) + (1 : Int32)) + n6)), .val (.int (3 : Int32)), .val (.int (1 : Int32)), .unset] [(.int ((48 : Int32) + (n6 / (100 : Int32)))), (.int ((48 : Int32) + (n6 / (100 : Int32))))]))
          refine own_st (fun zw zk => XS.icmpNo X73.here hx rfl (hb hby at_267) rfl (teq (rfl : ((48 : Int32) + (n6 / (100 : Int32))) = ((48 : Int32) + (n6 / (100 : Int32))))).2 zk) ?_
          refine own_st (fun zw zk => XS.aload X73.here hx rfl (hb hby at_270) rfl rfl zk) ?_
          refine own_st (fun zw zk => XS.iload X73.here hx rfl (hb hby at_272) rfl zk) ?_
          refine own_st (fun zw zk => XS.iconst X73.here hx rfl (hb hby at_274) zk) ?_
          refine own_st (fun zw zk => XS.iadd X73.here hx rfl (hb hby at_275) rfl zk) ?_
          refine own_st (fun zw zk => own_bld X73 hx hZ rfl O73_0 (j := (at7 + (1 : Int32))) (v := (.int ((48 : Int32) + ((n6 / (10 : Int32)) % (10 : Int32))))) (i := na + 1) (own_nn (own_plus hat (by decide : ((1 : Int32)).toInt = (1 : Nat)) (by omega))) (own_nat (n := na + 1) (own_plus hat (by decide : ((1 : Int32)).toInt = (1 : Nat)) (by omega))) P73_2 (g := (mkF m 276 #[.val (.int p0), .val (.int p1), .val (.long q2), .second, .val (.long q3), .second, .val (.int n6), .val (.int at7), .val (.ref b53), .val (.ref b58), .val (.ref b60), .val (.int (((at7 + (3 : Int32)) + (1 : Int32)) + n6)), .val (.int (3 : Int32)), .val (.int (1 : Int32)), .unset] [(.int (at7 + (1 : Int32))), (.ref b60)])) rfl rfl (hb hby at_276) _ zk) ?_
          refine own_st (fun zw zk => XS.bipush X73.here hx rfl (hb hby at_277) zk) ?_
          refine own_st (fun zw zk => XS.iload X73.here hx rfl (hb hby at_279) rfl zk) ?_
          show own_Go p e below G (T73.setTop (mkF m 281 #[.val (.int p0), .val (.int p1), .val (.long q2), .second, .val (.long q3), .second, .val (.int n6), .val (.int at7), .val (.ref b53), .val (.ref b58), .val (.ref b60), .val (.int (((at7 + (3 : Int32)) + (1 : Int32)) + n6)), .val (.int (3 : Int32)), .val (.int (1 : Int32)), .unset] [(.int n6), (.int (48 : Int32)), (.int ((48 : Int32) + ((n6 / (10 : Int32)) % (10 : Int32))))]))
          refine own_st (fun zw zk => XS.bipush X73.here hx rfl (hb hby at_281) zk) ?_
          refine own_st (fun zw zk => XS.idiv X73.here hx rfl (hb hby at_283) rfl (by decide) zk) ?_
          refine own_st (fun zw zk => XS.bipush X73.here hx rfl (hb hby at_284) zk) ?_
          refine own_st (fun zw zk => iremM X73 hx rfl (hb hby at_286) rfl (by decide) zk) ?_
          refine own_st (fun zw zk => XS.iadd X73.here hx rfl (hb hby at_287) rfl zk) ?_
          refine own_st (fun zw zk => XS.icmpNo X73.here hx rfl (hb hby at_288) rfl (teq (rfl : ((48 : Int32) + ((n6 / (10 : Int32)) % (10 : Int32))) = ((48 : Int32) + ((n6 / (10 : Int32)) % (10 : Int32))))).2 zk) ?_
          refine own_st (fun zw zk => XS.aload X73.here hx rfl (hb hby at_291) rfl rfl zk) ?_
          refine own_st (fun zw zk => XS.iload X73.here hx rfl (hb hby at_293) rfl zk) ?_
          show own_Go p e below G (T73.setTop (mkF m 295 #[.val (.int p0), .val (.int p1), .val (.long q2), .second, .val (.long q3), .second, .val (.int n6), .val (.int at7), .val (.ref b53), .val (.ref b58), .val (.ref b60), .val (.int (((at7 + (3 : Int32)) + (1 : Int32)) + n6)), .val (.int (3 : Int32)), .val (.int (1 : Int32)), .unset] [(.int at7), (.ref b60)]))
          refine own_st (fun zw zk => XS.iconst X73.here hx rfl (hb hby at_295) zk) ?_
          refine own_st (fun zw zk => XS.iadd X73.here hx rfl (hb hby at_296) rfl zk) ?_
          refine own_st (fun zw zk => own_bld X73 hx hZ rfl O73_0 (j := (at7 + (2 : Int32))) (v := (.int ((48 : Int32) + (n6 % (10 : Int32))))) (i := na + 2) (own_nn (own_plus hat (by decide : ((2 : Int32)).toInt = (2 : Nat)) (by omega))) (own_nat (n := na + 2) (own_plus hat (by decide : ((2 : Int32)).toInt = (2 : Nat)) (by omega))) P73_3 (g := (mkF m 297 #[.val (.int p0), .val (.int p1), .val (.long q2), .second, .val (.long q3), .second, .val (.int n6), .val (.int at7), .val (.ref b53), .val (.ref b58), .val (.ref b60), .val (.int (((at7 + (3 : Int32)) + (1 : Int32)) + n6)), .val (.int (3 : Int32)), .val (.int (1 : Int32)), .unset] [(.int (at7 + (2 : Int32))), (.ref b60)])) rfl rfl (hb hby at_297) _ zk) ?_
          refine own_st (fun zw zk => XS.bipush X73.here hx rfl (hb hby at_298) zk) ?_
          refine own_st (fun zw zk => XS.iload X73.here hx rfl (hb hby at_300) rfl zk) ?_
          refine own_st (fun zw zk => XS.bipush X73.here hx rfl (hb hby at_302) zk) ?_
          refine own_st (fun zw zk => iremM X73 hx rfl (hb hby at_304) rfl (by decide) zk) ?_
          refine own_st (fun zw zk => XS.iadd X73.here hx rfl (hb hby at_305) rfl zk) ?_
          show own_Go p e below G (T73.setTop (mkF m 306 #[.val (.int p0), .val (.int p1), .val (.long q2), .second, .val (.long q3), .second, .val (.int n6), .val (.int at7), .val (.ref b53), .val (.ref b58), .val (.ref b60), .val (.int (((at7 + (3 : Int32)) + (1 : Int32)) + n6)), .val (.int (3 : Int32)), .val (.int (1 : Int32)), .unset] [(.int ((48 : Int32) + (n6 % (10 : Int32)))), (.int ((48 : Int32) + (n6 % (10 : Int32))))]))
          refine own_st (fun zw zk => XS.icmpNo X73.here hx rfl (hb hby at_306) rfl (teq (rfl : ((48 : Int32) + (n6 % (10 : Int32))) = ((48 : Int32) + (n6 % (10 : Int32))))).2 zk) ?_
          refine own_st (fun zw zk => XS.iconst X73.here hx rfl (hb hby at_309) zk) ?_
          refine own_st (fun zw zk => XS.goto X73.here hx rfl (pc0 := 310) (pc' := 314) rfl (hb hby at_310) (by decide) (by decide) zk) ?_
          show own_Go p e below G (T73.setTop (mkF m 314 #[.val (.int p0), .val (.int p1), .val (.long q2), .second, .val (.long q3), .second, .val (.int n6), .val (.int at7), .val (.ref b53), .val (.ref b58), .val (.ref b60), .val (.int (((at7 + (3 : Int32)) + (1 : Int32)) + n6)), .val (.int (3 : Int32)), .val (.int (1 : Int32)), .unset] [(.int (1 : Int32))]))
          refine own_st (fun zw zk => XS.istore X73.here hx rfl (hb hby at_314) rfl rfl zk) ?_
          show own_Go p e below G (T73.setTop (mkF m 316 #[.val (.int p0), .val (.int p1), .val (.long q2), .second, .val (.long q3), .second, .val (.int n6), .val (.int at7), .val (.ref b53), .val (.ref b58), .val (.ref b60), .val (.int (((at7 + (3 : Int32)) + (1 : Int32)) + n6)), .val (.int (3 : Int32)), .val (.int (1 : Int32)), .unset] []))
          refine own_st (fun zw zk => XS.iload X73.here hx rfl (hb hby at_316) rfl zk) ?_
          refine own_st (fun zw zk => XS.ifNo X73.here hx rfl (hb hby at_318) rfl ((if0 _ _).trans (feq (by decide : ¬ ((1 : Int32) = (0 : Int32)))).1) zk) ?_
          refine own_st (fun zw zk => XS.aload X73.here hx rfl (hb hby at_321) rfl rfl zk) ?_
          refine own_st (fun zw zk => XS.iload X73.here hx rfl (hb hby at_323) rfl zk) ?_
          refine own_st (fun zw zk => XS.iload X73.here hx rfl (hb hby at_325) rfl zk) ?_
          refine own_st (fun zw zk => XS.iadd X73.here hx rfl (hb hby at_327) rfl zk) ?_
          refine own_st (fun zw zk => own_bld X73 hx hZ rfl O73_0 (j := (at7 + (3 : Int32))) (v := (.int (58 : Int32))) (i := na + 3) (own_nn (own_plus hat (by decide : ((3 : Int32)).toInt = (3 : Nat)) (by omega))) (own_nat (own_plus hat (by decide : ((3 : Int32)).toInt = (3 : Nat)) (by omega))) P73_4 (g := (mkF m 328 #[.val (.int p0), .val (.int p1), .val (.long q2), .second, .val (.long q3), .second, .val (.int n6), .val (.int at7), .val (.ref b53), .val (.ref b58), .val (.ref b60), .val (.int (((at7 + (3 : Int32)) + (1 : Int32)) + n6)), .val (.int (3 : Int32)), .val (.int (1 : Int32)), .unset] [(.int (at7 + (3 : Int32))), (.ref b60)])) rfl rfl (hb hby at_328) _ zk) ?_
          refine own_st (fun zw zk => XS.bipush X73.here hx rfl (hb hby at_329) zk) ?_
          show own_Go p e below G (T73.setTop (mkF m 331 #[.val (.int p0), .val (.int p1), .val (.long q2), .second, .val (.long q3), .second, .val (.int n6), .val (.int at7), .val (.ref b53), .val (.ref b58), .val (.ref b60), .val (.int (((at7 + (3 : Int32)) + (1 : Int32)) + n6)), .val (.int (3 : Int32)), .val (.int (1 : Int32)), .unset] [(.int (58 : Int32)), (.int (58 : Int32))]))
          refine own_st (fun zw zk => XS.icmpNo X73.here hx rfl (hb hby at_331) rfl (teq (by decide : (58 : Int32) = (58 : Int32))).2 zk) ?_
          refine own_st (fun zw zk => XS.iconst X73.here hx rfl (hb hby at_334) zk) ?_
          refine own_st (fun zw zk => XS.goto X73.here hx rfl (pc0 := 335) (pc' := 339) rfl (hb hby at_335) (by decide) (by decide) zk) ?_
          show own_Go p e below G (T73.setTop (mkF m 339 #[.val (.int p0), .val (.int p1), .val (.long q2), .second, .val (.long q3), .second, .val (.int n6), .val (.int at7), .val (.ref b53), .val (.ref b58), .val (.ref b60), .val (.int (((at7 + (3 : Int32)) + (1 : Int32)) + n6)), .val (.int (3 : Int32)), .val (.int (1 : Int32)), .unset] [(.int (1 : Int32))]))
          refine own_st (fun zw zk => XS.istore X73.here hx rfl (hb hby at_339) rfl rfl zk) ?_
          show own_Go p e below G (T73.setTop (mkF m 341 #[.val (.int p0), .val (.int p1), .val (.long q2), .second, .val (.long q3), .second, .val (.int n6), .val (.int at7), .val (.ref b53), .val (.ref b58), .val (.ref b60), .val (.int (((at7 + (3 : Int32)) + (1 : Int32)) + n6)), .val (.int (3 : Int32)), .val (.int (1 : Int32)), .unset] []))
          refine own_st (fun zw zk => XS.iload X73.here hx rfl (hb hby at_341) rfl zk) ?_
          refine own_st (fun zw zk => XS.iload X73.here hx rfl (hb hby at_343) rfl zk) ?_
          refine own_st (fun zw zk => XS.iadd X73.here hx rfl (hb hby at_345) rfl zk) ?_
          refine own_st (fun zw zk => XS.iconst X73.here hx rfl (hb hby at_346) zk) ?_
          refine own_st (fun zw zk => XS.iadd X73.here hx rfl (hb hby at_347) rfl zk) ?_
          refine own_st (fun zw zk => XS.istore X73.here hx rfl (hb hby at_348) rfl rfl zk) ?_
          have hbase : (((at7 + (3 : Int32)) + (1 : Int32))).toInt = (na + 4 : Nat) := own_plus (n := na + 3) (k := 1) (own_plus hat (by decide : ((3 : Int32)).toInt = (3 : Nat)) (by omega)) (by decide : (1 : Int32).toInt = (1 : Nat)) (by omega)
          show own_Go p e below G (T73.setTop (mkF m 350 #[.val (.int p0), .val (.int p1), .val (.long q2), .second, .val (.long q3), .second, .val (.int n6), .val (.int at7), .val (.ref b53), .val (.ref b58), .val (.ref b60), .val (.int (((at7 + (3 : Int32)) + (1 : Int32)) + n6)), .val (.int (3 : Int32)), .val (.int (1 : Int32)), .val (.int ((at7 + (3 : Int32)) + (1 : Int32)))] []))
          refine own_st (fun zw zk => XS.iload X73.here hx rfl (hb hby at_350) rfl zk) ?_
          refine own_st (fun zw zk => XS.ifNo X73.here hx rfl (hb hby at_352) rfl ((if0 _ _).trans (feq (by decide : ¬ ((1 : Int32) = (0 : Int32)))).1) zk) ?_
          refine own_st (fun zw zk => XS.aload X73.here hx rfl (hb hby at_355) rfl rfl zk) ?_
          refine own_st (fun zw zk => XS.iload X73.here hx rfl (hb hby at_357) rfl zk) ?_
          refine own_st (fun zw zk => XS.aload X73.here hx rfl (hb hby at_359) rfl rfl zk) ?_
          refine own_st (fun zw zk => XS.iconst X73.here hx rfl (hb hby at_361) zk) ?_
          obtain ⟨_, _, ⟨T74, L74, k74, n74⟩, -, X74, ⟨Lc74, hQ74, l74, y74, z74⟩, st74⟩ := Jvm.LawKit.callS X73 hx (y := (⟨"com/example/portunus/portunus/AtomWriteCanonicalPinLaw", "sameLong", "([BI[BI)Z"⟩ : MethodName)) hown (mvT hZ (hw _ (List.mem_of_getElem? (i := 40) rfl))) (mvT hZ (hw _ (List.mem_of_getElem? (i := 41) rfl))) (mvT hZ (hw _ (List.mem_of_getElem? (i := 3) rfl))) (mvT hZ (hw _ (List.mem_of_getElem? (i := 42) rfl))) (by decide) (backOf (W := 0) (rm7 l Z a0 hw [] b60 ((at7 + (3 : Int32)) + (1 : Int32)) b53 (0 : Int32) vo73 vt n6 (na + 4) 0 nn T73.heap n0 Z73 (O73_0) (Fj570_73) (own_lenz hnn hlen) (hnn) (hlen) (hbase) (by decide) (by omega) (P73_5) (hfit) (by decide)) hZ (hw _ (List.mem_of_getElem? (i := 42) rfl)) (hw _ (List.mem_of_getElem? (i := 3) rfl)) (by decide) (by decide)) (g := (mkF m 362 #[.val (.int p0), .val (.int p1), .val (.long q2), .second, .val (.long q3), .second, .val (.int n6), .val (.int at7), .val (.ref b53), .val (.ref b58), .val (.ref b60), .val (.int (((at7 + (3 : Int32)) + (1 : Int32)) + n6)), .val (.int (3 : Int32)), .val (.int (1 : Int32)), .val (.int ((at7 + (3 : Int32)) + (1 : Int32)))] [(.int (0 : Int32)), (.ref b53), (.int ((at7 + (3 : Int32)) + (1 : Int32))), (.ref b60)])) rfl (by rw [hml]; rfl) (argsL := [(.ref b60), (.int ((at7 + (3 : Int32)) + (1 : Int32))), (.ref b53), (.int (0 : Int32))]) (rest := []) (lenOf pd_2 rfl) rfl (by show 2 * 0 + _ ≤ _; exact Nat.le_of_eq rfl) (hb hby at_362) (fun _ _ => ⟨rfl, rfl, (by decide : 4 + 0 ≤ _), (by decide : 339 + 0 ≤ _)⟩)
          dsimp only [Pt.U, Pt.locs, Pt.cells, Pt.slots] at X74 l74 y74 z74 st74 hQ74
          subst l74 y74 z74
          obtain ⟨rfl, N74q, e74⟩ := hQ74
          have N74 := Fr.app N73 N74q
          refine own_st (fun zw zk => st74 zw zk) ?_
          refine own_st (fun zw zk => XS.ifNo X74.here hx rfl (hb hby at_365) rfl ((if0 _ _).trans (feq (by decide : ¬ ((1 : Int32) = (0 : Int32)))).1) zk) ?_
          show own_Go p e below G (T74.setTop (mkF m 368 #[.val (.int p0), .val (.int p1), .val (.long q2), .second, .val (.long q3), .second, .val (.int n6), .val (.int at7), .val (.ref b53), .val (.ref b58), .val (.ref b60), .val (.int (((at7 + (3 : Int32)) + (1 : Int32)) + n6)), .val (.int (3 : Int32)), .val (.int (1 : Int32)), .val (.int ((at7 + (3 : Int32)) + (1 : Int32)))] []))
          refine own_st (fun zw zk => XS.aload X74.here hx rfl (hb hby at_368) rfl rfl zk) ?_
          refine own_st (fun zw zk => XS.iload X74.here hx rfl (hb hby at_370) rfl zk) ?_
          refine own_st (fun zw zk => XS.aload X74.here hx rfl (hb hby at_372) rfl rfl zk) ?_
          refine own_st (fun zw zk => XS.bipush X74.here hx rfl (hb hby at_374) zk) ?_
          obtain ⟨_, _, ⟨T75, L75, k75, n75⟩, -, X75, ⟨Lc75, hQ75, l75, y75, z75⟩, st75⟩ := Jvm.LawKit.callS X74 hx (y := (⟨"com/example/portunus/portunus/AtomWriteCanonicalPinLaw", "sameLong", "([BI[BI)Z"⟩ : MethodName)) hown (mvT hZ (hw _ (List.mem_of_getElem? (i := 40) rfl))) (mvT hZ (hw _ (List.mem_of_getElem? (i := 41) rfl))) (mvT hZ (hw _ (List.mem_of_getElem? (i := 3) rfl))) (mvT hZ (hw _ (List.mem_of_getElem? (i := 42) rfl))) (by decide) (backOf (W := 0) (rm7 l Z a0 hw [] b60 ((at7 + (3 : Int32)) + (1 : Int32)) b53 (8 : Int32) vo73 vt n6 (na + 4) 8 nn T73.heap n0 Z73 (O73_0) (Fj570_73) (own_lenz hnn hlen) (hnn) (hlen) (hbase) (by decide) (by omega) (P73_5) (hfit) (by decide)) hZ (hw _ (List.mem_of_getElem? (i := 42) rfl)) (hw _ (List.mem_of_getElem? (i := 3) rfl)) (by decide) (by decide)) (g := (mkF m 376 #[.val (.int p0), .val (.int p1), .val (.long q2), .second, .val (.long q3), .second, .val (.int n6), .val (.int at7), .val (.ref b53), .val (.ref b58), .val (.ref b60), .val (.int (((at7 + (3 : Int32)) + (1 : Int32)) + n6)), .val (.int (3 : Int32)), .val (.int (1 : Int32)), .val (.int ((at7 + (3 : Int32)) + (1 : Int32)))] [(.int (8 : Int32)), (.ref b53), (.int ((at7 + (3 : Int32)) + (1 : Int32))), (.ref b60)])) rfl (by rw [hml]; rfl) (argsL := [(.ref b60), (.int ((at7 + (3 : Int32)) + (1 : Int32))), (.ref b53), (.int (8 : Int32))]) (rest := []) (lenOf pd_2 rfl) rfl (by show 2 * 0 + _ ≤ _; exact Nat.le_of_eq rfl) (hb hby at_376) (fun _ _ => ⟨rfl, e74, (by decide : 4 + 0 ≤ _), (by decide : 339 + 0 ≤ _)⟩)
          dsimp only [Pt.U, Pt.locs, Pt.cells, Pt.slots] at X75 l75 y75 z75 st75 hQ75
          subst l75 y75 z75
          obtain ⟨rfl, N75q, e75⟩ := hQ75
          have N75 := Fr.app N74 N75q
          refine own_st (fun zw zk => st75 zw zk) ?_
          refine own_st (fun zw zk => XS.ifNo X75.here hx rfl (hb hby at_379) rfl ((if0 _ _).trans (feq (by decide : ¬ ((1 : Int32) = (0 : Int32)))).1) zk) ?_
          refine own_st (fun zw zk => XS.iconst X75.here hx rfl (hb hby at_382) zk) ?_
          refine own_st (fun zw zk => XS.goto X75.here hx rfl (pc0 := 383) (pc' := 387) rfl (hb hby at_383) (by decide) (by decide) zk) ?_
          show own_Go p e below G (T75.setTop (mkF m 387 #[.val (.int p0), .val (.int p1), .val (.long q2), .second, .val (.long q3), .second, .val (.int n6), .val (.int at7), .val (.ref b53), .val (.ref b58), .val (.ref b60), .val (.int (((at7 + (3 : Int32)) + (1 : Int32)) + n6)), .val (.int (3 : Int32)), .val (.int (1 : Int32)), .val (.int ((at7 + (3 : Int32)) + (1 : Int32)))] [(.int (1 : Int32))]))
          refine own_st (fun zw zk => XS.istore X75.here hx rfl (hb hby at_387) rfl rfl zk) ?_
          have J426_76 : own_Go p e below G (T75.setTop (mkF m 426 #[.val (.int p0), .val (.int p1), .val (.long q2), .second, .val (.long q3), .second, .val (.int n6), .val (.int at7), .val (.ref b53), .val (.ref b58), .val (.ref b60), .val (.int (((at7 + (3 : Int32)) + (1 : Int32)) + n6)), .val (.int (3 : Int32)), .val (.int (1 : Int32)), .val (.int ((at7 + (3 : Int32)) + (1 : Int32)))] [])) := by
            have J464_77 : own_Go p e below G (T75.setTop (mkF m 464 #[.val (.int p0), .val (.int p1), .val (.long q2), .second, .val (.long q3), .second, .val (.int n6), .val (.int at7), .val (.ref b53), .val (.ref b58), .val (.ref b60), .val (.int (((at7 + (3 : Int32)) + (1 : Int32)) + n6)), .val (.int (3 : Int32)), .val (.int (1 : Int32)), .val (.int ((at7 + (3 : Int32)) + (1 : Int32)))] [])) := by
              show own_Go p e below G (T75.setTop (mkF m 464 #[.val (.int p0), .val (.int p1), .val (.long q2), .second, .val (.long q3), .second, .val (.int n6), .val (.int at7), .val (.ref b53), .val (.ref b58), .val (.ref b60), .val (.int (((at7 + (3 : Int32)) + (1 : Int32)) + n6)), .val (.int (3 : Int32)), .val (.int (1 : Int32)), .val (.int ((at7 + (3 : Int32)) + (1 : Int32)))] []))
              refine own_st (fun zw zk => XS.iload X75.here hx rfl (hb hby at_464) rfl zk) ?_
              refine own_st (fun zw zk => XS.ifNo X75.here hx rfl (hb hby at_466) rfl ((if0 _ _).trans (feq (by decide : ¬ ((1 : Int32) = (0 : Int32)))).1) zk) ?_
              refine own_st (fun zw zk => XS.aload X75.here hx rfl (hb hby at_469) rfl rfl zk) ?_
              refine own_st (fun zw zk => XS.iload X75.here hx rfl (hb hby at_471) rfl zk) ?_
              refine own_st (fun zw zk => XS.iload X75.here hx rfl (hb hby at_473) rfl zk) ?_
              refine own_st (fun zw zk => XS.iadd X75.here hx rfl (hb hby at_475) rfl zk) ?_
              refine own_st (fun zw zk => own_bld X75 hx hZ e75 O73_0 (j := (((at7 + (3 : Int32)) + (1 : Int32)) + n6)) (v := (.int (0 : Int32))) (i := na + 4 + nn) (own_nn (own_plus hbase hnn (by omega))) (own_nat (own_plus hbase hnn (by omega))) P73_6 (g := (mkF m 476 #[.val (.int p0), .val (.int p1), .val (.long q2), .second, .val (.long q3), .second, .val (.int n6), .val (.int at7), .val (.ref b53), .val (.ref b58), .val (.ref b60), .val (.int (((at7 + (3 : Int32)) + (1 : Int32)) + n6)), .val (.int (3 : Int32)), .val (.int (1 : Int32)), .val (.int ((at7 + (3 : Int32)) + (1 : Int32)))] [(.int (((at7 + (3 : Int32)) + (1 : Int32)) + n6)), (.ref b60)])) rfl rfl (hb hby at_476) _ zk) ?_
              refine own_st (fun zw zk => XS.ifNo X75.here hx rfl (hb hby at_477) rfl ((if0 _ _).trans (teq (by decide : (0 : Int32) = (0 : Int32))).2) zk) ?_
              show own_Go p e below G (T75.setTop (mkF m 480 #[.val (.int p0), .val (.int p1), .val (.long q2), .second, .val (.long q3), .second, .val (.int n6), .val (.int at7), .val (.ref b53), .val (.ref b58), .val (.ref b60), .val (.int (((at7 + (3 : Int32)) + (1 : Int32)) + n6)), .val (.int (3 : Int32)), .val (.int (1 : Int32)), .val (.int ((at7 + (3 : Int32)) + (1 : Int32)))] []))
              refine own_st (fun zw zk => XS.iconst X75.here hx rfl (hb hby at_480) zk) ?_
              refine own_st (fun zw zk => XS.goto X75.here hx rfl (pc0 := 481) (pc' := 485) rfl (hb hby at_481) (by decide) (by decide) zk) ?_
              show own_Go p e below G (T75.setTop (mkF m 485 #[.val (.int p0), .val (.int p1), .val (.long q2), .second, .val (.long q3), .second, .val (.int n6), .val (.int at7), .val (.ref b53), .val (.ref b58), .val (.ref b60), .val (.int (((at7 + (3 : Int32)) + (1 : Int32)) + n6)), .val (.int (3 : Int32)), .val (.int (1 : Int32)), .val (.int ((at7 + (3 : Int32)) + (1 : Int32)))] [(.int (1 : Int32))]))
              refine own_st (fun zw zk => XS.istore X75.here hx rfl (hb hby at_485) rfl rfl zk) ?_
              have J514_78 : own_Go p e below G (T75.setTop (mkF m 514 #[.val (.int p0), .val (.int p1), .val (.long q2), .second, .val (.long q3), .second, .val (.int n6), .val (.int at7), .val (.ref b53), .val (.ref b58), .val (.ref b60), .val (.int (((at7 + (3 : Int32)) + (1 : Int32)) + n6)), .val (.int (3 : Int32)), .val (.int (1 : Int32)), .val (.int ((at7 + (3 : Int32)) + (1 : Int32)))] [])) := by
                show own_Go p e below G (T75.setTop (mkF m 514 #[.val (.int p0), .val (.int p1), .val (.long q2), .second, .val (.long q3), .second, .val (.int n6), .val (.int at7), .val (.ref b53), .val (.ref b58), .val (.ref b60), .val (.int (((at7 + (3 : Int32)) + (1 : Int32)) + n6)), .val (.int (3 : Int32)), .val (.int (1 : Int32)), .val (.int ((at7 + (3 : Int32)) + (1 : Int32)))] []))
                refine own_st (fun zw zk => XS.iload X75.here hx rfl (hb hby at_514) rfl zk) ?_
                subst hG
                obtain ⟨fs, hr, hrun, hended, hW, hsame⟩ := X75.leave (v := some (.int (1 : Int32))) (hlocks := Bd.notSynchronized) (fun h => by rw [Bd.returns] at h; cases h)
                refine ⟨_, retN X75 hx (t := .boolean) Bd.returns (by simp) (hb hby at_516) hr, _, hrun, hended, _, _, rfl, ?_, ⟨_, rfl⟩, hW, hsame.mono (by decide) (by decide)⟩
                show Q0 Z p0 p1 q2 q3 h0 n0 _ T75.heap _
                rw [e75]
                exact ⟨rfl, N75⟩
              show own_Go p e below G (T75.setTop (mkF m 487 #[.val (.int p0), .val (.int p1), .val (.long q2), .second, .val (.long q3), .second, .val (.int n6), .val (.int at7), .val (.ref b53), .val (.ref b58), .val (.ref b60), .val (.int (((at7 + (3 : Int32)) + (1 : Int32)) + n6)), .val (.int (3 : Int32)), .val (.int (1 : Int32)), .val (.int ((at7 + (3 : Int32)) + (1 : Int32)))] []))
              refine own_st (fun zw zk => XS.iload X75.here hx rfl (hb hby at_487) rfl zk) ?_
              by_cases hc489 : (0 : Int32) < at7
              · refine own_st (fun zw zk => XS.ifNo X75.here hx rfl (hb hby at_489) rfl ((if0 _ _).trans (tlt hc489).2.2.2) zk) ?_
                refine own_st (fun zw zk => XS.iload X75.here hx rfl (hb hby at_492) rfl zk) ?_
                refine own_st (fun zw zk => XS.ifNo X75.here hx rfl (hb hby at_494) rfl ((if0 _ _).trans (feq (by decide : ¬ ((1 : Int32) = (0 : Int32)))).1) zk) ?_
                refine own_st (fun zw zk => XS.aload X75.here hx rfl (hb hby at_497) rfl rfl zk) ?_
                refine own_st (fun zw zk => XS.iload X75.here hx rfl (hb hby at_499) rfl zk) ?_
                refine own_st (fun zw zk => XS.iconst X75.here hx rfl (hb hby at_501) zk) ?_
                refine own_st (fun zw zk => XS.isub X75.here hx rfl (hb hby at_502) rfl zk) ?_
                show own_Go p e below G (T75.setTop (mkF m 503 #[.val (.int p0), .val (.int p1), .val (.long q2), .second, .val (.long q3), .second, .val (.int n6), .val (.int at7), .val (.ref b53), .val (.ref b58), .val (.ref b60), .val (.int (((at7 + (3 : Int32)) + (1 : Int32)) + n6)), .val (.int (3 : Int32)), .val (.int (1 : Int32)), .val (.int ((at7 + (3 : Int32)) + (1 : Int32)))] [(.int (at7 - (1 : Int32))), (.ref b60)]))
                refine own_st (fun zw zk => own_bld X75 hx hZ e75 O73_0 (j := (at7 - (1 : Int32))) (v := (.int (0 : Int32))) (i := na - 1) (own_nn (own_dec (n := na - 1) (by have := own_posn hat hc489; omega))) (own_nat (own_dec (n := na - 1) (by have := own_posn hat hc489; omega))) (P73_7 (own_posn hat hc489)) (g := (mkF m 503 #[.val (.int p0), .val (.int p1), .val (.long q2), .second, .val (.long q3), .second, .val (.int n6), .val (.int at7), .val (.ref b53), .val (.ref b58), .val (.ref b60), .val (.int (((at7 + (3 : Int32)) + (1 : Int32)) + n6)), .val (.int (3 : Int32)), .val (.int (1 : Int32)), .val (.int ((at7 + (3 : Int32)) + (1 : Int32)))] [(.int (at7 - (1 : Int32))), (.ref b60)])) rfl rfl (hb hby at_503) _ zk) ?_
                refine own_st (fun zw zk => XS.ifNo X75.here hx rfl (hb hby at_504) rfl ((if0 _ _).trans (teq (by decide : (0 : Int32) = (0 : Int32))).2) zk) ?_
                refine own_st (fun zw zk => XS.iconst X75.here hx rfl (hb hby at_507) zk) ?_
                refine own_st (fun zw zk => XS.goto X75.here hx rfl (pc0 := 508) (pc' := 512) rfl (hb hby at_508) (by decide) (by decide) zk) ?_
                show own_Go p e below G (T75.setTop (mkF m 512 #[.val (.int p0), .val (.int p1), .val (.long q2), .second, .val (.long q3), .second, .val (.int n6), .val (.int at7), .val (.ref b53), .val (.ref b58), .val (.ref b60), .val (.int (((at7 + (3 : Int32)) + (1 : Int32)) + n6)), .val (.int (3 : Int32)), .val (.int (1 : Int32)), .val (.int ((at7 + (3 : Int32)) + (1 : Int32)))] [(.int (1 : Int32))]))
                refine own_st (fun zw zk => XS.istore X75.here hx rfl (hb hby at_512) rfl rfl zk) ?_
                show own_Go p e below G (T75.setTop (mkF m 514 #[.val (.int p0), .val (.int p1), .val (.long q2), .second, .val (.long q3), .second, .val (.int n6), .val (.int at7), .val (.ref b53), .val (.ref b58), .val (.ref b60), .val (.int (((at7 + (3 : Int32)) + (1 : Int32)) + n6)), .val (.int (3 : Int32)), .val (.int (1 : Int32)), .val (.int ((at7 + (3 : Int32)) + (1 : Int32)))] []))
                exact J514_78
              · refine own_st (fun zw zk => XS.ifYes X75.here hx rfl (pc0 := 489) (pc' := 514) rfl (hb hby at_489) rfl ((if0 _ _).trans (flt hc489).2.2.2) (by decide) (by decide) zk) ?_
                show own_Go p e below G (T75.setTop (mkF m 514 #[.val (.int p0), .val (.int p1), .val (.long q2), .second, .val (.long q3), .second, .val (.int n6), .val (.int at7), .val (.ref b53), .val (.ref b58), .val (.ref b60), .val (.int (((at7 + (3 : Int32)) + (1 : Int32)) + n6)), .val (.int (3 : Int32)), .val (.int (1 : Int32)), .val (.int ((at7 + (3 : Int32)) + (1 : Int32)))] []))
                exact J514_78
            show own_Go p e below G (T75.setTop (mkF m 426 #[.val (.int p0), .val (.int p1), .val (.long q2), .second, .val (.long q3), .second, .val (.int n6), .val (.int at7), .val (.ref b53), .val (.ref b58), .val (.ref b60), .val (.int (((at7 + (3 : Int32)) + (1 : Int32)) + n6)), .val (.int (3 : Int32)), .val (.int (1 : Int32)), .val (.int ((at7 + (3 : Int32)) + (1 : Int32)))] []))
            refine own_st (fun zw zk => XS.iload X75.here hx rfl (hb hby at_426) rfl zk) ?_
            refine own_st (fun zw zk => XS.iconst X75.here hx rfl (hb hby at_428) zk) ?_
            by_cases hc429 : (2 : Int32) < n6
            · refine own_st (fun zw zk => XS.icmpNo X75.here hx rfl (hb hby at_429) rfl (tlt hc429).2.2.2 zk) ?_
              refine own_st (fun zw zk => XS.iload X75.here hx rfl (hb hby at_432) rfl zk) ?_
              refine own_st (fun zw zk => XS.ifNo X75.here hx rfl (hb hby at_434) rfl ((if0 _ _).trans (feq (by decide : ¬ ((1 : Int32) = (0 : Int32)))).1) zk) ?_
              refine own_st (fun zw zk => XS.aload X75.here hx rfl (hb hby at_437) rfl rfl zk) ?_
              refine own_st (fun zw zk => XS.iload X75.here hx rfl (hb hby at_439) rfl zk) ?_
              refine own_st (fun zw zk => XS.iload X75.here hx rfl (hb hby at_441) rfl zk) ?_
              show own_Go p e below G (T75.setTop (mkF m 443 #[.val (.int p0), .val (.int p1), .val (.long q2), .second, .val (.long q3), .second, .val (.int n6), .val (.int at7), .val (.ref b53), .val (.ref b58), .val (.ref b60), .val (.int (((at7 + (3 : Int32)) + (1 : Int32)) + n6)), .val (.int (3 : Int32)), .val (.int (1 : Int32)), .val (.int ((at7 + (3 : Int32)) + (1 : Int32)))] [(.int n6), (.int ((at7 + (3 : Int32)) + (1 : Int32))), (.ref b60)]))
              refine own_st (fun zw zk => XS.iconst X75.here hx rfl (hb hby at_443) zk) ?_
              refine own_st (fun zw zk => XS.idiv X75.here hx rfl (hb hby at_444) rfl (by decide) zk) ?_
              refine own_st (fun zw zk => XS.iadd X75.here hx rfl (hb hby at_445) rfl zk) ?_
              obtain ⟨z, hz⟩ := own_isint (vs := vt) (k := nn / 2) (by rw [hlen]; have := own_pos2 hnn hc429; omega) hfit
              refine own_st (fun zw zk => own_bld X75 hx hZ e75 O73_0 (j := (((at7 + (3 : Int32)) + (1 : Int32)) + (n6 / (2 : Int32)))) (v := (.int z)) (i := na + 4 + (nn / 2)) (own_nn (own_plus hbase (own_halfn hnn) (by omega))) (own_nat (own_plus hbase (own_halfn hnn) (by omega))) ((P73_5 (nn / 2) (by have := own_pos2 hnn hc429; omega)).trans hz) (g := (mkF m 446 #[.val (.int p0), .val (.int p1), .val (.long q2), .second, .val (.long q3), .second, .val (.int n6), .val (.int at7), .val (.ref b53), .val (.ref b58), .val (.ref b60), .val (.int (((at7 + (3 : Int32)) + (1 : Int32)) + n6)), .val (.int (3 : Int32)), .val (.int (1 : Int32)), .val (.int ((at7 + (3 : Int32)) + (1 : Int32)))] [(.int (((at7 + (3 : Int32)) + (1 : Int32)) + (n6 / (2 : Int32)))), (.ref b60)])) rfl rfl (hb hby at_446) _ zk) ?_
              refine own_st (fun zw zk => XS.aload X75.here hx rfl (hb hby at_447) rfl rfl zk) ?_
              refine own_st (fun zw zk => XS.iload X75.here hx rfl (hb hby at_449) rfl zk) ?_
              refine own_st (fun zw zk => XS.iconst X75.here hx rfl (hb hby at_451) zk) ?_
              refine own_st (fun zw zk => XS.idiv X75.here hx rfl (hb hby at_452) rfl (by decide) zk) ?_
              show own_Go p e below G (T75.setTop (mkF m 453 #[.val (.int p0), .val (.int p1), .val (.long q2), .second, .val (.long q3), .second, .val (.int n6), .val (.int at7), .val (.ref b53), .val (.ref b58), .val (.ref b60), .val (.int (((at7 + (3 : Int32)) + (1 : Int32)) + n6)), .val (.int (3 : Int32)), .val (.int (1 : Int32)), .val (.int ((at7 + (3 : Int32)) + (1 : Int32)))] [(.int (n6 / (2 : Int32))), (.ref b53), (.int z)]))
              refine own_st (fun zw zk => own_bld X75 hx hZ e75 Fj570_73 (j := (n6 / (2 : Int32))) (v := (.int z)) (i := nn / 2) (own_nn (own_halfn hnn)) (own_nat (own_halfn hnn)) hz (g := (mkF m 453 #[.val (.int p0), .val (.int p1), .val (.long q2), .second, .val (.long q3), .second, .val (.int n6), .val (.int at7), .val (.ref b53), .val (.ref b58), .val (.ref b60), .val (.int (((at7 + (3 : Int32)) + (1 : Int32)) + n6)), .val (.int (3 : Int32)), .val (.int (1 : Int32)), .val (.int ((at7 + (3 : Int32)) + (1 : Int32)))] [(.int (n6 / (2 : Int32))), (.ref b53), (.int z)])) rfl rfl (hb hby at_453) _ zk) ?_
              refine own_st (fun zw zk => XS.icmpNo X75.here hx rfl (hb hby at_454) rfl (teq (rfl : z = z)).2 zk) ?_
              refine own_st (fun zw zk => XS.iconst X75.here hx rfl (hb hby at_457) zk) ?_
              refine own_st (fun zw zk => XS.goto X75.here hx rfl (pc0 := 458) (pc' := 462) rfl (hb hby at_458) (by decide) (by decide) zk) ?_
              show own_Go p e below G (T75.setTop (mkF m 462 #[.val (.int p0), .val (.int p1), .val (.long q2), .second, .val (.long q3), .second, .val (.int n6), .val (.int at7), .val (.ref b53), .val (.ref b58), .val (.ref b60), .val (.int (((at7 + (3 : Int32)) + (1 : Int32)) + n6)), .val (.int (3 : Int32)), .val (.int (1 : Int32)), .val (.int ((at7 + (3 : Int32)) + (1 : Int32)))] [(.int (1 : Int32))]))
              refine own_st (fun zw zk => XS.istore X75.here hx rfl (hb hby at_462) rfl rfl zk) ?_
              show own_Go p e below G (T75.setTop (mkF m 464 #[.val (.int p0), .val (.int p1), .val (.long q2), .second, .val (.long q3), .second, .val (.int n6), .val (.int at7), .val (.ref b53), .val (.ref b58), .val (.ref b60), .val (.int (((at7 + (3 : Int32)) + (1 : Int32)) + n6)), .val (.int (3 : Int32)), .val (.int (1 : Int32)), .val (.int ((at7 + (3 : Int32)) + (1 : Int32)))] []))
              exact J464_77
            · refine own_st (fun zw zk => XS.icmpYes X75.here hx rfl (pc0 := 429) (pc' := 464) rfl (hb hby at_429) rfl (flt hc429).2.2.2 (by decide) (by decide) zk) ?_
              show own_Go p e below G (T75.setTop (mkF m 464 #[.val (.int p0), .val (.int p1), .val (.long q2), .second, .val (.long q3), .second, .val (.int n6), .val (.int at7), .val (.ref b53), .val (.ref b58), .val (.ref b60), .val (.int (((at7 + (3 : Int32)) + (1 : Int32)) + n6)), .val (.int (3 : Int32)), .val (.int (1 : Int32)), .val (.int ((at7 + (3 : Int32)) + (1 : Int32)))] []))
              exact J464_77
          show own_Go p e below G (T75.setTop (mkF m 389 #[.val (.int p0), .val (.int p1), .val (.long q2), .second, .val (.long q3), .second, .val (.int n6), .val (.int at7), .val (.ref b53), .val (.ref b58), .val (.ref b60), .val (.int (((at7 + (3 : Int32)) + (1 : Int32)) + n6)), .val (.int (3 : Int32)), .val (.int (1 : Int32)), .val (.int ((at7 + (3 : Int32)) + (1 : Int32)))] []))
          refine own_st (fun zw zk => XS.iload X75.here hx rfl (hb hby at_389) rfl zk) ?_
          by_cases hc391 : (0 : Int32) < n6
          · refine own_st (fun zw zk => XS.ifNo X75.here hx rfl (hb hby at_391) rfl ((if0 _ _).trans (tlt hc391).2.2.2) zk) ?_
            refine own_st (fun zw zk => XS.iload X75.here hx rfl (hb hby at_394) rfl zk) ?_
            refine own_st (fun zw zk => XS.ifNo X75.here hx rfl (hb hby at_396) rfl ((if0 _ _).trans (feq (by decide : ¬ ((1 : Int32) = (0 : Int32)))).1) zk) ?_
            refine own_st (fun zw zk => XS.aload X75.here hx rfl (hb hby at_399) rfl rfl zk) ?_
            refine own_st (fun zw zk => XS.iload X75.here hx rfl (hb hby at_401) rfl zk) ?_
            refine own_st (fun zw zk => XS.iload X75.here hx rfl (hb hby at_403) rfl zk) ?_
            refine own_st (fun zw zk => XS.iadd X75.here hx rfl (hb hby at_405) rfl zk) ?_
            show own_Go p e below G (T75.setTop (mkF m 406 #[.val (.int p0), .val (.int p1), .val (.long q2), .second, .val (.long q3), .second, .val (.int n6), .val (.int at7), .val (.ref b53), .val (.ref b58), .val (.ref b60), .val (.int (((at7 + (3 : Int32)) + (1 : Int32)) + n6)), .val (.int (3 : Int32)), .val (.int (1 : Int32)), .val (.int ((at7 + (3 : Int32)) + (1 : Int32)))] [(.int (((at7 + (3 : Int32)) + (1 : Int32)) + n6)), (.ref b60)]))
            refine own_st (fun zw zk => XS.iconst X75.here hx rfl (hb hby at_406) zk) ?_
            refine own_st (fun zw zk => XS.isub X75.here hx rfl (hb hby at_407) rfl zk) ?_
            obtain ⟨z, hz⟩ := own_isint (vs := vt) (k := nn - 1) (by rw [hlen]; have := own_posn hnn hc391; omega) hfit
            refine own_st (fun zw zk => own_bld X75 hx hZ e75 O73_0 (j := ((((at7 + (3 : Int32)) + (1 : Int32)) + n6) - (1 : Int32))) (v := (.int z)) (i := na + 4 + (nn - 1)) (own_nn (own_dec (n := na + 4 + (nn - 1)) (by have q := own_plus hbase hnn (by omega); have := own_posn hnn hc391; omega))) (own_nat (own_dec (n := na + 4 + (nn - 1)) (by have q := own_plus hbase hnn (by omega); have := own_posn hnn hc391; omega))) ((P73_5 (nn - 1) (by have := own_posn hnn hc391; omega)).trans hz) (g := (mkF m 408 #[.val (.int p0), .val (.int p1), .val (.long q2), .second, .val (.long q3), .second, .val (.int n6), .val (.int at7), .val (.ref b53), .val (.ref b58), .val (.ref b60), .val (.int (((at7 + (3 : Int32)) + (1 : Int32)) + n6)), .val (.int (3 : Int32)), .val (.int (1 : Int32)), .val (.int ((at7 + (3 : Int32)) + (1 : Int32)))] [(.int ((((at7 + (3 : Int32)) + (1 : Int32)) + n6) - (1 : Int32))), (.ref b60)])) rfl rfl (hb hby at_408) _ zk) ?_
            refine own_st (fun zw zk => XS.aload X75.here hx rfl (hb hby at_409) rfl rfl zk) ?_
            refine own_st (fun zw zk => XS.iload X75.here hx rfl (hb hby at_411) rfl zk) ?_
            refine own_st (fun zw zk => XS.iconst X75.here hx rfl (hb hby at_413) zk) ?_
            refine own_st (fun zw zk => XS.isub X75.here hx rfl (hb hby at_414) rfl zk) ?_
            refine own_st (fun zw zk => own_bld X75 hx hZ e75 Fj570_73 (j := (n6 - (1 : Int32))) (v := (.int z)) (i := nn - 1) (own_nn (own_dec (n := nn - 1) (by have := own_posn hnn hc391; omega))) (own_nat (own_dec (n := nn - 1) (by have := own_posn hnn hc391; omega))) hz (g := (mkF m 415 #[.val (.int p0), .val (.int p1), .val (.long q2), .second, .val (.long q3), .second, .val (.int n6), .val (.int at7), .val (.ref b53), .val (.ref b58), .val (.ref b60), .val (.int (((at7 + (3 : Int32)) + (1 : Int32)) + n6)), .val (.int (3 : Int32)), .val (.int (1 : Int32)), .val (.int ((at7 + (3 : Int32)) + (1 : Int32)))] [(.int (n6 - (1 : Int32))), (.ref b53), (.int z)])) rfl rfl (hb hby at_415) _ zk) ?_
            show own_Go p e below G (T75.setTop (mkF m 416 #[.val (.int p0), .val (.int p1), .val (.long q2), .second, .val (.long q3), .second, .val (.int n6), .val (.int at7), .val (.ref b53), .val (.ref b58), .val (.ref b60), .val (.int (((at7 + (3 : Int32)) + (1 : Int32)) + n6)), .val (.int (3 : Int32)), .val (.int (1 : Int32)), .val (.int ((at7 + (3 : Int32)) + (1 : Int32)))] [(.int z), (.int z)]))
            refine own_st (fun zw zk => XS.icmpNo X75.here hx rfl (hb hby at_416) rfl (teq (rfl : z = z)).2 zk) ?_
            refine own_st (fun zw zk => XS.iconst X75.here hx rfl (hb hby at_419) zk) ?_
            refine own_st (fun zw zk => XS.goto X75.here hx rfl (pc0 := 420) (pc' := 424) rfl (hb hby at_420) (by decide) (by decide) zk) ?_
            show own_Go p e below G (T75.setTop (mkF m 424 #[.val (.int p0), .val (.int p1), .val (.long q2), .second, .val (.long q3), .second, .val (.int n6), .val (.int at7), .val (.ref b53), .val (.ref b58), .val (.ref b60), .val (.int (((at7 + (3 : Int32)) + (1 : Int32)) + n6)), .val (.int (3 : Int32)), .val (.int (1 : Int32)), .val (.int ((at7 + (3 : Int32)) + (1 : Int32)))] [(.int (1 : Int32))]))
            refine own_st (fun zw zk => XS.istore X75.here hx rfl (hb hby at_424) rfl rfl zk) ?_
            show own_Go p e below G (T75.setTop (mkF m 426 #[.val (.int p0), .val (.int p1), .val (.long q2), .second, .val (.long q3), .second, .val (.int n6), .val (.int at7), .val (.ref b53), .val (.ref b58), .val (.ref b60), .val (.int (((at7 + (3 : Int32)) + (1 : Int32)) + n6)), .val (.int (3 : Int32)), .val (.int (1 : Int32)), .val (.int ((at7 + (3 : Int32)) + (1 : Int32)))] []))
            exact J426_76
          · refine own_st (fun zw zk => XS.ifYes X75.here hx rfl (pc0 := 391) (pc' := 426) rfl (hb hby at_391) rfl ((if0 _ _).trans (flt hc391).2.2.2) (by decide) (by decide) zk) ?_
            show own_Go p e below G (T75.setTop (mkF m 426 #[.val (.int p0), .val (.int p1), .val (.long q2), .second, .val (.long q3), .second, .val (.int n6), .val (.int at7), .val (.ref b53), .val (.ref b58), .val (.ref b60), .val (.int (((at7 + (3 : Int32)) + (1 : Int32)) + n6)), .val (.int (3 : Int32)), .val (.int (1 : Int32)), .val (.int ((at7 + (3 : Int32)) + (1 : Int32)))] []))
            exact J426_76
      show own_Go p e below G (Tj56.setTop (mkF m 66 #[.val (.int p0), .val (.int p1), .val (.long q2), .second, .val (.long q3), .second, .val (.int n6), .val (.int at7), .val (.ref b53), .unset, .unset, .unset, .unset, .unset, .unset] []))
      refine own_st (fun zw zk => XS.iload Xj56.here hx rfl (hb hby at_66) rfl zk) ?_
      refine own_st (fun zw zk => XS.iconst Xj56.here hx rfl (hb hby at_68) zk) ?_
      by_cases hc69 : (2 : Int32) < n6
      · refine own_st (fun zw zk => XS.icmpNo Xj56.here hx rfl (hb hby at_69) rfl (tlt hc69).2.2.2 zk) ?_
        refine own_st (fun zw zk => XS.aload Xj56.here hx rfl (hb hby at_72) rfl rfl zk) ?_
        refine own_st (fun zw zk => XS.iload Xj56.here hx rfl (hb hby at_74) rfl zk) ?_
        refine own_st (fun zw zk => XS.iconst Xj56.here hx rfl (hb hby at_76) zk) ?_
        refine own_st (fun zw zk => XS.idiv Xj56.here hx rfl (hb hby at_77) rfl (by decide) zk) ?_
        refine own_st (fun zw zk => XS.iloadN Xj56.here hx rfl (hb hby at_78) rfl zk) ?_
        show own_Go p e below G (Tj56.setTop (mkF m 79 #[.val (.int p0), .val (.int p1), .val (.long q2), .second, .val (.long q3), .second, .val (.int n6), .val (.int at7), .val (.ref b53), .unset, .unset, .unset, .unset, .unset, .unset] [(.int p0), (.int (n6 / (2 : Int32))), (.ref b53)]))
        refine own_st (fun zw zk => XS.bipush Xj56.here hx rfl (hb hby at_79) zk) ?_
        refine own_st (fun zw zk => XS.iushr Xj56.here hx rfl (hb hby at_81) rfl zk) ?_
        refine own_st (fun zw zk => XS.i2b Xj56.here hx rfl (hb hby at_82) rfl zk) ?_
        obtain ⟨T79, h79, X79, e79, W79, V79, st79⟩ := own_bst Xj56 hx hZ ej56 V84 (j := (n6 / (2 : Int32))) (nn / 2) (own_nn (own_halfn hnn)) (own_nat (own_halfn hnn)) (by rw [hl84]; have := own_pos2 hnn hc69; omega) (g := (mkF m 83 #[.val (.int p0), .val (.int p1), .val (.long q2), .second, .val (.long q3), .second, .val (.int n6), .val (.int at7), .val (.ref b53), .unset, .unset, .unset, .unset, .unset, .unset] [(.int (((p0.toUInt32 >>> ((16 : Int32) &&& 31).toUInt32).toInt32).toInt8.toInt32)), (.int (n6 / (2 : Int32))), (.ref b53)])) rfl rfl (hb hby at_83)
        have Fj560_79 : own_L Z h79 b53 .byte ((vs84.set (nn / 2) (.int ((((p0.toUInt32 >>> ((16 : Int32) &&& 31).toUInt32).toInt32).toInt8.toInt32).toInt8.toInt32)))) := V79
        have N79 := Fr.snoc X79 Nj56 G53
        refine own_st (fun zw zk => st79 zw zk) ?_
        have Fj561_79 := Fj56_1.wr W79
        have Z79 : n0 ≤ h79.size := Nat.le_trans Zj56 (Keep.of_wr W79).1
        show own_Go p e below G (T79.setTop (mkF m 84 #[.val (.int p0), .val (.int p1), .val (.long q2), .second, .val (.long q3), .second, .val (.int n6), .val (.int at7), .val (.ref b53), .unset, .unset, .unset, .unset, .unset, .unset] []))
        exact J84_57 ((vs84.set (nn / 2) (.int ((((p0.toUInt32 >>> ((16 : Int32) &&& 31).toUInt32).toInt32).toInt8.toInt32).toInt8.toInt32)))) _ Z79 Fj560_79 Fj561_79 _ _ X79 e79 N79 ((by rw [List.length_set]; exact hl84)) ((own_setfit hf84 (fits_nar_byte _)))
      · refine own_st (fun zw zk => XS.icmpYes Xj56.here hx rfl (pc0 := 69) (pc' := 84) rfl (hb hby at_69) rfl (flt hc69).2.2.2 (by decide) (by decide) zk) ?_
        show own_Go p e below G (Tj56.setTop (mkF m 84 #[.val (.int p0), .val (.int p1), .val (.long q2), .second, .val (.long q3), .second, .val (.int n6), .val (.int at7), .val (.ref b53), .unset, .unset, .unset, .unset, .unset, .unset] []))
        exact J84_57 (vs84) _ Zj56 V84 Fj56_1 _ _ Xj56 ej56 Nj56 (hl84) (hf84)
    show own_Go p e below G (T55.setTop (mkF m 49 #[.val (.int p0), .val (.int p1), .val (.long q2), .second, .val (.long q3), .second, .val (.int n6), .val (.int at7), .val (.ref b53), .unset, .unset, .unset, .unset, .unset, .unset] []))
    refine own_st (fun zw zk => XS.iload X55.here hx rfl (hb hby at_49) rfl zk) ?_
    by_cases hc51 : (0 : Int32) < n6
    · refine own_st (fun zw zk => XS.ifNo X55.here hx rfl (hb hby at_51) rfl ((if0 _ _).trans (tlt hc51).2.2.2) zk) ?_
      refine own_st (fun zw zk => XS.aload X55.here hx rfl (hb hby at_54) rfl rfl zk) ?_
      refine own_st (fun zw zk => XS.iload X55.here hx rfl (hb hby at_56) rfl zk) ?_
      refine own_st (fun zw zk => XS.iconst X55.here hx rfl (hb hby at_58) zk) ?_
      refine own_st (fun zw zk => XS.isub X55.here hx rfl (hb hby at_59) rfl zk) ?_
      refine own_st (fun zw zk => XS.iloadN X55.here hx rfl (hb hby at_60) rfl zk) ?_
      refine own_st (fun zw zk => XS.bipush X55.here hx rfl (hb hby at_61) zk) ?_
      show own_Go p e below G (T55.setTop (mkF m 63 #[.val (.int p0), .val (.int p1), .val (.long q2), .second, .val (.long q3), .second, .val (.int n6), .val (.int at7), .val (.ref b53), .unset, .unset, .unset, .unset, .unset, .unset] [(.int (8 : Int32)), (.int p0), (.int (n6 - (1 : Int32))), (.ref b53)]))
      refine own_st (fun zw zk => XS.iushr X55.here hx rfl (hb hby at_63) rfl zk) ?_
      refine own_st (fun zw zk => XS.i2b X55.here hx rfl (hb hby at_64) rfl zk) ?_
      obtain ⟨T80, h80, X80, e80, W80, V80, st80⟩ := own_bst X55 hx hZ rfl V66 (j := (n6 - (1 : Int32))) (nn - 1) (own_nn (own_dec (n := nn - 1) (by have := own_posn hnn hc51; omega))) (own_nat (own_dec (n := nn - 1) (by have := own_posn hnn hc51; omega))) (by rw [hl66]; have := own_posn hnn hc51; omega) (g := (mkF m 65 #[.val (.int p0), .val (.int p1), .val (.long q2), .second, .val (.long q3), .second, .val (.int n6), .val (.int at7), .val (.ref b53), .unset, .unset, .unset, .unset, .unset, .unset] [(.int (((p0.toUInt32 >>> ((8 : Int32) &&& 31).toUInt32).toInt32).toInt8.toInt32)), (.int (n6 - (1 : Int32))), (.ref b53)])) rfl rfl (hb hby at_65)
      have Ob53L_80 : own_L Z h80 b53 .byte ((vs66.set (nn - 1) (.int ((((p0.toUInt32 >>> ((8 : Int32) &&& 31).toUInt32).toInt32).toInt8.toInt32).toInt8.toInt32)))) := V80
      have N80 := Fr.snoc X80 N55 G53
      refine own_st (fun zw zk => st80 zw zk) ?_
      have Bb53_80 := Bb53_55.wr W80
      have Z80 : n0 ≤ h80.size := Nat.le_trans Z55 (Keep.of_wr W80).1
      show own_Go p e below G (T80.setTop (mkF m 66 #[.val (.int p0), .val (.int p1), .val (.long q2), .second, .val (.long q3), .second, .val (.int n6), .val (.int at7), .val (.ref b53), .unset, .unset, .unset, .unset, .unset, .unset] []))
      exact J66_56 ((vs66.set (nn - 1) (.int ((((p0.toUInt32 >>> ((8 : Int32) &&& 31).toUInt32).toInt32).toInt8.toInt32).toInt8.toInt32)))) _ Z80 Ob53L_80 Bb53_80 _ _ X80 e80 N80 ((by rw [List.length_set]; exact hl66)) ((own_setfit hf66 (fits_nar_byte _)))
    · refine own_st (fun zw zk => XS.ifYes X55.here hx rfl (pc0 := 51) (pc' := 66) rfl (hb hby at_51) rfl ((if0 _ _).trans (flt hc51).2.2.2) (by decide) (by decide) zk) ?_
      show own_Go p e below G (T55.setTop (mkF m 66 #[.val (.int p0), .val (.int p1), .val (.long q2), .second, .val (.long q3), .second, .val (.int n6), .val (.int at7), .val (.ref b53), .unset, .unset, .unset, .unset, .unset, .unset] []))
      exact J66_56 (vs66) _ Z55 V66 Bb53_55 _ _ X55 rfl N55 (hl66) (hf66)
  show own_Go p e below G (s₁.setTop (mkF m 0 #[.val (.int p0), .val (.int p1), .val (.long q2), .second, .val (.long q3), .second, .unset, .unset, .unset, .unset, .unset, .unset, .unset, .unset, .unset] []))
  refine own_st (fun zw zk => XS.iloadN X0.here hx rfl (hb hby at_0) rfl zk) ?_
  refine own_st (fun zw zk => XS.bipush X0.here hx rfl (hb hby at_1) zk) ?_
  refine own_st (fun zw zk => XS.iand X0.here hx rfl (hb hby at_3) rfl zk) ?_
  refine own_st (fun zw zk => XS.iloadN X0.here hx rfl (hb hby at_4) rfl zk) ?_
  refine own_st (fun zw zk => XS.iconst X0.here hx rfl (hb hby at_5) zk) ?_
  refine own_st (fun zw zk => XS.iushr X0.here hx rfl (hb hby at_6) rfl zk) ?_
  refine own_st (fun zw zk => XS.iconst X0.here hx rfl (hb hby at_7) zk) ?_
  refine own_st (fun zw zk => XS.iand X0.here hx rfl (hb hby at_8) rfl zk) ?_
  show own_Go p e below G (s₁.setTop (mkF m 9 #[.val (.int p0), .val (.int p1), .val (.long q2), .second, .val (.long q3), .second, .unset, .unset, .unset, .unset, .unset, .unset, .unset, .unset, .unset] [(.int (((p0.toUInt32 >>> ((4 : Int32) &&& 31).toUInt32).toInt32) &&& (1 : Int32))), (.int (p0 &&& (15 : Int32)))]))
  by_cases hc9 : (((p0.toUInt32 >>> ((4 : Int32) &&& 31).toUInt32).toInt32) &&& (1 : Int32)) = (0 : Int32)
  · refine own_st (fun zw zk => XS.ifYes X0.here hx rfl (pc0 := 9) (pc' := 17) rfl (hb hby at_9) rfl ((if0 _ _).trans (teq hc9).1) (by decide) (by decide) zk) ?_
    refine own_st (fun zw zk => XS.iconst X0.here hx rfl (hb hby at_17) zk) ?_
    refine own_st (fun zw zk => XS.iadd X0.here hx rfl (hb hby at_18) rfl zk) ?_
    refine own_st (fun zw zk => XS.istore X0.here hx rfl (hb hby at_19) rfl rfl zk) ?_
    show own_Go p e below G (s₁.setTop (mkF m 21 #[.val (.int p0), .val (.int p1), .val (.long q2), .second, .val (.long q3), .second, .val (.int ((p0 &&& (15 : Int32)) + (0 : Int32))), .unset, .unset, .unset, .unset, .unset, .unset, .unset, .unset] []))
    exact J21_52 ((p0 &&& (15 : Int32)) + (0 : Int32)) (((p0 &&& (15 : Int32)) + (0 : Int32)).toInt.toNat) ((own_n2 p0).1) ((own_n2 p0).2)
  · refine own_st (fun zw zk => XS.ifNo X0.here hx rfl (hb hby at_9) rfl ((if0 _ _).trans (feq hc9).1) zk) ?_
    refine own_st (fun zw zk => XS.bipush X0.here hx rfl (hb hby at_12) zk) ?_
    refine own_st (fun zw zk => XS.goto X0.here hx rfl (pc0 := 14) (pc' := 18) rfl (hb hby at_14) (by decide) (by decide) zk) ?_
    show own_Go p e below G (s₁.setTop (mkF m 18 #[.val (.int p0), .val (.int p1), .val (.long q2), .second, .val (.long q3), .second, .unset, .unset, .unset, .unset, .unset, .unset, .unset, .unset, .unset] [(.int (90 : Int32)), (.int (p0 &&& (15 : Int32)))]))
    refine own_st (fun zw zk => XS.iadd X0.here hx rfl (hb hby at_18) rfl zk) ?_
    refine own_st (fun zw zk => XS.istore X0.here hx rfl (hb hby at_19) rfl rfl zk) ?_
    show own_Go p e below G (s₁.setTop (mkF m 21 #[.val (.int p0), .val (.int p1), .val (.long q2), .second, .val (.long q3), .second, .val (.int ((p0 &&& (15 : Int32)) + (90 : Int32))), .unset, .unset, .unset, .unset, .unset, .unset, .unset, .unset] []))
    exact J21_52 ((p0 &&& (15 : Int32)) + (90 : Int32)) (((p0 &&& (15 : Int32)) + (90 : Int32)).toInt.toNat) ((own_n1 p0).1) ((own_n1 p0).2)
set_option maxRecDepth 65536 in
set_option maxHeartbeats 40000000 in
theorem comes_1 {Post : Tables → Env → Array Value → State → Outcome → State → Prop} (hpost : ∀ tb e args s v u, (limb_1_1.after args s (.returned v) u = true ∧ limb_1_2.after args s (.returned v) u = true ∧ True) → FrameEnd s (.returned v) u (Jvm.fieldLocs frame_1_writes args s ++ Jvm.arrayLocs frame_1_arrays args s ++ Jvm.staticLocs frame_1_statics s) 16 768 → Post tb e args s (.returned v) u) :
    ArmFor flags0 classFile x code maxLocals ret World_1 tables_1 room_1 Calls_1 rest_1 Pre_1 Post := by
  intro l hfl _ _ p e ha hc hk s m args below hf hA hF happ hP
  obtain ⟨hcalls, hrest, hpre⟩ := hP
  obtain ⟨-, -, -, hnamed, -, -, -, hat⟩ := (Spec.applies_iff hf).mp happ
  obtain ⟨hg, hn⟩ := and_e (Cond.before_iff.mp (show (Jvm.Cond.and given_1 narrow_1).before args s = true from hpre))
  obtain ⟨g1, g2⟩ := and_e hg
  obtain ⟨g3, g4⟩ := and_e g2
  obtain ⟨g5, g6⟩ := and_e g4
  obtain ⟨g7, g8⟩ := and_e g6
  obtain ⟨w0, w1, w2, w3, rfl⟩ : ∃ w0 w1 w2 w3 : Value, args = #[w0, w1, w2, w3] := by
    have hs : args.size = 4 := by simpa [Cond.value, given_1] using g1
    obtain ⟨L⟩ := args
    match L, hs with
    | [w0, w1, w2, w3], _ => exact ⟨w0, w1, w2, w3, rfl⟩
  have hw := fun d (hd : d ∈ tables_1) => atoms_spec (ws := Jvm.Cond.code x code maxLocals ret :: tables_1) hat d (List.mem_cons_of_mem _ hd)
  obtain ⟨i0, ei0⟩ := is_v g3
  obtain rfl : w0 = (.int i0) := Option.some.inj ei0
  obtain ⟨i1, ei1⟩ := is_v g5
  obtain rfl : w1 = (.int i1) := Option.some.inj ei1
  obtain ⟨i2, ei2⟩ := isL_v g7
  obtain rfl : w2 = (.long i2) := Option.some.inj ei2
  obtain ⟨i3, ei3⟩ := isL_v g8
  obtain rfl : w3 = (.long i3) := Option.some.inj ei3
  obtain ⟨n, o, h1, h2, h3, _, L, rfl, ⟨rfl, N⟩, hq⟩ := rm0 l s _ hw tables_1 i0 i1 i2 i3 s.heap s.heap.size (Nat.le_refl _) p e ha hc hk s m _ below hf ((Spec.applies_iff_loose hf).mp happ).1 ⟨rfl, State.Warmed39.refl s, rfl⟩ trivial
  refine ⟨n, _, h1, h2, h3, hpost _ _ _ _ _ _ ⟨Cond.after_iff.mpr rfl, Cond.after_iff.mpr (eq_i res_at (Term.int_eval (1)) rfl), trivial⟩ ⟨hq.1, hq.2.1, (hq.2.2.sift fun y hy => Or.inr (N y hy)).mono (by decide) (by decide)⟩⟩
theorem main_1_1 : Claimed_1_1 := comes_1 fun _ _ _ _ _ _ h hF => ⟨h.1, hF⟩
theorem main_1_2 : Claimed_1_2 := comes_1 fun _ _ _ _ _ _ h hF => ⟨h.2.1, hF⟩
end Jvm.Pilot.@@N@@
namespace Jvm.Pilot.@@N@@
open Jvm Jvm.ClassFile Sem Op Lib Jvm.Free Jvm.Stand Jvm.Pilot.@@N@@.Jvm.D
/-! MADE BY PROGRAM (witnessworld.py) out of the Statement's table words and the real class files: 11 classes; the members and pool entries that the words name. The judged class is class 1, her method 1. -/
namespace start1
open Jvm.ClassFile
def u (s : String) : CpInfo := .utf8 (stringToUtf16 s)
/-- a pool by its gaps: so many unusable entries, then the entry; so many at the end -/
def gap : Nat → List CpInfo → List CpInfo
  | 0, r => r
  | n + 1, r => .unusable :: gap n r
def poolList (es : List (Nat × CpInfo)) (last : Nat) : List CpInfo := es.foldr (fun e r => gap e.1 (e.2 :: r)) (gap last [])
def pool (es : List (Nat × CpInfo)) (last : Nat) : Array CpInfo := ⟨poolList es last⟩
def fileOf (pool : Array CpInfo) (this : Nat) (attrs : Array Attribute := #[]) (ms : Array MethodInfo := #[]) (fl : Nat := 33) (sup : Nat := 0) (ifs : Array Nat := #[]) (fds : Array FieldInfo := #[]) : ClassFile where
  minorVersion := 0
  majorVersion := 65
  constantPool := pool
  accessFlags := fl
  thisClass := this
  superClass := sup
  interfaces := ifs
  fields := fds
  methods := ms
  attributes := attrs
def plain (name : String) (sup : Option ClassId) : Class where
  name := name
  kind := .ordinary
  loader := none
  accessFlags := 33
  super := sup
  interfaces := #[]
  cf := none
  fields := #[]
  methods := #[]
  instanceTypes := #[]
  staticTypes := #[]
  resolved := #[]
  callSites := []
  init := .initialized
  statics := none
  mirror := none

def pool0 : Array CpInfo := pool [(5, u "<init>"), (0, u "()V"), (1, .class_ 10), (1, u "java/lang/Object"), (85, u "clone"), (0, u "()Ljava/lang/Object;")] 26

def k0c0 : Code := { maxStack := 0, maxLocals := 1, code := object_method_1_code, exceptionTable := #[], attributes := #[] }
def k0m0 : Method := { name := "<init>", desc := "()V", sig := { parameters := [], returnType := none }, accessFlags := 1, code := some k0c0 }
def k0m1 : Method := { name := "clone", desc := "()Ljava/lang/Object;", sig := { parameters := [], returnType := some (.object "java/lang/Object") }, accessFlags := 260, code := none }
/-- java/lang/Object -/
def k0 : Class := { plain "java/lang/Object" none with
  accessFlags := 33
  interfaces := #[]
  cf := some (fileOf pool0 8 #[] #[{ accessFlags := 1, nameIndex := 5, descriptorIndex := 6, attributes := #[] }, { accessFlags := 260, nameIndex := 96, descriptorIndex := 97, attributes := #[] }] 33 0 #[] #[])
  fields := #[]
  methods := #[k0m0, k0m1]
  instanceTypes := #[]
  staticTypes := #[]
  resolved := Array.replicate 124 none
  statics := none }

def pool1 : Array CpInfo := pool [(2, .class_ 4), (1, u "java/lang/Object"), (0, u "<init>"), (0, u "()V"), (0, .methodref 8 9), (0, .class_ 10), (0, .nameAndType 11 12), (0, u "com/example/portunus/portunus/AtomWriteCanonicalPinLaw"), (0, u "fillLong"), (0, u "([BIJ)V"), (0, .class_ 14), (0, u "com/example/portunus/portunus/Atom"), (0, .methodref 13 16), (0, .nameAndType 5 17), (0, u "([B)V"), (0, .methodref 13 19), (0, .nameAndType 20 21), (0, u "writeCanonical"), (0, u "([BI)I"), (0, .methodref 8 23), (0, .nameAndType 24 25), (0, u "sameLong"), (0, u "([BI[BI)Z"), (0, .methodref 8 27), (0, .nameAndType 28 29), (0, u "put"), (0, u "([BIB)V"), (0, .methodref 8 31), (0, .nameAndType 32 25), (0, u "same"), (2, u "law"), (0, u "(IIJJ)Z")] 5

def k1m0 : Method := { name := "<init>", desc := "()V", sig := { parameters := [], returnType := none }, accessFlags := 1, code := none }
def k1c1 : Code := { maxStack := 4, maxLocals := 15, code := code, exceptionTable := #[], attributes := #[] }
def k1m1 : Method := { name := "law", desc := "(IIJJ)Z", sig := { parameters := [.int, .int, .long, .long], returnType := some .boolean }, accessFlags := 9, code := some k1c1 }
def k1c2 : Code := { maxStack := 3, maxLocals := 3, code := method_3_code, exceptionTable := #[], attributes := #[] }
def k1m2 : Method := { name := "put", desc := "([BIB)V", sig := { parameters := [(.array .byte), .int, .byte], returnType := none }, accessFlags := 10, code := some k1c2 }
def k1c3 : Code := { maxStack := 5, maxLocals := 4, code := method_4_code, exceptionTable := #[], attributes := #[] }
def k1m3 : Method := { name := "fillLong", desc := "([BIJ)V", sig := { parameters := [(.array .byte), .int, .long], returnType := none }, accessFlags := 10, code := some k1c3 }
def k1c4 : Code := { maxStack := 3, maxLocals := 4, code := method_5_code, exceptionTable := #[], attributes := #[] }
def k1m4 : Method := { name := "same", desc := "([BI[BI)Z", sig := { parameters := [(.array .byte), .int, (.array .byte), .int], returnType := some .boolean }, accessFlags := 10, code := some k1c4 }
def k1c5 : Code := { maxStack := 5, maxLocals := 4, code := method_6_code, exceptionTable := #[], attributes := #[] }
def k1m5 : Method := { name := "sameLong", desc := "([BI[BI)Z", sig := { parameters := [(.array .byte), .int, (.array .byte), .int], returnType := some .boolean }, accessFlags := 10, code := some k1c5 }
/-- com/example/portunus/portunus/AtomWriteCanonicalPinLaw -/
def k1 : Class := { plain "com/example/portunus/portunus/AtomWriteCanonicalPinLaw" (some 0) with
  accessFlags := 49
  interfaces := #[]
  cf := some (fileOf pool1 8 #[] #[{ accessFlags := 1, nameIndex := 5, descriptorIndex := 6, attributes := #[] }, { accessFlags := 9, nameIndex := 35, descriptorIndex := 36, attributes := #[] }, { accessFlags := 10, nameIndex := 28, descriptorIndex := 29, attributes := #[] }, { accessFlags := 10, nameIndex := 11, descriptorIndex := 12, attributes := #[] }, { accessFlags := 10, nameIndex := 32, descriptorIndex := 25, attributes := #[] }, { accessFlags := 10, nameIndex := 24, descriptorIndex := 25, attributes := #[] }] 49 2 #[] #[])
  fields := #[]
  methods := #[k1m0, k1m1, k1m2, k1m3, k1m4, k1m5]
  instanceTypes := #[]
  staticTypes := #[]
  resolved := Array.replicate 42 none
  statics := none }

def pool2 : Array CpInfo := pool [(2, .class_ 4), (1, u "com/example/portunus/portunus/Sexp"), (20, .class_ 26), (0, u "java/lang/Object")] 12

/-- com/example/portunus/portunus/Sexp -/
def k2 : Class := { plain "com/example/portunus/portunus/Sexp" (some 0) with
  accessFlags := 1536
  interfaces := #[]
  cf := some (fileOf pool2 2 #[] #[] 1536 25 #[] #[])
  fields := #[]
  methods := #[]
  instanceTypes := #[]
  staticTypes := #[]
  resolved := Array.replicate 39 none
  statics := none }

def pool3 : Array CpInfo := pool [(1, .methodref 2 3), (0, .class_ 4), (0, .nameAndType 5 6), (0, u "java/lang/Object"), (0, u "<init>"), (0, u "()V"), (0, .methodref 8 9), (0, .class_ 10), (0, .nameAndType 11 12), (0, u "[B"), (0, u "clone"), (0, u "()Ljava/lang/Object;"), (0, .fieldref 14 15), (0, .class_ 16), (0, .nameAndType 17 10), (0, u "com/example/portunus/portunus/Atom"), (0, u "bytes"), (14, u "([B)V"), (12, .methodref 14 46), (0, .nameAndType 47 48), (0, u "digits"), (0, u "(I)I"), (0, .methodref 50 51), (0, .class_ 52), (0, .nameAndType 53 54), (0, u "java/lang/System"), (0, u "arraycopy"), (0, u "(Ljava/lang/Object;ILjava/lang/Object;II)V"), (48, .class_ 104), (0, u "com/example/portunus/portunus/Sexp"), (0, u "TOKEN_PUNCTUATION"), (0, u "Ljava/lang/String;"), (11, u "writeCanonical"), (0, u "([BI)I")] 9

def k3c0 : Code := { maxStack := 2, maxLocals := 2, code := prog_2_method_1_code, exceptionTable := #[], attributes := #[] }
def k3m0 : Method := { name := "<init>", desc := "([B)V", sig := { parameters := [(.array .byte)], returnType := none }, accessFlags := 0, code := some k3c0 }
def k3c1 : Code := { maxStack := 5, maxLocals := 6, code := prog_2_method_8_code, exceptionTable := #[], attributes := #[] }
def k3m1 : Method := { name := "writeCanonical", desc := "([BI)I", sig := { parameters := [(.array .byte), .int], returnType := some .int }, accessFlags := 1, code := some k3c1 }
def k3c2 : Code := { maxStack := 2, maxLocals := 3, code := prog_2_method_14_code, exceptionTable := #[], attributes := #[] }
def k3m2 : Method := { name := "digits", desc := "(I)I", sig := { parameters := [.int], returnType := some .int }, accessFlags := 10, code := some k3c2 }
/-- com/example/portunus/portunus/Atom -/
def k3 : Class := { plain "com/example/portunus/portunus/Atom" (some 0) with
  accessFlags := 48
  interfaces := #[2]
  cf := some (fileOf pool3 14 #[] #[{ accessFlags := 0, nameIndex := 5, descriptorIndex := 32, attributes := #[] }, { accessFlags := 1, nameIndex := 118, descriptorIndex := 119, attributes := #[] }, { accessFlags := 10, nameIndex := 47, descriptorIndex := 48, attributes := #[] }] 48 2 #[103] #[{ accessFlags := 26, nameIndex := 105, descriptorIndex := 106, attributes := #[] }, { accessFlags := 18, nameIndex := 17, descriptorIndex := 10, attributes := #[] }])
  fields := #[{ name := "TOKEN_PUNCTUATION", type := (.object "java/lang/String"), accessFlags := 26, slot := 0, constantValue := 0 }, { name := "bytes", type := (.array .byte), accessFlags := 18, slot := 0, constantValue := 0 }]
  methods := #[k3m0, k3m1, k3m2]
  instanceTypes := #[(.array .byte)]
  staticTypes := #[(.object "java/lang/String")]
  resolved := Array.replicate 129 none
  statics := none }

def pool4 : Array CpInfo := pool [(1, .class_ 2), (0, u "java/lang/Cloneable"), (0, .class_ 4), (0, u "java/lang/Object")] 2

/-- java/lang/Cloneable -/
def k4 : Class := { plain "java/lang/Cloneable" (some 0) with
  accessFlags := 1537
  interfaces := #[]
  cf := some (fileOf pool4 1 #[] #[] 1537 3 #[] #[])
  fields := #[]
  methods := #[]
  instanceTypes := #[]
  staticTypes := #[]
  resolved := Array.replicate 7 none
  statics := none }

def pool5 : Array CpInfo := pool [(2, .class_ 4), (1, u "java/lang/Object"), (0, u "<init>"), (0, u "()V"), (1, .class_ 10), (1, u "java/lang/System"), (0, u "allowSecurityManager"), (0, u "I"), (16, u "cons"), (0, u "Ljava/io/Console;"), (77, .class_ 110), (1, u "java/lang/System$CallersHolder"), (43, u "initialErrStream"), (0, u "Ljava/io/PrintStream;"), (19, u "security"), (0, u "Ljava/lang/SecurityManager;"), (31, .class_ 209), (0, u "java/lang/System$1"), (7, u "props"), (0, u "Ljava/util/Properties;"), (2, u "lineSeparator"), (0, u "Ljava/lang/String;"), (96, .class_ 321), (1, u "java/lang/System$LoggerFinder"), (5, .class_ 328), (0, u "java/lang/System$Logger"), (67, u "err"), (2, u "out"), (91, u "notSupportedJnuEncoding"), (15, u "in"), (17, u "initialIn"), (0, u "Ljava/io/InputStream;"), (35, u "bootLayer"), (0, u "Ljava/lang/ModuleLayer;"), (99, .class_ 664), (0, u "java/lang/System$2"), (9, u "NEVER"), (2, u "MAYBE"), (49, u "arraycopy"), (0, u "(Ljava/lang/Object;ILjava/lang/Object;II)V"), (72, .class_ 802), (0, u "java/lang/System$Logger$Level")] 31

def k5m0 : Method := { name := "<init>", desc := "()V", sig := { parameters := [], returnType := none }, accessFlags := 2, code := none }
def k5m1 : Method := { name := "arraycopy", desc := "(Ljava/lang/Object;ILjava/lang/Object;II)V", sig := { parameters := [(.object "java/lang/Object"), .int, (.object "java/lang/Object"), .int, .int], returnType := none }, accessFlags := 265, code := none }
/-- java/lang/System -/
def k5 : Class := { plain "java/lang/System" (some 0) with
  accessFlags := 49
  interfaces := #[]
  cf := some (fileOf pool5 8 #[.nestMembers #[319, 327, 801, 108, 663, 208]] #[{ accessFlags := 2, nameIndex := 5, descriptorIndex := 6, attributes := #[] }, { accessFlags := 265, nameIndex := 727, descriptorIndex := 728, attributes := #[] }] 49 2 #[] #[{ accessFlags := 25, nameIndex := 507, descriptorIndex := 526, attributes := #[] }, { accessFlags := 25, nameIndex := 399, descriptorIndex := 155, attributes := #[] }, { accessFlags := 25, nameIndex := 396, descriptorIndex := 155, attributes := #[] }, { accessFlags := 10, nameIndex := 525, descriptorIndex := 526, attributes := #[] }, { accessFlags := 26, nameIndex := 674, descriptorIndex := 12, attributes := #[] }, { accessFlags := 26, nameIndex := 677, descriptorIndex := 12, attributes := #[] }, { accessFlags := 10, nameIndex := 11, descriptorIndex := 12, attributes := #[] }, { accessFlags := 74, nameIndex := 175, descriptorIndex := 176, attributes := #[] }, { accessFlags := 10, nameIndex := 491, descriptorIndex := 222, attributes := #[] }, { accessFlags := 74, nameIndex := 29, descriptorIndex := 30, attributes := #[] }, { accessFlags := 74, nameIndex := 154, descriptorIndex := 155, attributes := #[] }, { accessFlags := 10, nameIndex := 217, descriptorIndex := 218, attributes := #[] }, { accessFlags := 10, nameIndex := 221, descriptorIndex := 222, attributes := #[] }, { accessFlags := 8, nameIndex := 562, descriptorIndex := 563, attributes := #[] }])
  fields := #[{ name := "in", type := (.object "java/io/InputStream"), accessFlags := 25, slot := 0, constantValue := 0 }, { name := "out", type := (.object "java/io/PrintStream"), accessFlags := 25, slot := 1, constantValue := 0 }, { name := "err", type := (.object "java/io/PrintStream"), accessFlags := 25, slot := 2, constantValue := 0 }, { name := "initialIn", type := (.object "java/io/InputStream"), accessFlags := 10, slot := 3, constantValue := 0 }, { name := "NEVER", type := .int, accessFlags := 26, slot := 4, constantValue := 0 }, { name := "MAYBE", type := .int, accessFlags := 26, slot := 5, constantValue := 0 }, { name := "allowSecurityManager", type := .int, accessFlags := 10, slot := 6, constantValue := 0 }, { name := "security", type := (.object "java/lang/SecurityManager"), accessFlags := 74, slot := 7, constantValue := 0 }, { name := "notSupportedJnuEncoding", type := (.object "java/lang/String"), accessFlags := 10, slot := 8, constantValue := 0 }, { name := "cons", type := (.object "java/io/Console"), accessFlags := 74, slot := 9, constantValue := 0 }, { name := "initialErrStream", type := (.object "java/io/PrintStream"), accessFlags := 74, slot := 10, constantValue := 0 }, { name := "props", type := (.object "java/util/Properties"), accessFlags := 10, slot := 11, constantValue := 0 }, { name := "lineSeparator", type := (.object "java/lang/String"), accessFlags := 10, slot := 12, constantValue := 0 }, { name := "bootLayer", type := (.object "java/lang/ModuleLayer"), accessFlags := 8, slot := 13, constantValue := 0 }]
  methods := #[k5m0, k5m1]
  instanceTypes := #[]
  staticTypes := #[(.object "java/io/InputStream"), (.object "java/io/PrintStream"), (.object "java/io/PrintStream"), (.object "java/io/InputStream"), .int, .int, .int, (.object "java/lang/SecurityManager"), (.object "java/lang/String"), (.object "java/io/Console"), (.object "java/io/PrintStream"), (.object "java/util/Properties"), (.object "java/lang/String"), (.object "java/lang/ModuleLayer")]
  resolved := Array.replicate 834 none
  statics := none }

def pool6 : Array CpInfo := pool [(1, u "java/io/Serializable"), (0, .class_ 1), (0, u "java/lang/Object"), (0, .class_ 3)] 3

/-- java/io/Serializable -/
def k6 : Class := { plain "java/io/Serializable" (some 0) with
  accessFlags := 1537
  interfaces := #[]
  cf := some (fileOf pool6 2 #[] #[] 1537 4 #[] #[])
  fields := #[]
  methods := #[]
  instanceTypes := #[]
  staticTypes := #[]
  resolved := Array.replicate 8 none
  statics := none }

/-- the primitive byte -/
def k7 : Class := { plain "byte" none with kind := .primitive 'B', accessFlags := 0x411 }
/-- [B -/
def k8 : Class := { plain "[B" (some 0) with kind := .array 7 .byte, interfaces := #[4, 6], accessFlags := 1041 }

/-- the primitive int -/
def k9 : Class := { plain "int" none with kind := .primitive 'I', accessFlags := 0x411 }
/-- [I -/
def k10 : Class := { plain "[I" (some 0) with kind := .array 9 .int, interfaces := #[4, 6], accessFlags := 1041 }

def heap : Heap := #[]
def classes : Array Class := #[k0, k1, k2, k3, k4, k5, k6, k7, k8, k9, k10]
def interned : List (Array UInt16 × Addr) := []
def slotsUsed : Nat := 0
def theMethod : MethodId := ⟨1, 1⟩
def args0 : Array Value := #[.int 5, .int 6, .long 7, .long 1]
def aboutOver (below : List Frame) : State where
  vm := { classes := classes, interned := interned.toArray }
  heap := heap
  slotsUsed := slotsUsed
  threads := #[{ frames := .invoking theMethod args0 :: below }]
def below0 : List Frame := [.native { method := ⟨0, 0⟩, args := #[] }]
def about1 : State := aboutOver below0
def p0 : Program := .bare "" "" ""
def e0 : Env := launch0.env 0 0 0
theorem w_frames : about1.frames = Frame.invoking theMethod args0 :: below0 := rfl
set_option maxRecDepth 65536 in
theorem w_args : argsFit about1.vm theMethod args0 = true := by decide +kernel
set_option maxRecDepth 65536 in
theorem w_heap : heapFits about1 = true := by decide +kernel
set_option maxRecDepth 65536 in
theorem w_runnable : about1.curStatus? = some .runnable := by decide +kernel
set_option maxRecDepth 65536 in
theorem w_alone : about1.alone = true := by decide +kernel
set_option maxRecDepth 65536 in
theorem w_named : about1.methodNamed? x = some theMethod := by decide +kernel
set_option maxRecDepth 65536 in
theorem w_hears : about1.hears theMethod below0 = true := by decide +kernel
set_option maxRecDepth 65536 in
theorem w_ripe : about1.ripe theMethod args0 below0 = true := by decide +kernel
theorem w_running : about1.status = .running := rfl
set_option maxRecDepth 65536 in
theorem w_room : about1.hasRoom e0.platform room_1 = true :=
  launch0.hasRoom_least _ room_1 (by decide +kernel) (by decide +kernel) (by decide +kernel) (by decide +kernel) (by decide +kernel) (by decide +kernel)
theorem allAtoms_all (ts : List Jvm.Cond) (a : Array Jvm.Value) (st : Jvm.State) : (allAtoms ts).before a st = ts.all (fun c => c.before a st) := by
  induction ts with
  | nil => rfl
  | cons c t ih =>
    show (Jvm.Cond.and c (allAtoms t)).before a st = _
    rw [Jvm.Cond.before_and, ih, List.all_cons]
def words1 : List Jvm.Cond := Jvm.Cond.code x code maxLocals ret :: tables_1
/-- a 'code' word, met by the world's own term for the bytes: nothing is compared byte by byte -/
theorem code_word {y : MethodName} {bytes : ByteArray} {mx : Nat} {rt : Option FieldType} {a : Array Value} {s : State} {m : MethodId} {meth : Method} {c : Code} (h1 : s.methodNamed? y = some m) (h2 : s.vm.method? m = some meth) (h3 : meth.code = some c) (h4 : c.code = bytes)
    (h5 : (c.maxLocals == mx && c.exceptionTable.isEmpty && decide (c.maxStack ≤ mostOperands) && decide (meth.sig.returnType = rt) && !meth.locks && decide (parseMethodDescriptor y.desc = some meth.sig)) = true) : (Jvm.Cond.code y bytes mx rt).before a s = true := by
  simp only [Bool.and_eq_true, beq_iff_eq, Bool.not_eq_true', decide_eq_true_eq] at h5
  obtain ⟨⟨⟨⟨⟨g1, g2⟩, g3⟩, g4⟩, g5⟩, g6⟩ := h5
  simp [Cond.before, Cond.holds, Cond.value, h1, h2, h3, h4, g1, g2, g3, g4, g5, g6]
def isCode : Jvm.Cond → Bool
  | .code _ _ _ _ => true
  | _ => false
theorem all_split {L : List Jvm.Cond} {P : Jvm.Cond → Bool} (h1 : L.all (fun c => isCode c || P c) = true) (h2 : ∀ c ∈ L.filter isCode, P c = true) : L.all P = true := by
  refine List.all_eq_true.mpr fun c hc => ?_
  have h := List.all_eq_true.mp h1 c hc
  rcases Bool.eq_false_or_eq_true (isCode c) with hi | hi
  · exact h2 c (List.mem_filter.mpr ⟨hc, hi⟩)
  · simpa [hi] using h
set_option maxRecDepth 65536 in
theorem w_c0 : (Jvm.Cond.code x code maxLocals ret).before args0 about1 = true := code_word (m := ⟨1, 1⟩) (meth := k1m1) (c := k1c1) (by decide +kernel) rfl rfl rfl (by decide +kernel)
set_option maxRecDepth 65536 in
theorem w_c1 : (Jvm.Cond.code ({ cls := "com/example/portunus/portunus/AtomWriteCanonicalPinLaw", name := "fillLong", desc := "([BIJ)V" } : Jvm.MethodName) method_4_code (4 : Nat) (Option.none : Option Jvm.ClassFile.FieldType)).before args0 about1 = true := code_word (m := ⟨1, 3⟩) (meth := k1m3) (c := k1c3) (by decide +kernel) rfl rfl rfl (by decide +kernel)
set_option maxRecDepth 65536 in
theorem w_c2 : (Jvm.Cond.code ({ cls := "com/example/portunus/portunus/AtomWriteCanonicalPinLaw", name := "put", desc := "([BIB)V" } : Jvm.MethodName) method_3_code (3 : Nat) (Option.none : Option Jvm.ClassFile.FieldType)).before args0 about1 = true := code_word (m := ⟨1, 2⟩) (meth := k1m2) (c := k1c2) (by decide +kernel) rfl rfl rfl (by decide +kernel)
set_option maxRecDepth 65536 in
theorem w_c3 : (Jvm.Cond.code ({ cls := "com/example/portunus/portunus/Atom", name := "<init>", desc := "([B)V" } : Jvm.MethodName) prog_2_method_1_code (2 : Nat) (Option.none : Option Jvm.ClassFile.FieldType)).before args0 about1 = true := code_word (m := ⟨3, 0⟩) (meth := k3m0) (c := k3c0) (by decide +kernel) rfl rfl rfl (by decide +kernel)
set_option maxRecDepth 65536 in
theorem w_c4 : (Jvm.Cond.code ({ cls := "java/lang/Object", name := "<init>", desc := "()V" } : Jvm.MethodName) object_method_1_code (1 : Nat) (Option.none : Option Jvm.ClassFile.FieldType)).before args0 about1 = true := code_word (m := ⟨0, 0⟩) (meth := k0m0) (c := k0c0) (by decide +kernel) rfl rfl rfl (by decide +kernel)
set_option maxRecDepth 65536 in
theorem w_c5 : (Jvm.Cond.code ({ cls := "com/example/portunus/portunus/Atom", name := "writeCanonical", desc := "([BI)I" } : Jvm.MethodName) prog_2_method_8_code (6 : Nat) (Option.some Jvm.ClassFile.FieldType.int)).before args0 about1 = true := code_word (m := ⟨3, 1⟩) (meth := k3m1) (c := k3c1) (by decide +kernel) rfl rfl rfl (by decide +kernel)
set_option maxRecDepth 65536 in
theorem w_c6 : (Jvm.Cond.code ({ cls := "com/example/portunus/portunus/Atom", name := "digits", desc := "(I)I" } : Jvm.MethodName) prog_2_method_14_code (3 : Nat) (Option.some Jvm.ClassFile.FieldType.int)).before args0 about1 = true := code_word (m := ⟨3, 2⟩) (meth := k3m2) (c := k3c2) (by decide +kernel) rfl rfl rfl (by decide +kernel)
set_option maxRecDepth 65536 in
theorem w_c7 : (Jvm.Cond.code ({ cls := "com/example/portunus/portunus/AtomWriteCanonicalPinLaw", name := "sameLong", desc := "([BI[BI)Z" } : Jvm.MethodName) method_6_code (4 : Nat) (Option.some Jvm.ClassFile.FieldType.boolean)).before args0 about1 = true := code_word (m := ⟨1, 5⟩) (meth := k1m5) (c := k1c5) (by decide +kernel) rfl rfl rfl (by decide +kernel)
set_option maxRecDepth 65536 in
theorem w_c8 : (Jvm.Cond.code ({ cls := "com/example/portunus/portunus/AtomWriteCanonicalPinLaw", name := "same", desc := "([BI[BI)Z" } : Jvm.MethodName) method_5_code (4 : Nat) (Option.some Jvm.ClassFile.FieldType.boolean)).before args0 about1 = true := code_word (m := ⟨1, 4⟩) (meth := k1m4) (c := k1c4) (by decide +kernel) rfl rfl rfl (by decide +kernel)
def codes1 : List Jvm.Cond := [Jvm.Cond.code x code maxLocals ret, Jvm.Cond.code ({ cls := "com/example/portunus/portunus/AtomWriteCanonicalPinLaw", name := "fillLong", desc := "([BIJ)V" } : Jvm.MethodName) method_4_code (4 : Nat) (Option.none : Option Jvm.ClassFile.FieldType), Jvm.Cond.code ({ cls := "com/example/portunus/portunus/AtomWriteCanonicalPinLaw", name := "put", desc := "([BIB)V" } : Jvm.MethodName) method_3_code (3 : Nat) (Option.none : Option Jvm.ClassFile.FieldType), Jvm.Cond.code ({ cls := "com/example/portunus/portunus/Atom", name := "<init>", desc := "([B)V" } : Jvm.MethodName) prog_2_method_1_code (2 : Nat) (Option.none : Option Jvm.ClassFile.FieldType), Jvm.Cond.code ({ cls := "java/lang/Object", name := "<init>", desc := "()V" } : Jvm.MethodName) object_method_1_code (1 : Nat) (Option.none : Option Jvm.ClassFile.FieldType), Jvm.Cond.code ({ cls := "com/example/portunus/portunus/Atom", name := "writeCanonical", desc := "([BI)I" } : Jvm.MethodName) prog_2_method_8_code (6 : Nat) (Option.some Jvm.ClassFile.FieldType.int), Jvm.Cond.code ({ cls := "com/example/portunus/portunus/Atom", name := "digits", desc := "(I)I" } : Jvm.MethodName) prog_2_method_14_code (3 : Nat) (Option.some Jvm.ClassFile.FieldType.int), Jvm.Cond.code ({ cls := "com/example/portunus/portunus/AtomWriteCanonicalPinLaw", name := "sameLong", desc := "([BI[BI)Z" } : Jvm.MethodName) method_6_code (4 : Nat) (Option.some Jvm.ClassFile.FieldType.boolean), Jvm.Cond.code ({ cls := "com/example/portunus/portunus/AtomWriteCanonicalPinLaw", name := "same", desc := "([BI[BI)Z" } : Jvm.MethodName) method_5_code (4 : Nat) (Option.some Jvm.ClassFile.FieldType.boolean)]
set_option maxRecDepth 65536 in
theorem codes_eq : words1.filter isCode = codes1 := rfl
theorem w_codes : ∀ c ∈ words1.filter isCode, c.before args0 about1 = true := by
  rw [codes_eq]
  intro c hc
  simp only [codes1, List.mem_cons, List.not_mem_nil, or_false] at hc
  rcases hc with rfl | rfl | rfl | rfl | rfl | rfl | rfl | rfl | rfl
  · exact w_c0
  · exact w_c1
  · exact w_c2
  · exact w_c3
  · exact w_c4
  · exact w_c5
  · exact w_c6
  · exact w_c7
  · exact w_c8
set_option maxRecDepth 65536 in
theorem w_t1 : (words1.take 24).all (fun c => isCode c || c.before args0 about1) = true := by decide +kernel
set_option maxRecDepth 65536 in
theorem w_t2 : (words1.drop 24).all (fun c => isCode c || c.before args0 about1) = true := by decide +kernel
theorem w_tables : (allAtoms (Jvm.Cond.code x code maxLocals ret :: tables_1)).before args0 about1 = true := by
  rw [allAtoms_all]
  show words1.all (fun c => c.before args0 about1) = true
  refine all_split ?_ w_codes
  rw [← List.take_append_drop 24 words1, List.all_append, w_t1, w_t2]
  rfl
set_option maxRecDepth 65536 in
theorem w_case : (Jvm.Cond.and given_1 narrow_1).before args0 about1 = true := by decide +kernel
theorem w_applies : (headSpec (Jvm.Cond.code x code maxLocals ret :: tables_1) room_1).applies x e0.platform about1 = true :=
  (Spec.applies_iff w_frames).mpr ⟨w_running, w_runnable, w_alone, w_named, w_hears, w_ripe, w_room, w_tables⟩
theorem atStart : AtStart classFile x code maxLocals ret World_1 tables_1 room_1 Calls_1 rest_1 Pre_1 launch0 p0 e0 about1 theMethod args0 below0 :=
  ⟨lists_1, trivial, launch0.admits_env _ _ _, launch0.least_env, fairChoices_fair.cas, fairChoices_fair.clock, w_frames, w_args, w_heap, w_applies, trivial, trivial, w_case⟩
end start1
theorem witness_1 : WitnessClaimed_1 := ⟨start1.p0, start1.e0, start1.about1, start1.theMethod, start1.args0, start1.below0, start1.atStart⟩
end Jvm.Pilot.@@N@@
