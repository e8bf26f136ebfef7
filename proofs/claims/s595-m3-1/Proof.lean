import JvmDerived
import JvmDerived.Pilot.@@N@@Statement
import JvmDerived.Pilot.@@N@@Code
set_option linter.unusedVariables false
set_option linter.unusedSimpArgs false
namespace Jvm.Pilot.@@N@@
open Jvm Jvm.ClassFile Sem Op Lib Jvm.Free Jvm.Stand Jvm.LawKit Jvm.RoadKit Bundle Jvm.Pilot.@@N@@.Jvm.D
/-! own_Go: from t the run comes to a state where G holds. A walk is written backwards from the goal, so that a case split may stand anywhere. -/
def own_Go (p : Program) (e : Env) (below : List Frame) (G : State → Prop) (t : State) : Prop := ∃ u, Steps p.tables e below t u ∧ G u
theorem own_st {p : Program} {e : Env} {below : List Frame} {G : State → Prop} {t u : State} (f : ∀ w, Steps p.tables e below u w → Steps p.tables e below t w) (k : own_Go p e below G u) : own_Go p e below G t := by
  obtain ⟨w, s, g⟩ := k
  exact ⟨w, f w s, g⟩
theorem own_jp {p : Program} {e : Env} {below : List Frame} {G : State → Prop} {t u : State} (f : Steps p.tables e below t u) (k : own_Go p e below G u) : own_Go p e below G t := by
  obtain ⟨w, s, g⟩ := k
  exact ⟨w, f.trans s, g⟩
theorem own_out {p : Program} {e : Env} {below : List Frame} {t : State} {Q : Outcome → State → Prop} (k : own_Go p e below (fun u => ∃ o, u.status = .running ∧ Ended u below o ∧ Q o u) t) : ∃ s₂ o, Steps p.tables e below t s₂ ∧ s₂.status = .running ∧ Ended s₂ below o ∧ Q o s₂ := by
  obtain ⟨w, s, o, g⟩ := k
  exact ⟨w, o, s, g⟩
theorem own_nm {p : Program} {e : Env} {below : List Frame} {G0 : State → Prop} {t : State} (k : ∀ G, G = G0 → own_Go p e below G t) : own_Go p e below G0 t := k _ rfl
theorem own_tll {x y : Int64} (h : x < y) : lcmpW x y < 0 := (lw_lt x y).mpr h
theorem own_fll {x y : Int64} (h : ¬ x < y) : ¬ lcmpW x y < 0 := fun q => h ((lw_lt x y).mp q)
theorem own_tlg {x y : Int64} (h : y < x) : 0 < lcmpW x y := (lw_gt x y).mpr h
theorem own_flg {x y : Int64} (h : ¬ y < x) : ¬ 0 < lcmpW x y := fun q => h ((lw_gt x y).mp q)
theorem own_tle {x y : Int64} (h : x = y) : lcmpW x y = 0 := (lw_eq x y).mpr h
theorem own_fle {x y : Int64} (h : ¬ x = y) : ¬ lcmpW x y = 0 := fun q => h ((lw_eq x y).mp q)
section Own
variable {p : Program} {l : Launch} {e : Env} {R : Room} {s : State} {m : MethodId} {args : Array Value} {below : List Frame} {meth : Method} {c : Code} {T : State} {locs : List Loc} {cells slots : Nat} {Z : State} {h h' : Heap} {a b : Addr} {ty : FieldType} {vs : List Value} {v : Value}
theorem own_retI (X : Stand p l e R s m args below meth c T locs cells slots) (hx : p.tables.exec = Jvm.exec) {pc : Nat} {Ls : Array Slot} {z : Int32} {rest : List Value} (hret : meth.sig.returnType = some .int) (hd : decode c.code pc = .ok (.ireturn, 1)) {fs : List Frame}
    (hl : ∀ (f : JFrame) (acts : List Action), f.method = m → f.locked = none → f.entered = [] → (doReturn e (T.setTop f) acts (some (.int z))).1 = T.setFrames fs) : Steps p.tables e below (T.setTop (mkF m pc Ls (.int z :: rest))) (T.setFrames fs) :=
  retOut X hx hret rfl (Or.inl ⟨rfl, Or.inl rfl, z, rfl⟩) hd hl
theorem own_retJ (X : Stand p l e R s m args below meth c T locs cells slots) (hx : p.tables.exec = Jvm.exec) {pc : Nat} {Ls : Array Slot} {z : Int64} {rest : List Value} (hret : meth.sig.returnType = some .long) (hd : decode c.code pc = .ok (.lreturn, 1)) {fs : List Frame}
    (hl : ∀ (f : JFrame) (acts : List Action), f.method = m → f.locked = none → f.entered = [] → (doReturn e (T.setTop f) acts (some (.long z))).1 = T.setFrames fs) : Steps p.tables e below (T.setTop (mkF m pc Ls (.long z :: rest))) (T.setFrames fs) :=
  retOut X hx hret rfl (Or.inr (Or.inl ⟨rfl, rfl, z, rfl⟩)) hd hl
/-! own_L: the array at a holds just the list vs -/
def own_L (Z : State) (h : Heap) (a : Addr) (ty : FieldType) (vs : List Value) : Prop := ∃ cl : Cell, Arr Z h a cl ty ∧ cl.slots = vs.toArray
theorem own_L.lt (F : own_L Z h a ty vs) : a < h.size := by obtain ⟨cl, A, -⟩ := F; exact A.lt
theorem own_L.ext (F : own_L Z h a ty vs) (E : Ext h h') : own_L Z h' a ty vs := by obtain ⟨cl, A, q⟩ := F; exact ⟨cl, A.ext E, q⟩
theorem own_L.other {sl : Nat} (F : own_L Z h b ty vs) (W : Wr h h' a sl v) (q : b ≠ a) : own_L Z h' b ty vs := by obtain ⟨cl, A, r⟩ := F; exact ⟨cl, A.other W q, r⟩
theorem own_L.keep {ws : List Addr} (F : own_L Z h a ty vs) (K : Keep h h' ws) (q : a ∉ ws) : own_L Z h' a ty vs := by obtain ⟨cl, A, r⟩ := F; exact ⟨cl, ⟨K.2.1 a cl A.1 q, A.2⟩, r⟩
theorem own_L.new {k : ClassId} {z : Int32} (A : Arr Z h a (newA k ty z) ty) : own_L Z h a ty (List.replicate z.toNatClampNeg (defaultValue ty)) := ⟨_, A, by simp [newA]⟩
theorem own_L.same {k : Nat} (F : own_L Z h a ty vs) (W : Wr h h' a k v) : own_L Z h' a ty (vs.set k v) := by
  obtain ⟨cl, A, q⟩ := F
  exact ⟨_, A.same W, by simp [Cell.setSlot, q]⟩
theorem own_in {cl : Cell} {j : Int32} (q : cl.slots = vs.toArray) (h1 : ¬ j < 0) (h2 : j.toNatClampNeg < vs.length) : ¬ (j < 0 ∨ cl.slots.size ≤ j.toNatClampNeg) := by
  rw [q]
  rintro (r | r)
  · exact h1 r
  · simp at r; omega
theorem own_at {cl : Cell} {k : Nat} (q : cl.slots = vs.toArray) (hv : vs[k]? = some v) : cl.slots[k]? = some v := by rw [q]; simpa using hv
theorem own_lt {k : Nat} (hv : vs[k]? = some v) : k < vs.length := by
  obtain ⟨q, -⟩ := List.getElem?_eq_some_iff.mp hv
  exact q
theorem own_bld (X : Stand p l e R s m args below meth c T locs cells slots) (hx : p.tables.exec = Jvm.exec) (hZ : Z.Warmed39 s.vm) (eT : T.heap = h) (F : own_L Z h a .byte vs) {j : Int32} {i : Nat} (h1 : ¬ j < 0) (hi : j.toNatClampNeg = i) (hv : vs[i]? = some v) {g : JFrame} (hg : g.method = m) {rest : List Value} (hs : g.stack = .int j :: .ref a :: rest) (hd : decode c.code g.pc = .ok (.baload, 1)) :
    ∀ target, Steps p.tables e below (T.setTop { g with pc := g.pc + 1, stack := v :: rest }) target → Steps p.tables e below (T.setTop g) target := by
  obtain ⟨cl, A, q⟩ := F
  subst hi
  exact X.baloadBytes hx (by rw [eT]; exact A.1) (State.isArrayOf_alike hZ.alike A.2.1) A.2.2 (own_in q h1 (own_lt hv)) (own_at q hv) hg hs hd
theorem own_jld (X : Stand p l e R s m args below meth c T locs cells slots) (hx : p.tables.exec = Jvm.exec) (hZ : Z.Warmed39 s.vm) (eT : T.heap = h) (F : own_L Z h a .long vs) {j : Int32} {i : Nat} (h1 : ¬ j < 0) (hi : j.toNatClampNeg = i) (hv : vs[i]? = some v) {g : JFrame} (hg : g.method = m) {rest : List Value} (hs : g.stack = .int j :: .ref a :: rest) (hd : decode c.code g.pc = .ok (.laload, 1)) :
    ∀ target, Steps p.tables e below (T.setTop { g with pc := g.pc + 1, stack := v :: rest }) target → Steps p.tables e below (T.setTop g) target := by
  obtain ⟨cl, A, q⟩ := F
  subst hi
  exact X.laload hx (by rw [eT]; exact A.1) (State.isArrayOf_alike hZ.alike A.2.1) A.2.2 (own_in q h1 (own_lt hv)) (own_at q hv) hg hs hd
theorem own_ild (X : Stand p l e R s m args below meth c T locs cells slots) (hx : p.tables.exec = Jvm.exec) (hZ : Z.Warmed39 s.vm) (eT : T.heap = h) (F : own_L Z h a .int vs) {j : Int32} {i : Nat} (h1 : ¬ j < 0) (hi : j.toNatClampNeg = i) (hv : vs[i]? = some v) {g : JFrame} (hg : g.method = m) {rest : List Value} (hs : g.stack = .int j :: .ref a :: rest) (hd : decode c.code g.pc = .ok (.iaload, 1)) :
    ∀ target, Steps p.tables e below (T.setTop { g with pc := g.pc + 1, stack := v :: rest }) target → Steps p.tables e below (T.setTop g) target := by
  obtain ⟨cl, A, q⟩ := F
  subst hi
  exact X.iaload hx (by rw [eT]; exact A.1) (State.isArrayOf_alike hZ.alike A.2.1) A.2.2 (own_in q h1 (own_lt hv)) (own_at q hv) hg hs hd
theorem own_zld (X : Stand p l e R s m args below meth c T locs cells slots) (hx : p.tables.exec = Jvm.exec) (hZ : Z.Warmed39 s.vm) (eT : T.heap = h) (F : own_L Z h a .boolean vs) {j : Int32} {i : Nat} (h1 : ¬ j < 0) (hi : j.toNatClampNeg = i) (hv : vs[i]? = some v) {g : JFrame} (hg : g.method = m) {rest : List Value} (hs : g.stack = .int j :: .ref a :: rest) (hd : decode c.code g.pc = .ok (.baload, 1)) :
    ∀ target, Steps p.tables e below (T.setTop { g with pc := g.pc + 1, stack := v :: rest }) target → Steps p.tables e below (T.setTop g) target := by
  obtain ⟨cl, A, q⟩ := F
  subst hi
  exact X.baloadBooleans hx (by rw [eT]; exact A.1) (State.isArrayOf_alike hZ.alike A.2.1) A.2.2 (own_in q h1 (own_lt hv)) (own_at q hv) hg hs hd
theorem own_len (X : Stand p l e R s m args below meth c T locs cells slots) (hx : p.tables.exec = Jvm.exec) (hZ : Z.Warmed39 s.vm) (eT : T.heap = h) (F : own_L Z h a ty vs) {z : Int32} (hz : vs.length.toInt32 = z) {g : JFrame} (hg : g.method = m) {rest : List Value} (hs : g.stack = .ref a :: rest) (hd : decode c.code g.pc = .ok (.arraylength, 1)) :
    ∀ target, Steps p.tables e below (T.setTop { g with pc := g.pc + 1, stack := .int z :: rest }) target → Steps p.tables e below (T.setTop g) target := by
  obtain ⟨cl, A, q⟩ := F
  intro w k
  refine X.arraylength hx (by rw [eT]; exact A.1) (State.isArrayOf_alike hZ.alike A.2.1) hg hs hd w ?_
  have q2 : cl.slots.size.toInt32 = z := by rw [← hz, q]; simp
  rw [q2]; exact k
theorem own_bst (X : Stand p l e R s m args below meth c T locs cells slots) (hx : p.tables.exec = Jvm.exec) (hZ : Z.Warmed39 s.vm) (eT : T.heap = h) (F : own_L Z h a .byte vs) {j x : Int32} (i : Nat) (h1 : ¬ j < 0) (hi : j.toNatClampNeg = i) (h2 : i < vs.length) {g : JFrame} (hg : g.method = m) {rest : List Value} (hs : g.stack = .int x :: .int j :: .ref a :: rest) (hd : decode c.code g.pc = .ok (.bastore, 1)) :
    ∃ T' h', Stand p l e R s m args below meth c T' (locs ++ [⟨a, i⟩]) cells slots ∧ T'.heap = h' ∧ Wr h h' a i (.int x.toInt8.toInt32) ∧ own_L Z h' a .byte (vs.set i (.int x.toInt8.toInt32)) ∧ ∀ target, Steps p.tables e below (T'.setTop { g with pc := g.pc + 1, stack := rest }) target → Steps p.tables e below (T.setTop g) target := by
  obtain ⟨cl, A, q⟩ := F
  subst hi
  obtain ⟨T', h', X', e', W, st⟩ := stB X hx hZ eT A (own_in q h1 h2) hg hs hd
  exact ⟨T', h', X', e', W, own_L.same ⟨cl, A, q⟩ W, st⟩
theorem own_zst (X : Stand p l e R s m args below meth c T locs cells slots) (hx : p.tables.exec = Jvm.exec) (hZ : Z.Warmed39 s.vm) (eT : T.heap = h) (F : own_L Z h a .boolean vs) {j x : Int32} (i : Nat) (h1 : ¬ j < 0) (hi : j.toNatClampNeg = i) (h2 : i < vs.length) {g : JFrame} (hg : g.method = m) {rest : List Value} (hs : g.stack = .int x :: .int j :: .ref a :: rest) (hd : decode c.code g.pc = .ok (.bastore, 1)) :
    ∃ T' h', Stand p l e R s m args below meth c T' (locs ++ [⟨a, i⟩]) cells slots ∧ T'.heap = h' ∧ Wr h h' a i (.int (x &&& 1)) ∧ own_L Z h' a .boolean (vs.set i (.int (x &&& 1))) ∧ ∀ target, Steps p.tables e below (T'.setTop { g with pc := g.pc + 1, stack := rest }) target → Steps p.tables e below (T.setTop g) target := by
  obtain ⟨cl, A, q⟩ := F
  subst hi
  obtain ⟨T', h', X', e', W, st⟩ := stZ X hx hZ eT A (own_in q h1 h2) hg hs hd
  exact ⟨T', h', X', e', W, own_L.same ⟨cl, A, q⟩ W, st⟩
theorem own_jst (X : Stand p l e R s m args below meth c T locs cells slots) (hx : p.tables.exec = Jvm.exec) (hZ : Z.Warmed39 s.vm) (eT : T.heap = h) (F : own_L Z h a .long vs) {j : Int32} {x : Int64} (i : Nat) (h1 : ¬ j < 0) (hi : j.toNatClampNeg = i) (h2 : i < vs.length) {g : JFrame} (hg : g.method = m) {rest : List Value} (hs : g.stack = .long x :: .int j :: .ref a :: rest) (hd : decode c.code g.pc = .ok (.lastore, 1)) :
    ∃ T' h', Stand p l e R s m args below meth c T' (locs ++ [⟨a, i⟩]) cells slots ∧ T'.heap = h' ∧ Wr h h' a i (.long x) ∧ own_L Z h' a .long (vs.set i (.long x)) ∧ ∀ target, Steps p.tables e below (T'.setTop { g with pc := g.pc + 1, stack := rest }) target → Steps p.tables e below (T.setTop g) target := by
  obtain ⟨cl, A, q⟩ := F
  subst hi
  obtain ⟨T', h', X', e', W, st⟩ := stJ X hx hZ eT A (own_in q h1 h2) hg hs hd
  exact ⟨T', h', X', e', W, own_L.same ⟨cl, A, q⟩ W, st⟩
theorem own_ist (X : Stand p l e R s m args below meth c T locs cells slots) (hx : p.tables.exec = Jvm.exec) (hZ : Z.Warmed39 s.vm) (eT : T.heap = h) (F : own_L Z h a .int vs) {j x : Int32} (i : Nat) (h1 : ¬ j < 0) (hi : j.toNatClampNeg = i) (h2 : i < vs.length) {g : JFrame} (hg : g.method = m) {rest : List Value} (hs : g.stack = .int x :: .int j :: .ref a :: rest) (hd : decode c.code g.pc = .ok (.iastore, 1)) :
    ∃ T' h', Stand p l e R s m args below meth c T' (locs ++ [⟨a, i⟩]) cells slots ∧ T'.heap = h' ∧ Wr h h' a i (.int x) ∧ own_L Z h' a .int (vs.set i (.int x)) ∧ ∀ target, Steps p.tables e below (T'.setTop { g with pc := g.pc + 1, stack := rest }) target → Steps p.tables e below (T.setTop g) target := by
  obtain ⟨cl, A, q⟩ := F
  subst hi
  obtain ⟨T', h', X', e', W, st⟩ := stI X hx hZ eT A (own_in q h1 h2) hg hs hd
  exact ⟨T', h', X', e', W, own_L.same ⟨cl, A, q⟩ W, st⟩
theorem own_clone (X : Stand p l e R s m args below meth c T locs cells slots) (hx : p.tables.exec = Jvm.exec) (hZ : Z.Warmed39 s.vm) {a0 : Array Value} {own ad : String} {index : Nat} (hown : s.vm.findClass own = some m.cls)
    (w1 : (Cond.methodLink own index ⟨ad, "clone", "()Ljava/lang/Object;"⟩).before a0 Z = true) (w2 : (Cond.sameMethod ad "java/lang/Object" "clone" "()Ljava/lang/Object;").before a0 Z = true) (w3 : (Cond.native ⟨"java/lang/Object", "clone", "()Ljava/lang/Object;"⟩).before a0 Z = true)
    (w4 : (Cond.instanceMethod ⟨"java/lang/Object", "clone", "()Ljava/lang/Object;"⟩).before a0 Z = true) (w5 : (Cond.selects ad ⟨ad, "clone", "()Ljava/lang/Object;"⟩ ⟨"java/lang/Object", "clone", "()Ljava/lang/Object;"⟩).before a0 Z = true) (w6 : (Cond.castable ad "java/lang/Cloneable").before a0 Z = true)
    (eT : T.heap = h) (F : own_L Z h a ty vs) (E : Exa Z h a ad) (hfit : ∀ v ∈ vs, fits ty v = true) {g : JFrame} (hg : g.method = m) (hsize : g.locals.size = c.maxLocals) {rest : List Value} (hs : g.stack = .ref a :: rest) (hd : decode c.code g.pc = .ok (.invokevirtual index, 3))
    (hf : 1 ≤ R.frames) {W cap : Nat} (hW : 2 * g.monitorRoom + (rest.map fun v => v.category).sum ≤ W) (hl : W + 14 ≤ R.locals) (hcap : vs.length ≤ cap) (hc : cells + 1 ≤ R.cells) (hsl : slots + cap ≤ R.slots) :
    ∃ T' h', Stand p l e R s m args below meth c T' locs (cells + 1) (slots + cap) ∧ T'.heap = h' ∧ Ext h h' ∧ own_L Z h' h.size ty vs ∧ Exa Z h' h.size ad ∧
      ∀ target, Steps p.tables e below (T'.setTop { g with pc := g.pc + 3, stack := .ref h.size :: rest }) target → Steps p.tables e below (T.setTop g) target := by
  obtain ⟨cl, A, q⟩ := F
  have FC : FitC Z cl := fitC_of A fun i hi v hv => hfit v (by
    rw [q] at hv
    exact List.mem_of_getElem? (by simpa using hv))
  obtain ⟨T', h', X', e', ex, A', E', st⟩ := cloneA X hx hZ hown w1 w2 w3 w4 w5 w6 eT A E FC hg hsize hs hd hf hW hl (by rw [q]; simpa using hcap) hc hsl
  exact ⟨T', h', X', e', ex, ⟨cloneOf cl, A', q⟩, E', st⟩
end Own
theorem own_nn {i : Int32} {n : Nat} (h : i.toInt = n) : ¬ i < 0 := by
  have z0 : (0 : Int32).toInt = 0 := by decide
  rw [Int32.lt_iff_toInt_lt, z0]; omega
theorem own_nat {i : Int32} {n : Nat} (h : i.toInt = n) : i.toNatClampNeg = n := by
  show i.toInt.toNat = n
  omega
theorem own_up {i : Int32} {n : Nat} (h : i.toInt = n) (hn : n < 2147483647) : (i + (1 : Int32)).toInt = (n + 1 : Nat) := by
  have h1 := c_iadd i 1
  have r1 := rng32 (i + 1)
  have z1 : (1 : Int32).toInt = 1 := by decide
  rw [z1] at h1
  omega
theorem own_ltn {i j : Int32} {n k : Nat} (h : i.toInt = n) (h' : j.toInt = k) (hc : i < j) : n < k := by rw [Int32.lt_iff_toInt_lt] at hc; omega
theorem own_gen {i j : Int32} {n k : Nat} (h : i.toInt = n) (h' : j.toInt = k) (hc : ¬ i < j) : k - n = 0 := by rw [Int32.lt_iff_toInt_lt] at hc; omega
theorem own_of {i : Int32} {n : Nat} (h : i.toInt = n) : i = Int32.ofNat n := by
  have := rng32 i
  apply Int32.toInt_inj.mp
  rw [Int32.toInt_ofNat_of_lt (by omega)]; exact h
/-! a list of ints as an array's values -/
def own_bl (B : Nat → Int32) (n : Nat) : List Value := (List.range n).map fun j => .int (B j)
theorem own_bl_at (B : Nat → Int32) {n k : Nat} (hk : k < n) : (own_bl B n)[k]? = some (.int (B k)) := by simp [own_bl, hk]
theorem own_bl_len (B : Nat → Int32) (n : Nat) : (own_bl B n).length = n := by simp [own_bl]
section OwnCopy
variable {p : Program} {l : Launch} {e : Env} {R : Room} {s : State} {m : MethodId} {args : Array Value} {below : List Frame} {meth : Method} {c : Code} {T : State} {locs : List Loc} {cells slots : Nat} {Z : State} {h h' : Heap} {a b : Addr} {ty : FieldType} {vs vd us : List Value} {v dv : Value}
theorem own_arv (hl : vs.length < 2147483648) (F : own_L Z h a ty vs) (hf : ∀ v ∈ vs, fits ty v = true) (dv : Value) : ∃ k, Arv Z h a k ty vs.length.toInt32 vs dv ∧ (vs.length.toInt32).toNatClampNeg = vs.length := by
  obtain ⟨cl, A, q⟩ := F
  have hz : (vs.length.toInt32).toInt = vs.length := len_toInt (by omega)
  have z0 : (0 : Int32).toInt = 0 := by decide
  have hn : ¬ vs.length.toInt32 < 0 := by rw [Int32.lt_iff_toInt_lt, hz, z0]; omega
  have hc : (vs.length.toInt32).toNatClampNeg = vs.length := by show (vs.length.toInt32).toInt.toNat = _; rw [hz]; simp
  have gd : ∀ i, i < vs.length → vs[i]? = some (vs.getD i dv) := fun i hi => by simp [List.getD_eq_getElem?_getD, hi]
  have sz : cl.slots.size = vs.length := by rw [q]; simp
  refine ⟨cl.cls, ⟨cl, A, rfl, by rw [sz, hc], hn, fun i hi => ?_, fun i hi => ?_⟩, hc⟩
  · exact own_at q (gd i (by omega))
  · exact hf _ (List.mem_of_getElem? (gd i (by omega)))
theorem own_ofArv {k : ClassId} {z : Int32} (F : Arv Z h a k ty z us dv) (hl : us.length = z.toNatClampNeg) : own_L Z h a ty us := by
  obtain ⟨cl, A, -, S, -, H, -⟩ := F
  refine ⟨cl, A, ?_⟩
  apply Array.ext_getElem?
  intro i
  by_cases hi : i < us.length
  · rw [H i (by omega)]
    simp [List.getD_eq_getElem?_getD, hi]
  · rw [Array.getElem?_eq_none (by omega)]
    simp
    omega
theorem own_stretch (vs : List Value) (i k : Nat) (hk : i + k ≤ vs.length) (dv : Value) : ((List.range k).map fun x => vs.getD (i + x) dv) = (vs.drop i).take k := by
  apply List.ext_getElem?
  intro j
  by_cases hj : j < k
  · simp [hj, List.getElem?_take, List.getD_eq_getElem?_getD, show i + j < vs.length by omega]
  · rw [List.getElem?_eq_none (by simp; omega), List.getElem?_eq_none (by simp; omega)]
theorem own_cp (X : Stand p l e R s m args below meth c T locs cells slots) (hx : p.tables.exec = Jvm.exec) (hZ : Z.Warmed39 s.vm) {a0 : Array Value} {own : String} {index : Nat} (hown : s.vm.findClass own = some m.cls)
    (w1 : (Cond.methodLink own index Jvm.Stand.acN).before a0 Z = true) (w2 : (Cond.native Jvm.Stand.acN).before a0 Z = true) (w3 : (Cond.static Jvm.Stand.acN).before a0 Z = true) (w4 : (Cond.initialized "java/lang/System").before a0 Z = true) (eT : T.heap = h)
    (A : own_L Z h a ty vs) (B : own_L Z h b ty vd) (hr : refKind ty = false) (fa : ∀ v ∈ vs, fits ty v = true) (fb : ∀ v ∈ vd, fits ty v = true) (la : vs.length < 2147483648) (lb : vd.length < 2147483648) {sp dp nn : Int32} (i j k : Nat)
    (h1 : ¬ sp < 0) (hi : sp.toNatClampNeg = i) (h2 : ¬ dp < 0) (hj : dp.toNatClampNeg = j) (h3 : ¬ nn < 0) (hk : nn.toNatClampNeg = k) (h4 : i + k ≤ vs.length) (h5 : j + k ≤ vd.length) {n0 : Nat} (N : Fr n0 locs) (ge : n0 ≤ b)
    {g : JFrame} (hg : g.method = m) (hsize : g.locals.size = c.maxLocals) {rest : List Value} (hs : g.stack = .int nn :: .int dp :: .ref b :: .int sp :: .ref a :: rest) (hd : decode c.code g.pc = .ok (.invokestatic index, 3))
    (hf : 1 ≤ R.frames) {W : Nat} (hW : 2 * g.monitorRoom + (rest.map fun v => v.category).sum ≤ W) (hlo : W + 18 ≤ R.locals) :
    ∃ T' h' L, Stand p l e R s m args below meth c T' L cells slots ∧ T'.heap = h' ∧ Fr n0 L ∧ Keep h h' [b] ∧ own_L Z h' b ty (vd.take j ++ (vs.drop i).take k ++ vd.drop (j + k)) ∧
      ∀ target, Steps p.tables e below (T'.setTop { g with pc := g.pc + 3, stack := rest }) target → Steps p.tables e below (T.setTop g) target := by
  subst hi hj hk
  obtain ⟨k1, A', ca⟩ := own_arv la A fa (.int 0)
  obtain ⟨k2, B', cb⟩ := own_arv lb B fb (.int 0)
  obtain ⟨T', h', L, X', e', N', K', V', st⟩ := cpA X hx hZ hown w1 w2 w3 w4 eT A' B' (Or.inl ⟨rfl, hr⟩) h1 h2 h3 (by omega) (by omega) rfl (by omega) N ge hg hsize hs hd hf hW hlo
  refine ⟨T', h', L, X', e', N', K', ?_, st⟩
  have q := own_ofArv V' (by simp; omega)
  rw [own_stretch _ _ _ h4] at q
  exact q
end OwnCopy
theorem own_selp {Z s : State} {a0 args : Array Value} {y : MethodName} {n : Nat} (hZ : Z.Warmed39 s.vm) (wi : (Cond.instantiable y.cls n).before a0 Z = true) (wp : (Cond.privateMethod y).before a0 Z = true) (wm : (Cond.instanceMethod y).before a0 Z = true)
    (hy : y.cls ≠ "java/lang/invoke/MethodHandle" ∧ y.cls ≠ "java/lang/invoke/VarHandle") : (Cond.selects y.cls y y).before args s = true := by
  have wi' : (Cond.instantiable y.cls n).before args s = true := mvT hZ wi
  obtain ⟨c2, k2, i1, i2, i3, i4, -⟩ := Cond.instantiable_spec wi'
  have i5 : k2.isInterface = false := by
    cases q : k2.isInterface
    · rfl
    · simp [q] at i4
  exact Jvm.Stand.selects_self_of_private i1 i2 i5 (Cond.privateMethod_at (mvP hZ wp (args := args))) (mvT hZ wm) hy
def own_il (xs : List Int32) : List Value := xs.map Value.int
theorem own_il_len (xs : List Int32) : (own_il xs).length = xs.length := by simp [own_il]
theorem own_il_rep (k : Nat) : own_il (List.replicate k 0) = List.replicate k (.int 0) := by simp [own_il]
theorem own_il_fit (xs : List Int32) : ∀ v ∈ own_il xs, fits .int v = true := fun v hv => by
  obtain ⟨x, -, rfl⟩ := List.mem_map.mp hv; rfl
theorem own_Lc {Z : State} {h : Heap} {a : Addr} {ty : FieldType} {x y : List Value} (q : y = x) (F : own_L Z h a ty x) : own_L Z h a ty y := q ▸ F
theorem own_Fi {Z : State} {h : Heap} {a : Addr} {K f t : String} {x y : Int32} (q : y = x) (F : Fld Z h a K f t (.int x)) : Fld Z h a K f t (.int y) := q ▸ F
theorem own_newc {Z : State} {h : Heap} {a : Addr} {ty : FieldType} {z : Int32} {k : Nat} (hz : z.toInt = k) (F : own_L Z h a ty (List.replicate z.toNatClampNeg (.int 0))) : own_L Z h a ty (own_il (List.replicate k 0)) := by
  rw [own_il_rep]; rw [own_nat hz] at F; exact F
theorem own_bd {α β : Type} {o : Option α} {f : α → Option β} {b : β} (h : o.bind f = some b) : ∃ a, o = some a ∧ f a = some b := Option.bind_eq_some_iff.mp h
def own_get (xs : List Int32) (j : Int32) : Option Int32 := if j.toInt < 0 then none else xs[j.toInt.toNat]?
def own_set (xs : List Int32) (j x : Int32) : Option (List Int32) := if j.toInt < 0 then none else if j.toInt.toNat < xs.length then some (xs.set j.toInt.toNat x) else none
theorem own_gn {xs : List Int32} {j x : Int32} (h : own_get xs j = some x) : j.toInt = (j.toInt.toNat : Nat) := by
  unfold own_get at h; split at h
  · simp at h
  · omega
theorem own_gv {xs : List Int32} {j x : Int32} (h : own_get xs j = some x) : (own_il xs)[j.toInt.toNat]? = some (.int x) := by
  unfold own_get at h; split at h
  · simp at h
  · show (xs.map Value.int)[j.toInt.toNat]? = _
    rw [List.getElem?_map, h]; rfl
theorem own_sn {xs ys : List Int32} {j x : Int32} (h : own_set xs j x = some ys) : j.toInt = (j.toInt.toNat : Nat) := by
  unfold own_set at h; split at h
  · simp at h
  · omega
theorem own_s2 {xs ys : List Int32} {j x : Int32} (h : own_set xs j x = some ys) : j.toInt.toNat < xs.length ∧ ys = xs.set j.toInt.toNat x := by
  unfold own_set at h; split at h
  · simp at h
  · split at h
    · rename_i q; exact ⟨q, (Option.some.inj h).symm⟩
    · simp at h
theorem own_sl {xs ys : List Int32} {j x : Int32} (h : own_set xs j x = some ys) : j.toInt.toNat < (own_il xs).length := by rw [own_il_len]; exact (own_s2 h).1
theorem own_se {xs ys : List Int32} {j x : Int32} (h : own_set xs j x = some ys) : own_il ys = (own_il xs).set j.toInt.toNat (.int x) := by rw [(own_s2 h).2]; simp [own_il, List.map_set]
theorem own_slen {xs ys : List Int32} {j x : Int32} (h : own_set xs j x = some ys) : ys.length = xs.length := by rw [(own_s2 h).2, List.length_set]
theorem own_ilz {xs : List Int32} {z : Int32} {k : Nat} (hz : z.toInt = k) (hl : xs.length = k) : (own_il xs).length.toInt32 = z := by
  rw [own_il_len, hl]; exact (own_of hz).symm
theorem own_ifp {xs ys : List Int32} {i x y : Int32} (h : own_set xs i (if x < y then 1 else 0) = some ys) (q : x < y) : own_set xs i 1 = some ys := by rw [if_pos q] at h; exact h
theorem own_ifn {xs ys : List Int32} {i x y : Int32} (h : own_set xs i (if x < y then 1 else 0) = some ys) (q : ¬ x < y) : own_set xs i 0 = some ys := by rw [if_neg q] at h; exact h
abbrev own_S : Type := Int32 × Int32 × Int32 × Int32 × List Int32 × List Int32 × List Int32 × List Int32 × List Int32 × List Int32 × List Int32
abbrev own_S.dep (S : own_S) : Int32 := S.1
abbrev own_S.cnt (S : own_S) : Int32 := S.2.1
abbrev own_S.stk (S : own_S) : Int32 := S.2.2.1
abbrev own_S.cmp (S : own_S) : Int32 := S.2.2.2.1
abbrev own_S.idx (S : own_S) : List Int32 := S.2.2.2.2.1
abbrev own_S.low (S : own_S) : List Int32 := S.2.2.2.2.2.1
abbrev own_S.num (S : own_S) : List Int32 := S.2.2.2.2.2.2.1
abbrev own_S.sta (S : own_S) : List Int32 := S.2.2.2.2.2.2.2.1
abbrev own_S.ons (S : own_S) : List Int32 := S.2.2.2.2.2.2.2.2.1
abbrev own_S.pth (S : own_S) : List Int32 := S.2.2.2.2.2.2.2.2.2.1
abbrev own_S.edg (S : own_S) : List Int32 := S.2.2.2.2.2.2.2.2.2.2
abbrev own_S.wdep (S : own_S) (x : Int32) : own_S := (x, S.2)
abbrev own_S.wcnt (S : own_S) (x : Int32) : own_S := (S.1, x, S.2.2)
abbrev own_S.wstk (S : own_S) (x : Int32) : own_S := (S.1, S.2.1, x, S.2.2.2)
abbrev own_S.wcmp (S : own_S) (x : Int32) : own_S := (S.1, S.2.1, S.2.2.1, x, S.2.2.2.2)
abbrev own_S.widx (S : own_S) (x : List Int32) : own_S := (S.1, S.2.1, S.2.2.1, S.2.2.2.1, x, S.2.2.2.2.2)
abbrev own_S.wlow (S : own_S) (x : List Int32) : own_S := (S.1, S.2.1, S.2.2.1, S.2.2.2.1, S.2.2.2.2.1, x, S.2.2.2.2.2.2)
abbrev own_S.wnum (S : own_S) (x : List Int32) : own_S := (S.1, S.2.1, S.2.2.1, S.2.2.2.1, S.2.2.2.2.1, S.2.2.2.2.2.1, x, S.2.2.2.2.2.2.2)
abbrev own_S.wsta (S : own_S) (x : List Int32) : own_S := (S.1, S.2.1, S.2.2.1, S.2.2.2.1, S.2.2.2.2.1, S.2.2.2.2.2.1, S.2.2.2.2.2.2.1, x, S.2.2.2.2.2.2.2.2)
abbrev own_S.wons (S : own_S) (x : List Int32) : own_S := (S.1, S.2.1, S.2.2.1, S.2.2.2.1, S.2.2.2.2.1, S.2.2.2.2.2.1, S.2.2.2.2.2.2.1, S.2.2.2.2.2.2.2.1, x, S.2.2.2.2.2.2.2.2.2)
abbrev own_S.wpth (S : own_S) (x : List Int32) : own_S := (S.1, S.2.1, S.2.2.1, S.2.2.2.1, S.2.2.2.2.1, S.2.2.2.2.2.1, S.2.2.2.2.2.2.1, S.2.2.2.2.2.2.2.1, S.2.2.2.2.2.2.2.2.1, x, S.2.2.2.2.2.2.2.2.2.2)
abbrev own_S.wedg (S : own_S) (x : List Int32) : own_S := (S.1, S.2.1, S.2.2.1, S.2.2.2.1, S.2.2.2.2.1, S.2.2.2.2.2.1, S.2.2.2.2.2.2.1, S.2.2.2.2.2.2.2.1, S.2.2.2.2.2.2.2.2.1, S.2.2.2.2.2.2.2.2.2.1, x)
theorem d10_0 : decode jdk_29_method_69_code 0 = .ok (.iload_n 0, 1) := by decide +kernel
theorem d10_1 : decode jdk_29_method_69_code 1 = .ok (.iload_n 1, 1) := by decide +kernel
theorem d10_2 : decode jdk_29_method_69_code 2 = .ok (.if_icmp .gt 7, 3) := by decide +kernel
theorem d10_5 : decode jdk_29_method_69_code 5 = .ok (.iload_n 0, 1) := by decide +kernel
theorem d10_6 : decode jdk_29_method_69_code 6 = .ok (.goto 4, 3) := by decide +kernel
theorem d10_9 : decode jdk_29_method_69_code 9 = .ok (.iload_n 1, 1) := by decide +kernel
theorem d10_10 : decode jdk_29_method_69_code 10 = .ok (.ireturn, 1) := by decide +kernel
theorem ef_rm10 (m : MethodId) (x1 : Int32) (y1 : Int32) : entryFrame m #[(.int x1), (.int y1)] 2 = mkF m 0 #[.val (.int x1), .val (.int y1)] [] := by first | (simp [entryFrame, mkF, argsToLocals, Value.category]; done) | rfl
def own_mn (x1 : Int32) (y1 : Int32) : Int32 := (if y1 < x1 then y1 else x1)
def Q10 (Z : State) (x1 : Int32) (y1 : Int32) (h0 : Heap) (n0 : Nat) (rv : Option Value) (hq : Heap) (Lq : List Loc) : Prop := rv = some (.int (own_mn x1 y1)) ∧ Fr n0 Lq ∧ hq = h0
set_option maxRecDepth 65536 in
set_option maxHeartbeats 40000000 in
theorem rm10 (l : Launch) (Z : State) (a0 : Array Value) (hw : ∀ d ∈ tables_1, d.before a0 Z = true) (ws : List Jvm.Cond) (x1 : Int32) (y1 : Int32) (h0 : Heap) (n0 : Nat) (Z0 : n0 ≤ h0.size) :
    MetFree l (⟨"java/lang/Math", "min", "(II)I"⟩ : MethodName) (head1 (Jvm.Cond.code (⟨"java/lang/Math", "min", "(II)I"⟩ : MethodName) jdk_29_method_69_code 2 (some .int) :: ws) ({ frames := 0, cells := 0, slots := 0, locals := 0 } : Room)) (fun za U => za = #[(.int x1), (.int y1)] ∧ Z.Warmed39 U.vm ∧ U.heap = h0) (fun _ _ _ _ _ => True) (fun _ U o U' => ∃ rv Lq, o = .returned rv ∧ Q10 Z x1 y1 h0 n0 rv U'.heap Lq ∧ FrameEnd U o U' Lq ({ frames := 0, cells := 0, slots := 0, locals := 0 } : Room).cells ({ frames := 0, cells := 0, slots := 0, locals := 0 } : Room).slots) := by
  refine MetFree.of_bodySF (Jvm.Free.JP.mathPlain rfl (by decide +kernel)) hisR ?_
  intro p e s m args below meth c s₁ Bd hml0 hP hK
  obtain ⟨rfl, hZ, hh⟩ := hP
  have hx := Bd.exec
  have hby := Bd.bytes
  have hml : c.maxLocals = 2 := hml0
  have hown : s.vm.findClass "java/lang/Math" = some m.cls := findClass_of_methodNamed Bd.named
  have hnm := (name_of_methodNamed Bd.named Bd.method).1
  have X0 : Stand p l e ({ frames := 0, cells := 0, slots := 0, locals := 0 } : Room) s m #[(.int x1), (.int y1)] below meth c s₁ [] 0 0 := Stand.of_body Bd
  have e0 : s₁.heap = h0 := by rw [← hh, Bd.state]; rfl
  have N0 := Fr.nil n0
  refine own_out (own_nm fun G hG => own_st (fun zt zk => castTop (ef_rm10 m x1 y1) zk) ?_)
  show own_Go p e below G (s₁.setTop (mkF m 0 #[.val (.int x1), .val (.int y1)] []))
  refine own_st (fun zw zk => XS.iloadN X0.here hx rfl (hb hby d10_0) rfl zk) ?_
  refine own_st (fun zw zk => XS.iloadN X0.here hx rfl (hb hby d10_1) rfl zk) ?_
  by_cases hc2 : y1 < x1
  · refine own_st (fun zw zk => XS.icmpYes X0.here hx rfl (pc0 := 2) (pc' := 9) rfl (hb hby d10_2) rfl (tlt hc2).2.2.1 (by decide) (by decide) zk) ?_
    refine own_st (fun zw zk => XS.iloadN X0.here hx rfl (hb hby d10_9) rfl zk) ?_
    subst hG
    obtain ⟨fs, hr, hrun, hended, hW, hsame⟩ := X0.leave (v := some (.int y1)) (hlocks := Bd.notSynchronized) (fun h => by rw [Bd.returns] at h; cases h)
    refine ⟨_, own_retI X0 hx Bd.returns (hb hby d10_10) hr, _, hrun, hended, _, _, rfl, ?_, ⟨_, rfl⟩, hW, hsame.mono (by decide) (by decide)⟩
    show Q10 Z x1 y1 h0 n0 _ s₁.heap _
    rw [e0]
    exact ⟨by unfold own_mn; rw [if_pos hc2], N0, rfl⟩
  · refine own_st (fun zw zk => XS.icmpNo X0.here hx rfl (hb hby d10_2) rfl (flt hc2).2.2.1 zk) ?_
    refine own_st (fun zw zk => XS.iloadN X0.here hx rfl (hb hby d10_5) rfl zk) ?_
    refine own_st (fun zw zk => XS.goto X0.here hx rfl (pc0 := 6) (pc' := 10) rfl (hb hby d10_6) (by decide) (by decide) zk) ?_
    show own_Go p e below G (s₁.setTop (mkF m 10 #[.val (.int x1), .val (.int y1)] [(.int x1)]))
    subst hG
    obtain ⟨fs, hr, hrun, hended, hW, hsame⟩ := X0.leave (v := some (.int x1)) (hlocks := Bd.notSynchronized) (fun h => by rw [Bd.returns] at h; cases h)
    refine ⟨_, own_retI X0 hx Bd.returns (hb hby d10_10) hr, _, hrun, hended, _, _, rfl, ?_, ⟨_, rfl⟩, hW, hsame.mono (by decide) (by decide)⟩
    show Q10 Z x1 y1 h0 n0 _ s₁.heap _
    rw [e0]
    exact ⟨by unfold own_mn; rw [if_neg hc2], N0, rfl⟩
theorem pn_0 : plainName "com/example/passau/passau/insertion/TwoSat" = true := by first | (simp [plainName, overriddenIn]; done) | decide +kernel
theorem d5_0 : decode prog_53_method_3_code 0 = .ok (.iload_n 0, 1) := by decide +kernel
theorem d5_1 : decode prog_53_method_3_code 1 = .ok (.iconst 1, 1) := by decide +kernel
theorem d5_2 : decode prog_53_method_3_code 2 = .ok (.ixor, 1) := by decide +kernel
theorem d5_3 : decode prog_53_method_3_code 3 = .ok (.ireturn, 1) := by decide +kernel
theorem ef_rm5 (m : MethodId) (x1 : Int32) : entryFrame m #[(.int x1)] 1 = mkF m 0 #[.val (.int x1)] [] := by first | (simp [entryFrame, mkF, argsToLocals, Value.category]; done) | rfl
def own_not (x1 : Int32) : Int32 := (x1 ^^^ (1 : Int32))
def Q5 (Z : State) (x1 : Int32) (h0 : Heap) (n0 : Nat) (rv : Option Value) (hq : Heap) (Lq : List Loc) : Prop := rv = some (.int (own_not x1)) ∧ Fr n0 Lq ∧ hq = h0
set_option maxRecDepth 65536 in
set_option maxHeartbeats 40000000 in
theorem rm5 (l : Launch) (Z : State) (a0 : Array Value) (hw : ∀ d ∈ tables_1, d.before a0 Z = true) (ws : List Jvm.Cond) (x1 : Int32) (h0 : Heap) (n0 : Nat) (Z0 : n0 ≤ h0.size) :
    MetFree l (⟨"com/example/passau/passau/insertion/TwoSat", "not", "(I)I"⟩ : MethodName) (head1 (Jvm.Cond.code (⟨"com/example/passau/passau/insertion/TwoSat", "not", "(I)I"⟩ : MethodName) prog_53_method_3_code 1 (some .int) :: ws) ({ frames := 0, cells := 0, slots := 0, locals := 0 } : Room)) (fun za U => za = #[(.int x1)] ∧ Z.Warmed39 U.vm ∧ U.heap = h0) (fun _ _ _ _ _ => True) (fun _ U o U' => ∃ rv Lq, o = .returned rv ∧ Q5 Z x1 h0 n0 rv U'.heap Lq ∧ FrameEnd U o U' Lq ({ frames := 0, cells := 0, slots := 0, locals := 0 } : Room).cells ({ frames := 0, cells := 0, slots := 0, locals := 0 } : Room).slots) := by
  refine MetFree.of_bodySF (plainFor_of_name pn_0) hisR ?_
  intro p e s m args below meth c s₁ Bd hml0 hP hK
  obtain ⟨rfl, hZ, hh⟩ := hP
  have hx := Bd.exec
  have hby := Bd.bytes
  have hml : c.maxLocals = 1 := hml0
  have hown : s.vm.findClass "com/example/passau/passau/insertion/TwoSat" = some m.cls := findClass_of_methodNamed Bd.named
  have hnm := (name_of_methodNamed Bd.named Bd.method).1
  have X0 : Stand p l e ({ frames := 0, cells := 0, slots := 0, locals := 0 } : Room) s m #[(.int x1)] below meth c s₁ [] 0 0 := Stand.of_body Bd
  have e0 : s₁.heap = h0 := by rw [← hh, Bd.state]; rfl
  have N0 := Fr.nil n0
  refine own_out (own_nm fun G hG => own_st (fun zt zk => castTop (ef_rm5 m x1) zk) ?_)
  show own_Go p e below G (s₁.setTop (mkF m 0 #[.val (.int x1)] []))
  refine own_st (fun zw zk => XS.iloadN X0.here hx rfl (hb hby d5_0) rfl zk) ?_
  refine own_st (fun zw zk => XS.iconst X0.here hx rfl (hb hby d5_1) zk) ?_
  refine own_st (fun zw zk => XS.ixor X0.here hx rfl (hb hby d5_2) rfl zk) ?_
  subst hG
  obtain ⟨fs, hr, hrun, hended, hW, hsame⟩ := X0.leave (v := some (.int (x1 ^^^ (1 : Int32)))) (hlocks := Bd.notSynchronized) (fun h => by rw [Bd.returns] at h; cases h)
  refine ⟨_, own_retI X0 hx Bd.returns (hb hby d5_3) hr, _, hrun, hended, _, _, rfl, ?_, ⟨_, rfl⟩, hW, hsame.mono (by decide) (by decide)⟩
  show Q5 Z x1 h0 n0 _ s₁.heap _
  rw [e0]
  exact ⟨rfl, N0, rfl⟩
def own_enter (st : List Int32) (v : Int32) (S : own_S) : Option own_S :=
  (own_set S.pth (S.dep + 1) v).bind fun pth => (own_get st v).bind fun sv => (own_set S.edg (S.dep + 1) sv).bind fun edg => (own_set S.idx v S.cnt).bind fun idx => (own_set S.low v S.cnt).bind fun low =>
  (own_set S.sta S.stk v).bind fun sta => (own_set S.ons v 1).bind fun ons => some (own_S.wons (own_S.wstk (own_S.wsta (own_S.wcnt (own_S.wlow (own_S.widx (own_S.wedg (own_S.wpth (own_S.wdep S (S.dep + 1)) (pth)) (edg)) (idx)) (low)) (S.cnt + 1)) (sta)) (S.stk + 1)) (ons))
theorem own_enter_inv {st : List Int32} {v : Int32} {S S' : own_S} (h : own_enter st v S = some S') : ∃ pth sv edg idx low sta ons, own_set S.pth (S.dep + 1) v = some pth ∧ own_get st v = some sv ∧ own_set S.edg (S.dep + 1) sv = some edg ∧ own_set S.idx v S.cnt = some idx ∧ own_set S.low v S.cnt = some low ∧ own_set S.sta S.stk v = some sta ∧ own_set S.ons v 1 = some ons ∧
    S' = (own_S.wons (own_S.wstk (own_S.wsta (own_S.wcnt (own_S.wlow (own_S.widx (own_S.wedg (own_S.wpth (own_S.wdep S (S.dep + 1)) (pth)) (edg)) (idx)) (low)) (S.cnt + 1)) (sta)) (S.stk + 1)) (ons)) := by
  unfold own_enter at h
  obtain ⟨pth, h1, h⟩ := own_bd h
  obtain ⟨sv, h2, h⟩ := own_bd h
  obtain ⟨edg, h3, h⟩ := own_bd h
  obtain ⟨idx, h4, h⟩ := own_bd h
  obtain ⟨low, h5, h⟩ := own_bd h
  obtain ⟨sta, h6, h⟩ := own_bd h
  obtain ⟨ons, h7, h⟩ := own_bd h
  exact ⟨pth, sv, edg, idx, low, sta, ons, h1, h2, h3, h4, h5, h6, h7, (Option.some.inj h).symm⟩
def own_pop (v : Int32) (sta : List Int32) (cm : Int32) : Nat → Int32 → List Int32 → List Int32 → Option (Int32 × List Int32 × List Int32)
  | 0, _, _, _ => none
  | k + 1, z, ons, num => (own_get sta (z - 1)).bind fun w => (own_set ons w 0).bind fun o' => (own_set num w cm).bind fun n' => if w = v then some (z - 1, o', n') else own_pop v sta cm k (z - 1) o' n'
theorem own_pop_inv {v cm z : Int32} {sta ons num : List Int32} {k : Nat} {R : Int32 × List Int32 × List Int32} (h : own_pop v sta cm k z ons num = some R) : ∃ k' w o' n', k = k' + 1 ∧ own_get sta (z - 1) = some w ∧ own_set ons w 0 = some o' ∧ own_set num w cm = some n' ∧ (if w = v then some (z - 1, o', n') else own_pop v sta cm k' (z - 1) o' n') = some R := by
  cases k with
  | zero => simp [own_pop] at h
  | succ k =>
    rw [own_pop] at h
    obtain ⟨w, h1, h⟩ := own_bd h
    obtain ⟨o', h2, h⟩ := own_bd h
    obtain ⟨n', h3, h⟩ := own_bd h
    exact ⟨k, w, o', n', rfl, h1, h2, h3, h⟩
def own_back (v : Int32) (S : own_S) : Option own_S :=
  if S.dep - 1 < 0 then some (own_S.wdep S (S.dep - 1)) else (own_get S.pth (S.dep - 1)).bind fun q => (own_get S.low q).bind fun x => (own_get S.low v).bind fun y => (own_set S.low q (own_mn x y)).bind fun low => some (own_S.wlow (own_S.wdep S (S.dep - 1)) (low))
theorem own_bk1 {v : Int32} {S S' : own_S} (h : own_back v S = some S') (hc : S.dep - 1 < 0) : S' = (own_S.wdep S (S.dep - 1)) := by
  unfold own_back at h; rw [if_pos hc] at h; exact (Option.some.inj h).symm
theorem own_bk2 {v : Int32} {S S' : own_S} (h : own_back v S = some S') (hc : ¬ S.dep - 1 < 0) : ∃ q x y low, own_get S.pth (S.dep - 1) = some q ∧ own_get S.low q = some x ∧ own_get S.low v = some y ∧ own_set S.low q (own_mn x y) = some low ∧ S' = (own_S.wlow (own_S.wdep S (S.dep - 1)) (low)) := by
  unfold own_back at h; rw [if_neg hc] at h
  obtain ⟨q, h1, h⟩ := own_bd h
  obtain ⟨x, h2, h⟩ := own_bd h
  obtain ⟨y, h3, h⟩ := own_bd h
  obtain ⟨low, h4, h⟩ := own_bd h
  exact ⟨q, x, y, low, h1, h2, h3, h4, (Option.some.inj h).symm⟩
def own_leave (v : Int32) (S : own_S) : Option own_S :=
  (own_get S.low v).bind fun a => (own_get S.idx v).bind fun b => if a = b then (own_pop v S.sta S.cmp 16 S.stk S.ons S.num).bind fun r => own_back v (own_S.wcmp (own_S.wnum (own_S.wons (own_S.wstk S (r.1)) (r.2.1)) (r.2.2)) (S.cmp + 1)) else own_back v S
def own_loop (st nx : List Int32) : Nat → own_S → Option own_S
  | 0, _ => none
  | k + 1, S => if S.dep < 0 then some S else (own_get S.pth S.dep).bind fun v => (own_get S.edg S.dep).bind fun e => (own_get st (v + 1)).bind fun u =>
    if e < u then (own_set S.edg S.dep (e + 1)).bind fun edg => (own_get nx e).bind fun w => (own_get S.idx w).bind fun i =>
      if i < 0 then (own_enter st w (own_S.wedg S (edg))).bind fun S2 => own_loop st nx k S2
      else (own_get S.ons w).bind fun o => if o = 0 then own_loop st nx k (own_S.wedg S (edg)) else (own_get S.low v).bind fun a => (own_set S.low v (own_mn a i)).bind fun low => own_loop st nx k (own_S.wlow (own_S.wedg S (edg)) (low))
    else (own_leave v S).bind fun S2 => own_loop st nx k S2
theorem own_loop_end {st nx : List Int32} {k : Nat} {S S' : own_S} (h : own_loop st nx k S = some S') (hc : S.dep < 0) : S' = S := by
  cases k with
  | zero => simp [own_loop] at h
  | succ k => rw [own_loop, if_pos hc] at h; exact (Option.some.inj h).symm
theorem own_loop_inv {st nx : List Int32} {k : Nat} {S S' : own_S} (h : own_loop st nx k S = some S') (hc : ¬ S.dep < 0) : ∃ g v e u, k = g + 1 ∧ own_get S.pth S.dep = some v ∧ own_get S.edg S.dep = some e ∧ own_get st (v + 1) = some u ∧
    (if e < u then (own_set S.edg S.dep (e + 1)).bind fun edg => (own_get nx e).bind fun w => (own_get S.idx w).bind fun i =>
      if i < 0 then (own_enter st w (own_S.wedg S (edg))).bind fun S2 => own_loop st nx g S2
      else (own_get S.ons w).bind fun o => if o = 0 then own_loop st nx g (own_S.wedg S (edg)) else (own_get S.low v).bind fun a => (own_set S.low v (own_mn a i)).bind fun low => own_loop st nx g (own_S.wlow (own_S.wedg S (edg)) (low))
    else (own_leave v S).bind fun S2 => own_loop st nx g S2) = some S' := by
  cases k with
  | zero => simp [own_loop] at h
  | succ k =>
    rw [own_loop, if_neg hc] at h
    obtain ⟨v, h1, h⟩ := own_bd h
    obtain ⟨e, h2, h⟩ := own_bd h
    obtain ⟨u, h3, h⟩ := own_bd h
    exact ⟨k, v, e, u, rfl, h1, h2, h3, h⟩
def own_walk (st nx : List Int32) (v : Int32) (S : own_S) : Option own_S := (own_enter st v (own_S.wdep S (-1))).bind fun S1 => own_loop st nx 64 S1
def own_roots (st nx : List Int32) (z : Int32) : Nat → Int32 → own_S → Option own_S
  | 0, _, _ => none
  | k + 1, i, S => if i < z then (own_get S.idx i).bind fun x => if x < 0 then (own_walk st nx i S).bind fun S2 => own_roots st nx z k (i + 1) S2 else own_roots st nx z k (i + 1) S else some S
theorem own_roots_end {st nx : List Int32} {z i : Int32} {k : Nat} {S S' : own_S} (h : own_roots st nx z k i S = some S') (hc : ¬ i < z) : S' = S := by
  cases k with
  | zero => simp [own_roots] at h
  | succ k => rw [own_roots, if_neg hc] at h; exact (Option.some.inj h).symm
theorem own_roots_inv {st nx : List Int32} {z i : Int32} {k : Nat} {S S' : own_S} (h : own_roots st nx z k i S = some S') (hc : i < z) : ∃ g x, k = g + 1 ∧ own_get S.idx i = some x ∧ (if x < 0 then (own_walk st nx i S).bind fun S2 => own_roots st nx z g (i + 1) S2 else own_roots st nx z g (i + 1) S) = some S' := by
  cases k with
  | zero => simp [own_roots] at h
  | succ k =>
    rw [own_roots, if_pos hc] at h
    obtain ⟨x, h1, h⟩ := own_bd h
    exact ⟨k, x, rfl, h1, h⟩
def own_fill (z x : Int32) : Nat → Int32 → List Int32 → Option (List Int32)
  | 0, _, _ => none
  | k + 1, i, xs => if i < z then (own_set xs i x).bind fun ys => own_fill z x k (i + 1) ys else some xs
theorem own_fill_end {z x i : Int32} {k : Nat} {xs ys : List Int32} (h : own_fill z x k i xs = some ys) (hc : ¬ i < z) : ys = xs := by
  cases k with
  | zero => simp [own_fill] at h
  | succ k => rw [own_fill, if_neg hc] at h; exact (Option.some.inj h).symm
theorem own_fill_inv {z x i : Int32} {k : Nat} {xs ys : List Int32} (h : own_fill z x k i xs = some ys) (hc : i < z) : ∃ g y, k = g + 1 ∧ own_set xs i x = some y ∧ own_fill z x g (i + 1) y = some ys := by
  cases k with
  | zero => simp [own_fill] at h
  | succ k =>
    rw [own_fill, if_pos hc] at h
    obtain ⟨y, h1, h⟩ := own_bd h
    exact ⟨k, y, rfl, h1, h⟩
def own_init (k : Nat) (fi : List Int32) : own_S := ⟨0, 0, 0, 0, fi, List.replicate k 0, List.replicate k 0, List.replicate k 0, List.replicate k 0, List.replicate k 0, List.replicate k 0⟩
def own_comp (st nx : List Int32) (z : Int32) (k : Nat) : Option (List Int32) := (own_fill z (-1) 17 0 (List.replicate k 0)).bind fun fi => (own_roots st nx z 17 0 (own_init k fi)).bind fun S => some S.num
def own_l1 (lf : List Int32) (im : Int32) : Nat → Int32 → List Int32 → Option (List Int32)
  | 0, _, _ => none
  | k + 1, i, xs => if i < im then (own_get lf i).bind fun f => (own_get xs (f + 1)).bind fun x => (own_set xs (f + 1) (x + 1)).bind fun ys => own_l1 lf im k (i + 1) ys else some xs
theorem own_l1_end {lf xs ys : List Int32} {im i : Int32} {k : Nat} (h : own_l1 lf im k i xs = some ys) (hc : ¬ i < im) : ys = xs := by
  cases k with
  | zero => simp [own_l1] at h
  | succ k => rw [own_l1, if_neg hc] at h; exact (Option.some.inj h).symm
theorem own_l1_inv {lf xs ys : List Int32} {im i : Int32} {k : Nat} (h : own_l1 lf im k i xs = some ys) (hc : i < im) : ∃ g f x y, k = g + 1 ∧ own_get lf i = some f ∧ own_get xs (f + 1) = some x ∧ own_set xs (f + 1) (x + 1) = some y ∧ own_l1 lf im g (i + 1) y = some ys := by
  cases k with
  | zero => simp [own_l1] at h
  | succ k =>
    rw [own_l1, if_pos hc] at h
    obtain ⟨f, h1, h⟩ := own_bd h
    obtain ⟨x, h2, h⟩ := own_bd h
    obtain ⟨y, h3, h⟩ := own_bd h
    exact ⟨k, f, x, y, rfl, h1, h2, h3, h⟩
def own_l2 (z : Int32) : Nat → Int32 → List Int32 → Option (List Int32)
  | 0, _, _ => none
  | k + 1, i, xs => if i < z then (own_get xs (i + 1)).bind fun x => (own_get xs i).bind fun y => (own_set xs (i + 1) (x + y)).bind fun ys => own_l2 z k (i + 1) ys else some xs
theorem own_l2_end {xs ys : List Int32} {z i : Int32} {k : Nat} (h : own_l2 z k i xs = some ys) (hc : ¬ i < z) : ys = xs := by
  cases k with
  | zero => simp [own_l2] at h
  | succ k => rw [own_l2, if_neg hc] at h; exact (Option.some.inj h).symm
theorem own_l2_inv {xs ys : List Int32} {z i : Int32} {k : Nat} (h : own_l2 z k i xs = some ys) (hc : i < z) : ∃ g x y w, k = g + 1 ∧ own_get xs (i + 1) = some x ∧ own_get xs i = some y ∧ own_set xs (i + 1) (x + y) = some w ∧ own_l2 z g (i + 1) w = some ys := by
  cases k with
  | zero => simp [own_l2] at h
  | succ k =>
    rw [own_l2, if_pos hc] at h
    obtain ⟨x, h1, h⟩ := own_bd h
    obtain ⟨y, h2, h⟩ := own_bd h
    obtain ⟨w, h3, h⟩ := own_bd h
    exact ⟨k, x, y, w, rfl, h1, h2, h3, h⟩
def own_l3 (lf lt : List Int32) (im : Int32) : Nat → Int32 → List Int32 → List Int32 → Option (List Int32)
  | 0, _, _, _ => none
  | k + 1, i, nx, fi => if i < im then (own_get lf i).bind fun f => (own_get fi f).bind fun x => (own_set fi f (x + 1)).bind fun fi' => (own_get lt i).bind fun t => (own_set nx x t).bind fun nx' => own_l3 lf lt im k (i + 1) nx' fi' else some nx
theorem own_l3_end {lf lt nx fi ys : List Int32} {im i : Int32} {k : Nat} (h : own_l3 lf lt im k i nx fi = some ys) (hc : ¬ i < im) : ys = nx := by
  cases k with
  | zero => simp [own_l3] at h
  | succ k => rw [own_l3, if_neg hc] at h; exact (Option.some.inj h).symm
theorem own_l3_inv {lf lt nx fi ys : List Int32} {im i : Int32} {k : Nat} (h : own_l3 lf lt im k i nx fi = some ys) (hc : i < im) : ∃ g f x fi' t nx', k = g + 1 ∧ own_get lf i = some f ∧ own_get fi f = some x ∧ own_set fi f (x + 1) = some fi' ∧ own_get lt i = some t ∧ own_set nx x t = some nx' ∧ own_l3 lf lt im g (i + 1) nx' fi' = some ys := by
  cases k with
  | zero => simp [own_l3] at h
  | succ k =>
    rw [own_l3, if_pos hc] at h
    obtain ⟨f, h1, h⟩ := own_bd h
    obtain ⟨x, h2, h⟩ := own_bd h
    obtain ⟨fi', h3, h⟩ := own_bd h
    obtain ⟨t, h4, h⟩ := own_bd h
    obtain ⟨nx', h5, h⟩ := own_bd h
    exact ⟨k, f, x, fi', t, nx', rfl, h1, h2, h3, h4, h5, h⟩
def own_l4 (cs : List Int32) (va : Int32) : Nat → Int32 → List Int32 → Option (List Int32)
  | 0, _, _ => none
  | k + 1, i, rs => if i < va then (own_get cs (2 * i)).bind fun x => (own_get cs (2 * i + 1)).bind fun y => if x = y then none else (own_set rs i (if x < y then 1 else 0)).bind fun r => own_l4 cs va k (i + 1) r else some rs
theorem own_l4_end {cs rs ys : List Int32} {va i : Int32} {k : Nat} (h : own_l4 cs va k i rs = some ys) (hc : ¬ i < va) : ys = rs := by
  cases k with
  | zero => simp [own_l4] at h
  | succ k => rw [own_l4, if_neg hc] at h; exact (Option.some.inj h).symm
theorem own_l4_inv {cs rs ys : List Int32} {va i : Int32} {k : Nat} (h : own_l4 cs va k i rs = some ys) (hc : i < va) : ∃ g x y r, k = g + 1 ∧ own_get cs (2 * i) = some x ∧ own_get cs (2 * i + 1) = some y ∧ ¬ x = y ∧ own_set rs i (if x < y then 1 else 0) = some r ∧ own_l4 cs va g (i + 1) r = some ys := by
  cases k with
  | zero => simp [own_l4] at h
  | succ k =>
    rw [own_l4, if_pos hc] at h
    obtain ⟨x, h1, h⟩ := own_bd h
    obtain ⟨y, h2, h⟩ := own_bd h
    by_cases q : x = y
    · rw [if_pos q] at h; simp at h
    · rw [if_neg q] at h
      obtain ⟨r, h3, h⟩ := own_bd h
      exact ⟨k, x, y, r, rfl, h1, h2, q, h3, h⟩
def own_solve (lf lt : List Int32) (im va : Int32) (nn ni nv : Nat) : Option (List Int32) :=
  (own_l1 lf im 17 0 (List.replicate (nn + 1) 0)).bind fun s1 => (own_l2 (2 * va) 17 0 s1).bind fun s2 => if s2.length = nn + 1 then (own_l3 lf lt im 17 0 (List.replicate ni 0) (s2.take nn)).bind fun nx => (own_comp s2 nx (2 * va) nn).bind fun cs => own_l4 cs va 17 0 (List.replicate nv 0) else none
theorem own_cpres {xs : List Int32} {k : Nat} (h : xs.length = k + 1) : own_il (xs.take k) = (own_il (List.replicate k 0)).take 0 ++ ((own_il xs).drop 0).take k ++ (own_il (List.replicate k 0)).drop (0 + k) := by
  have z : (own_il (List.replicate k 0)).drop (0 + k) = [] := List.drop_of_length_le (by rw [own_il_len, List.length_replicate]; omega)
  rw [z, List.take_zero, List.nil_append, List.append_nil, List.drop_zero]; simp [own_il, List.map_take]
theorem own_mn2 {x y : Int32} {k : Nat} (hy : y.toInt = k) (hx : x.toInt = (k + 1 : Nat)) : own_mn x y = y := by
  unfold own_mn; rw [if_pos (by rw [Int32.lt_iff_toInt_lt]; omega)]
theorem own_ne1 {x y : Int32} {k : Nat} (hy : y.toInt = k) (hx : x.toInt = (k + 1 : Nat)) : ¬ y = x := fun q => by rw [q] at hy; omega
theorem own_l32 {xs : List Int32} {k : Nat} (h : xs.length = k + 1) (hk : k ≤ 15) : ((own_il xs).length.toInt32).toInt = (k + 1 : Nat) := by
  rw [own_il_len, h]; exact len_toInt (by omega)
theorem own_up1 {x : Int32} {k : Nat} (h : x.toInt = k) (hk : k ≤ 15) : (x + 1).toInt = (k + 1 : Nat) := own_up h (by omega)
theorem pn_1 : plainName "com/example/passau/passau/insertion/TwoSat$Components" = true := by first | (simp [plainName, overriddenIn]; done) | decide +kernel
theorem d15_0 : decode prog_54_method_4_code 0 = .ok (.aload_n 0, 1) := by decide +kernel
theorem d15_1 : decode prog_54_method_4_code 1 = .ok (.dup, 1) := by decide +kernel
theorem d15_2 : decode prog_54_method_4_code 2 = .ok (.getfield 51, 3) := by decide +kernel
theorem d15_5 : decode prog_54_method_4_code 5 = .ok (.iconst 1, 1) := by decide +kernel
theorem d15_6 : decode prog_54_method_4_code 6 = .ok (.iadd, 1) := by decide +kernel
theorem d15_7 : decode prog_54_method_4_code 7 = .ok (.putfield 51, 3) := by decide +kernel
theorem d15_10 : decode prog_54_method_4_code 10 = .ok (.aload_n 0, 1) := by decide +kernel
theorem d15_11 : decode prog_54_method_4_code 11 = .ok (.getfield 39, 3) := by decide +kernel
theorem d15_14 : decode prog_54_method_4_code 14 = .ok (.aload_n 0, 1) := by decide +kernel
theorem d15_15 : decode prog_54_method_4_code 15 = .ok (.getfield 51, 3) := by decide +kernel
theorem d15_18 : decode prog_54_method_4_code 18 = .ok (.iload_n 1, 1) := by decide +kernel
theorem d15_19 : decode prog_54_method_4_code 19 = .ok (.iastore, 1) := by decide +kernel
theorem d15_20 : decode prog_54_method_4_code 20 = .ok (.aload_n 0, 1) := by decide +kernel
theorem d15_21 : decode prog_54_method_4_code 21 = .ok (.getfield 42, 3) := by decide +kernel
theorem d15_24 : decode prog_54_method_4_code 24 = .ok (.aload_n 0, 1) := by decide +kernel
theorem d15_25 : decode prog_54_method_4_code 25 = .ok (.getfield 51, 3) := by decide +kernel
theorem d15_28 : decode prog_54_method_4_code 28 = .ok (.aload_n 0, 1) := by decide +kernel
theorem d15_29 : decode prog_54_method_4_code 29 = .ok (.getfield 23, 3) := by decide +kernel
theorem d15_32 : decode prog_54_method_4_code 32 = .ok (.iload_n 1, 1) := by decide +kernel
theorem d15_33 : decode prog_54_method_4_code 33 = .ok (.iaload, 1) := by decide +kernel
theorem d15_34 : decode prog_54_method_4_code 34 = .ok (.iastore, 1) := by decide +kernel
theorem d15_35 : decode prog_54_method_4_code 35 = .ok (.aload_n 0, 1) := by decide +kernel
theorem d15_36 : decode prog_54_method_4_code 36 = .ok (.getfield 7, 3) := by decide +kernel
theorem d15_39 : decode prog_54_method_4_code 39 = .ok (.iload_n 1, 1) := by decide +kernel
theorem d15_40 : decode prog_54_method_4_code 40 = .ok (.aload_n 0, 1) := by decide +kernel
theorem d15_41 : decode prog_54_method_4_code 41 = .ok (.getfield 67, 3) := by decide +kernel
theorem d15_44 : decode prog_54_method_4_code 44 = .ok (.iastore, 1) := by decide +kernel
theorem d15_45 : decode prog_54_method_4_code 45 = .ok (.aload_n 0, 1) := by decide +kernel
theorem d15_46 : decode prog_54_method_4_code 46 = .ok (.getfield 29, 3) := by decide +kernel
theorem d15_49 : decode prog_54_method_4_code 49 = .ok (.iload_n 1, 1) := by decide +kernel
theorem d15_50 : decode prog_54_method_4_code 50 = .ok (.aload_n 0, 1) := by decide +kernel
theorem d15_51 : decode prog_54_method_4_code 51 = .ok (.getfield 67, 3) := by decide +kernel
theorem d15_54 : decode prog_54_method_4_code 54 = .ok (.iastore, 1) := by decide +kernel
theorem d15_55 : decode prog_54_method_4_code 55 = .ok (.aload_n 0, 1) := by decide +kernel
theorem d15_56 : decode prog_54_method_4_code 56 = .ok (.dup, 1) := by decide +kernel
theorem d15_57 : decode prog_54_method_4_code 57 = .ok (.getfield 67, 3) := by decide +kernel
theorem d15_60 : decode prog_54_method_4_code 60 = .ok (.iconst 1, 1) := by decide +kernel
theorem d15_61 : decode prog_54_method_4_code 61 = .ok (.iadd, 1) := by decide +kernel
theorem d15_62 : decode prog_54_method_4_code 62 = .ok (.putfield 67, 3) := by decide +kernel
theorem d15_65 : decode prog_54_method_4_code 65 = .ok (.aload_n 0, 1) := by decide +kernel
theorem d15_66 : decode prog_54_method_4_code 66 = .ok (.getfield 32, 3) := by decide +kernel
theorem d15_69 : decode prog_54_method_4_code 69 = .ok (.aload_n 0, 1) := by decide +kernel
theorem d15_70 : decode prog_54_method_4_code 70 = .ok (.dup, 1) := by decide +kernel
theorem d15_71 : decode prog_54_method_4_code 71 = .ok (.getfield 70, 3) := by decide +kernel
theorem d15_74 : decode prog_54_method_4_code 74 = .ok (.dup_x1, 1) := by decide +kernel
theorem d15_75 : decode prog_54_method_4_code 75 = .ok (.iconst 1, 1) := by decide +kernel
theorem d15_76 : decode prog_54_method_4_code 76 = .ok (.iadd, 1) := by decide +kernel
theorem d15_77 : decode prog_54_method_4_code 77 = .ok (.putfield 70, 3) := by decide +kernel
theorem d15_80 : decode prog_54_method_4_code 80 = .ok (.iload_n 1, 1) := by decide +kernel
theorem d15_81 : decode prog_54_method_4_code 81 = .ok (.iastore, 1) := by decide +kernel
theorem d15_82 : decode prog_54_method_4_code 82 = .ok (.aload_n 0, 1) := by decide +kernel
theorem d15_83 : decode prog_54_method_4_code 83 = .ok (.getfield 35, 3) := by decide +kernel
theorem d15_86 : decode prog_54_method_4_code 86 = .ok (.iload_n 1, 1) := by decide +kernel
theorem d15_87 : decode prog_54_method_4_code 87 = .ok (.iconst 1, 1) := by decide +kernel
theorem d15_88 : decode prog_54_method_4_code 88 = .ok (.bastore, 1) := by decide +kernel
theorem d15_89 : decode prog_54_method_4_code 89 = .ok (.return_, 1) := by decide +kernel
theorem ef_rm15 (m : MethodId) (d : Addr) (v1 : Int32) : entryFrame m #[(.ref d), (.int v1)] 2 = mkF m 0 #[.val (.ref d), .val (.int v1)] [] := by first | (simp [entryFrame, mkF, argsToLocals, Value.category]; done) | rfl
def Q15 (Z : State) (d : Addr) (v1 : Int32) (ast : Addr) (anx : Addr) (aix : Addr) (alo : Addr) (anu : Addr) (ask : Addr) (aos : Addr) (apa : Addr) (aed : Addr) (sl : List Int32) (nl : List Int32) (Sa : own_S) (Sb : own_S) (h0 : Heap) (n0 : Nat) (rv : Option Value) (hq : Heap) (Lq : List Loc) : Prop := rv = none ∧ Fr n0 Lq ∧ Keep h0 hq [d, aix, alo, anu, ask, aos, apa, aed] ∧ Fld Z hq d "com/example/passau/passau/insertion/TwoSat$Components" "start" "[I" (.ref ast) ∧ Fld Z hq d "com/example/passau/passau/insertion/TwoSat$Components" "next" "[I" (.ref anx) ∧ Fld Z hq d "com/example/passau/passau/insertion/TwoSat$Components" "index" "[I" (.ref aix) ∧ Fld Z hq d "com/example/passau/passau/insertion/TwoSat$Components" "low" "[I" (.ref alo) ∧ Fld Z hq d "com/example/passau/passau/insertion/TwoSat$Components" "number" "[I" (.ref anu) ∧ Fld Z hq d "com/example/passau/passau/insertion/TwoSat$Components" "stack" "[I" (.ref ask) ∧ Fld Z hq d "com/example/passau/passau/insertion/TwoSat$Components" "onStack" "[Z" (.ref aos) ∧ Fld Z hq d "com/example/passau/passau/insertion/TwoSat$Components" "path" "[I" (.ref apa) ∧ Fld Z hq d "com/example/passau/passau/insertion/TwoSat$Components" "edge" "[I" (.ref aed) ∧ Fld Z hq d "com/example/passau/passau/insertion/TwoSat$Components" "depth" "I" (.int Sb.dep) ∧ Fld Z hq d "com/example/passau/passau/insertion/TwoSat$Components" "counter" "I" (.int Sb.cnt) ∧ Fld Z hq d "com/example/passau/passau/insertion/TwoSat$Components" "stacked" "I" (.int Sb.stk) ∧ Fld Z hq d "com/example/passau/passau/insertion/TwoSat$Components" "components" "I" (.int Sb.cmp) ∧ own_L Z hq aix .int ((own_il Sb.idx)) ∧ own_L Z hq alo .int ((own_il Sb.low)) ∧ own_L Z hq anu .int ((own_il Sb.num)) ∧ own_L Z hq ask .int ((own_il Sb.sta)) ∧ own_L Z hq aos .boolean ((own_il Sb.ons)) ∧ own_L Z hq apa .int ((own_il Sb.pth)) ∧ own_L Z hq aed .int ((own_il Sb.edg))
set_option maxRecDepth 65536 in
set_option maxHeartbeats 40000000 in
theorem rm15 (l : Launch) (Z : State) (a0 : Array Value) (hw : ∀ d ∈ tables_1, d.before a0 Z = true) (ws : List Jvm.Cond) (d : Addr) (v1 : Int32) (ast : Addr) (anx : Addr) (aix : Addr) (alo : Addr) (anu : Addr) (ask : Addr) (aos : Addr) (apa : Addr) (aed : Addr) (sl : List Int32) (nl : List Int32) (Sa : own_S) (Sb : own_S) (h0 : Heap) (n0 : Nat) (Z0 : n0 ≤ h0.size) (F0_ : Exa Z h0 d "com/example/passau/passau/insertion/TwoSat$Components") (F1_ : Fld Z h0 d "com/example/passau/passau/insertion/TwoSat$Components" "start" "[I" (.ref ast)) (F2_ : Fld Z h0 d "com/example/passau/passau/insertion/TwoSat$Components" "next" "[I" (.ref anx)) (F3_ : Fld Z h0 d "com/example/passau/passau/insertion/TwoSat$Components" "index" "[I" (.ref aix)) (F4_ : Fld Z h0 d "com/example/passau/passau/insertion/TwoSat$Components" "low" "[I" (.ref alo)) (F5_ : Fld Z h0 d "com/example/passau/passau/insertion/TwoSat$Components" "number" "[I" (.ref anu)) (F6_ : Fld Z h0 d "com/example/passau/passau/insertion/TwoSat$Components" "stack" "[I" (.ref ask)) (F7_ : Fld Z h0 d "com/example/passau/passau/insertion/TwoSat$Components" "onStack" "[Z" (.ref aos)) (F8_ : Fld Z h0 d "com/example/passau/passau/insertion/TwoSat$Components" "path" "[I" (.ref apa)) (F9_ : Fld Z h0 d "com/example/passau/passau/insertion/TwoSat$Components" "edge" "[I" (.ref aed)) (F10_ : Fld Z h0 d "com/example/passau/passau/insertion/TwoSat$Components" "depth" "I" (.int Sa.dep)) (F11_ : Fld Z h0 d "com/example/passau/passau/insertion/TwoSat$Components" "counter" "I" (.int Sa.cnt)) (F12_ : Fld Z h0 d "com/example/passau/passau/insertion/TwoSat$Components" "stacked" "I" (.int Sa.stk)) (F13_ : Fld Z h0 d "com/example/passau/passau/insertion/TwoSat$Components" "components" "I" (.int Sa.cmp)) (F14_ : own_L Z h0 aix .int ((own_il Sa.idx))) (F15_ : own_L Z h0 alo .int ((own_il Sa.low))) (F16_ : own_L Z h0 anu .int ((own_il Sa.num))) (F17_ : own_L Z h0 ask .int ((own_il Sa.sta))) (F18_ : own_L Z h0 aos .boolean ((own_il Sa.ons))) (F19_ : own_L Z h0 apa .int ((own_il Sa.pth))) (F20_ : own_L Z h0 aed .int ((own_il Sa.edg))) (F21_ : own_L Z h0 ast .int ((own_il sl))) (F22_ : own_L Z h0 anx .int ((own_il nl))) (ge_d : n0 ≤ d) (ge_aix : n0 ≤ aix) (ge_alo : n0 ≤ alo) (ge_anu : n0 ≤ anu) (ge_ask : n0 ≤ ask) (ge_aos : n0 ≤ aos) (ge_apa : n0 ≤ apa) (ge_aed : n0 ≤ aed) (ne_d_aix : d ≠ aix) (ne_d_alo : d ≠ alo) (ne_d_anu : d ≠ anu) (ne_d_ask : d ≠ ask) (ne_d_aos : d ≠ aos) (ne_d_apa : d ≠ apa) (ne_d_aed : d ≠ aed) (ne_aix_alo : aix ≠ alo) (ne_aix_anu : aix ≠ anu) (ne_aix_ask : aix ≠ ask) (ne_aix_aos : aix ≠ aos) (ne_aix_apa : aix ≠ apa) (ne_aix_aed : aix ≠ aed) (ne_alo_anu : alo ≠ anu) (ne_alo_ask : alo ≠ ask) (ne_alo_aos : alo ≠ aos) (ne_alo_apa : alo ≠ apa) (ne_alo_aed : alo ≠ aed) (ne_anu_ask : anu ≠ ask) (ne_anu_aos : anu ≠ aos) (ne_anu_apa : anu ≠ apa) (ne_anu_aed : anu ≠ aed) (ne_ask_aos : ask ≠ aos) (ne_ask_apa : ask ≠ apa) (ne_ask_aed : ask ≠ aed) (ne_aos_apa : aos ≠ apa) (ne_aos_aed : aos ≠ aed) (ne_apa_aed : apa ≠ aed) (ne_d_ast : d ≠ ast) (ne_d_anx : d ≠ anx) (ne_aix_ast : aix ≠ ast) (ne_aix_anx : aix ≠ anx) (ne_alo_ast : alo ≠ ast) (ne_alo_anx : alo ≠ anx) (ne_anu_ast : anu ≠ ast) (ne_anu_anx : anu ≠ anx) (ne_ask_ast : ask ≠ ast) (ne_ask_anx : ask ≠ anx) (ne_aos_ast : aos ≠ ast) (ne_aos_anx : aos ≠ anx) (ne_apa_ast : apa ≠ ast) (ne_apa_anx : apa ≠ anx) (ne_aed_ast : aed ≠ ast) (ne_aed_anx : aed ≠ anx) (hE : own_enter sl v1 Sa = some Sb) :
    MetFree l (⟨"com/example/passau/passau/insertion/TwoSat$Components", "enter", "(I)V"⟩ : MethodName) (head1 (Jvm.Cond.code (⟨"com/example/passau/passau/insertion/TwoSat$Components", "enter", "(I)V"⟩ : MethodName) prog_54_method_4_code 2 none :: ws) ({ frames := 0, cells := 0, slots := 0, locals := 0 } : Room)) (fun za U => za = #[(.ref d), (.int v1)] ∧ Z.Warmed39 U.vm ∧ U.heap = h0) (fun _ _ _ _ _ => True) (fun _ U o U' => ∃ rv Lq, o = .returned rv ∧ Q15 Z d v1 ast anx aix alo anu ask aos apa aed sl nl Sa Sb h0 n0 rv U'.heap Lq ∧ FrameEnd U o U' Lq ({ frames := 0, cells := 0, slots := 0, locals := 0 } : Room).cells ({ frames := 0, cells := 0, slots := 0, locals := 0 } : Room).slots) := by
  refine MetFree.of_bodySF (plainFor_of_name pn_1) hisR ?_
  intro p e s m args below meth c s₁ Bd hml0 hP hK
  obtain ⟨rfl, hZ, hh⟩ := hP
  have hx := Bd.exec
  have hby := Bd.bytes
  have hml : c.maxLocals = 2 := hml0
  have hown : s.vm.findClass "com/example/passau/passau/insertion/TwoSat$Components" = some m.cls := findClass_of_methodNamed Bd.named
  have hnm := (name_of_methodNamed Bd.named Bd.method).1
  have X0 : Stand p l e ({ frames := 0, cells := 0, slots := 0, locals := 0 } : Room) s m #[(.ref d), (.int v1)] below meth c s₁ [] 0 0 := Stand.of_body Bd
  have e0 : s₁.heap = h0 := by rw [← hh, Bd.state]; rfl
  have N0 := Fr.nil n0
  refine own_out (own_nm fun G hG => own_st (fun zt zk => castTop (ef_rm15 m d v1) zk) ?_)
  obtain ⟨pth1, sv1, edg1, idx1, low1, sta1, ons1, hpth, hsv, hedg, hidx, hlow, hsta, hons, hSb⟩ := own_enter_inv hE
  show own_Go p e below G (s₁.setTop (mkF m 0 #[.val (.ref d), .val (.int v1)] []))
  refine own_st (fun zw zk => XS.aloadN X0.here hx rfl (hb hby d15_0) rfl rfl zk) ?_
  refine own_st (fun zw zk => XS.dup X0.here hx rfl (hb hby d15_1) rfl rfl zk) ?_
  obtain ⟨T1, X1, e1, st1⟩ := getF X0 hx hZ hown (host := "") (Or.inl (hw _ (List.mem_of_getElem? (i := 95) rfl))) Via.refl e0 F10_ (g := (mkF m 2 #[.val (.ref d), .val (.int v1)] [(.ref d), (.ref d)])) rfl rfl (hb hby d15_2)
  refine own_st (fun zw zk => st1 zw zk) ?_
  refine own_st (fun zw zk => XS.iconst X1.here hx rfl (hb hby d15_5) zk) ?_
  refine own_st (fun zw zk => XS.iadd X1.here hx rfl (hb hby d15_6) rfl zk) ?_
  obtain ⟨T2, h2, X2, e2, W2, st2⟩ := putF X1 hx hZ hown (host := "") (Or.inl (hw _ (List.mem_of_getElem? (i := 95) rfl))) Via.refl e1 F10_ F0_ (Or.inl (hw _ (List.mem_of_getElem? (i := 96) rfl))) (hw _ (List.mem_of_getElem? (i := 64) rfl)) (ty := .int) (by decide) rfl rfl (g := (mkF m 7 #[.val (.ref d), .val (.int v1)] [(.int (Sa.dep + (1 : Int32))), (.ref d)])) rfl rfl (hb hby d15_7)
  have F10_2 := F10_.same W2
  have N2 := Fr.snoc X2 N0 ge_d
  refine own_st (fun zw zk => st2 zw zk) ?_
  have F0_2 := F0_.wr W2
  have F1_2 := F1_.other W2 (Or.inr (slot_ne (Or.inr (hw _ (List.mem_of_getElem? (i := 70) rfl))) (Or.inl (hw _ (List.mem_of_getElem? (i := 96) rfl))) (by decide) (t := (.array .int)) (t' := .int) (by decide) (by decide)))
  have F2_2 := F2_.other W2 (Or.inr (slot_ne (Or.inr (hw _ (List.mem_of_getElem? (i := 72) rfl))) (Or.inl (hw _ (List.mem_of_getElem? (i := 96) rfl))) (by decide) (t := (.array .int)) (t' := .int) (by decide) (by decide)))
  have F3_2 := F3_.other W2 (Or.inr (slot_ne (Or.inr (hw _ (List.mem_of_getElem? (i := 74) rfl))) (Or.inl (hw _ (List.mem_of_getElem? (i := 96) rfl))) (by decide) (t := (.array .int)) (t' := .int) (by decide) (by decide)))
  have F4_2 := F4_.other W2 (Or.inr (slot_ne (Or.inr (hw _ (List.mem_of_getElem? (i := 76) rfl))) (Or.inl (hw _ (List.mem_of_getElem? (i := 96) rfl))) (by decide) (t := (.array .int)) (t' := .int) (by decide) (by decide)))
  have F5_2 := F5_.other W2 (Or.inr (slot_ne (Or.inr (hw _ (List.mem_of_getElem? (i := 78) rfl))) (Or.inl (hw _ (List.mem_of_getElem? (i := 96) rfl))) (by decide) (t := (.array .int)) (t' := .int) (by decide) (by decide)))
  have F6_2 := F6_.other W2 (Or.inr (slot_ne (Or.inr (hw _ (List.mem_of_getElem? (i := 80) rfl))) (Or.inl (hw _ (List.mem_of_getElem? (i := 96) rfl))) (by decide) (t := (.array .int)) (t' := .int) (by decide) (by decide)))
  have F7_2 := F7_.other W2 (Or.inr (slot_ne (Or.inr (hw _ (List.mem_of_getElem? (i := 83) rfl))) (Or.inl (hw _ (List.mem_of_getElem? (i := 96) rfl))) (by decide) (t := (.array .boolean)) (t' := .int) (by decide) (by decide)))
  have F8_2 := F8_.other W2 (Or.inr (slot_ne (Or.inr (hw _ (List.mem_of_getElem? (i := 85) rfl))) (Or.inl (hw _ (List.mem_of_getElem? (i := 96) rfl))) (by decide) (t := (.array .int)) (t' := .int) (by decide) (by decide)))
  have F9_2 := F9_.other W2 (Or.inr (slot_ne (Or.inr (hw _ (List.mem_of_getElem? (i := 87) rfl))) (Or.inl (hw _ (List.mem_of_getElem? (i := 96) rfl))) (by decide) (t := (.array .int)) (t' := .int) (by decide) (by decide)))
  have F11_2 := F11_.other W2 (Or.inr (slot_ne (Or.inl (hw _ (List.mem_of_getElem? (i := 102) rfl))) (Or.inl (hw _ (List.mem_of_getElem? (i := 96) rfl))) (by decide) (t := .int) (t' := .int) (by decide) (by decide)))
  have F12_2 := F12_.other W2 (Or.inr (slot_ne (Or.inl (hw _ (List.mem_of_getElem? (i := 104) rfl))) (Or.inl (hw _ (List.mem_of_getElem? (i := 96) rfl))) (by decide) (t := .int) (t' := .int) (by decide) (by decide)))
  have F13_2 := F13_.other W2 (Or.inr (slot_ne (Or.inl (hw _ (List.mem_of_getElem? (i := 110) rfl))) (Or.inl (hw _ (List.mem_of_getElem? (i := 96) rfl))) (by decide) (t := .int) (t' := .int) (by decide) (by decide)))
  have F14_2 := F14_.other W2 (Ne.symm ne_d_aix)
  have F15_2 := F15_.other W2 (Ne.symm ne_d_alo)
  have F16_2 := F16_.other W2 (Ne.symm ne_d_anu)
  have F17_2 := F17_.other W2 (Ne.symm ne_d_ask)
  have F18_2 := F18_.other W2 (Ne.symm ne_d_aos)
  have F19_2 := F19_.other W2 (Ne.symm ne_d_apa)
  have F20_2 := F20_.other W2 (Ne.symm ne_d_aed)
  have F21_2 := F21_.other W2 (Ne.symm ne_d_ast)
  have F22_2 := F22_.other W2 (Ne.symm ne_d_anx)
  have Z2 : n0 ≤ h2.size := Nat.le_trans Z0 (Keep.of_wr W2).1
  have Kp2 := (Keep.refl h0 [d, aix, alo, anu, ask, aos, apa, aed]).wr W2 (Or.inl (List.mem_of_getElem? (i := 0) rfl))
  refine own_st (fun zw zk => XS.aloadN X2.here hx rfl (hb hby d15_10) rfl rfl zk) ?_
  obtain ⟨T3, X3, e3, st3⟩ := getF X2 hx hZ hown (host := "") (Or.inl (hw _ (List.mem_of_getElem? (i := 84) rfl))) Via.refl e2 F8_2 (g := (mkF m 11 #[.val (.ref d), .val (.int v1)] [(.ref d)])) rfl rfl (hb hby d15_11)
  refine own_st (fun zw zk => st3 zw zk) ?_
  show own_Go p e below G (T3.setTop (mkF m 14 #[.val (.ref d), .val (.int v1)] [(.ref apa)]))
  refine own_st (fun zw zk => XS.aloadN X3.here hx rfl (hb hby d15_14) rfl rfl zk) ?_
  obtain ⟨T4, X4, e4, st4⟩ := getF X3 hx hZ hown (host := "") (Or.inl (hw _ (List.mem_of_getElem? (i := 95) rfl))) Via.refl e3 F10_2 (g := (mkF m 15 #[.val (.ref d), .val (.int v1)] [(.ref d), (.ref apa)])) rfl rfl (hb hby d15_15)
  refine own_st (fun zw zk => st4 zw zk) ?_
  refine own_st (fun zw zk => XS.iloadN X4.here hx rfl (hb hby d15_18) rfl zk) ?_
  obtain ⟨T5, h5, X5, e5, W5, V5, st5⟩ := own_ist X4 hx hZ e4 F19_2 (j := (Sa.dep + (1 : Int32))) ((Sa.dep + (1 : Int32)).toInt.toNat) (own_nn (own_sn hpth)) (own_nat (own_sn hpth)) (own_sl hpth) (g := (mkF m 19 #[.val (.ref d), .val (.int v1)] [(.int v1), (.int (Sa.dep + (1 : Int32))), (.ref apa)])) rfl rfl (hb hby d15_19)
  have F19_5 : own_L Z h5 apa .int ((own_il pth1)) := (own_Lc (own_se hpth) V5)
  have N5 := Fr.snoc X5 N2 ge_apa
  refine own_st (fun zw zk => st5 zw zk) ?_
  have F0_5 := F0_2.wr W5
  have F1_5 := F1_2.other W5 (Or.inl ne_d_apa)
  have F2_5 := F2_2.other W5 (Or.inl ne_d_apa)
  have F3_5 := F3_2.other W5 (Or.inl ne_d_apa)
  have F4_5 := F4_2.other W5 (Or.inl ne_d_apa)
  have F5_5 := F5_2.other W5 (Or.inl ne_d_apa)
  have F6_5 := F6_2.other W5 (Or.inl ne_d_apa)
  have F7_5 := F7_2.other W5 (Or.inl ne_d_apa)
  have F8_5 := F8_2.other W5 (Or.inl ne_d_apa)
  have F9_5 := F9_2.other W5 (Or.inl ne_d_apa)
  have F11_5 := F11_2.other W5 (Or.inl ne_d_apa)
  have F12_5 := F12_2.other W5 (Or.inl ne_d_apa)
  have F13_5 := F13_2.other W5 (Or.inl ne_d_apa)
  have F14_5 := F14_2.other W5 ne_aix_apa
  have F15_5 := F15_2.other W5 ne_alo_apa
  have F16_5 := F16_2.other W5 ne_anu_apa
  have F17_5 := F17_2.other W5 ne_ask_apa
  have F18_5 := F18_2.other W5 ne_aos_apa
  have F20_5 := F20_2.other W5 (Ne.symm ne_apa_aed)
  have F21_5 := F21_2.other W5 (Ne.symm ne_apa_ast)
  have F22_5 := F22_2.other W5 (Ne.symm ne_apa_anx)
  have F10_5 := F10_2.other W5 (Or.inl ne_d_apa)
  have Z5 : n0 ≤ h5.size := Nat.le_trans Z2 (Keep.of_wr W5).1
  have Kp5 := Kp2.wr W5 (Or.inl (List.mem_of_getElem? (i := 6) rfl))
  refine own_st (fun zw zk => XS.aloadN X5.here hx rfl (hb hby d15_20) rfl rfl zk) ?_
  obtain ⟨T6, X6, e6, st6⟩ := getF X5 hx hZ hown (host := "") (Or.inl (hw _ (List.mem_of_getElem? (i := 86) rfl))) Via.refl e5 F9_5 (g := (mkF m 21 #[.val (.ref d), .val (.int v1)] [(.ref d)])) rfl rfl (hb hby d15_21)
  refine own_st (fun zw zk => st6 zw zk) ?_
  refine own_st (fun zw zk => XS.aloadN X6.here hx rfl (hb hby d15_24) rfl rfl zk) ?_
  obtain ⟨T7, X7, e7, st7⟩ := getF X6 hx hZ hown (host := "") (Or.inl (hw _ (List.mem_of_getElem? (i := 95) rfl))) Via.refl e6 F10_5 (g := (mkF m 25 #[.val (.ref d), .val (.int v1)] [(.ref d), (.ref aed)])) rfl rfl (hb hby d15_25)
  refine own_st (fun zw zk => st7 zw zk) ?_
  show own_Go p e below G (T7.setTop (mkF m 28 #[.val (.ref d), .val (.int v1)] [(.int (Sa.dep + (1 : Int32))), (.ref aed)]))
  refine own_st (fun zw zk => XS.aloadN X7.here hx rfl (hb hby d15_28) rfl rfl zk) ?_
  obtain ⟨T8, X8, e8, st8⟩ := getF X7 hx hZ hown (host := "") (Or.inl (hw _ (List.mem_of_getElem? (i := 69) rfl))) Via.refl e7 F1_5 (g := (mkF m 29 #[.val (.ref d), .val (.int v1)] [(.ref d), (.int (Sa.dep + (1 : Int32))), (.ref aed)])) rfl rfl (hb hby d15_29)
  refine own_st (fun zw zk => st8 zw zk) ?_
  refine own_st (fun zw zk => XS.iloadN X8.here hx rfl (hb hby d15_32) rfl zk) ?_
  refine own_st (fun zw zk => own_ild X8 hx hZ e8 F21_5 (j := v1) (v := (.int sv1)) (i := v1.toInt.toNat) (own_nn (own_gn hsv)) (own_nat (own_gn hsv)) (own_gv hsv) (g := (mkF m 33 #[.val (.ref d), .val (.int v1)] [(.int v1), (.ref ast), (.int (Sa.dep + (1 : Int32))), (.ref aed)])) rfl rfl (hb hby d15_33) _ zk) ?_
  obtain ⟨T9, h9, X9, e9, W9, V9, st9⟩ := own_ist X8 hx hZ e8 F20_5 (j := (Sa.dep + (1 : Int32))) ((Sa.dep + (1 : Int32)).toInt.toNat) (own_nn (own_sn hedg)) (own_nat (own_sn hedg)) (own_sl hedg) (g := (mkF m 34 #[.val (.ref d), .val (.int v1)] [(.int sv1), (.int (Sa.dep + (1 : Int32))), (.ref aed)])) rfl rfl (hb hby d15_34)
  have F20_9 : own_L Z h9 aed .int ((own_il edg1)) := (own_Lc (own_se hedg) V9)
  have N9 := Fr.snoc X9 N5 ge_aed
  refine own_st (fun zw zk => st9 zw zk) ?_
  have F0_9 := F0_5.wr W9
  have F1_9 := F1_5.other W9 (Or.inl ne_d_aed)
  have F2_9 := F2_5.other W9 (Or.inl ne_d_aed)
  have F3_9 := F3_5.other W9 (Or.inl ne_d_aed)
  have F4_9 := F4_5.other W9 (Or.inl ne_d_aed)
  have F5_9 := F5_5.other W9 (Or.inl ne_d_aed)
  have F6_9 := F6_5.other W9 (Or.inl ne_d_aed)
  have F7_9 := F7_5.other W9 (Or.inl ne_d_aed)
  have F8_9 := F8_5.other W9 (Or.inl ne_d_aed)
  have F9_9 := F9_5.other W9 (Or.inl ne_d_aed)
  have F11_9 := F11_5.other W9 (Or.inl ne_d_aed)
  have F12_9 := F12_5.other W9 (Or.inl ne_d_aed)
  have F13_9 := F13_5.other W9 (Or.inl ne_d_aed)
  have F14_9 := F14_5.other W9 ne_aix_aed
  have F15_9 := F15_5.other W9 ne_alo_aed
  have F16_9 := F16_5.other W9 ne_anu_aed
  have F17_9 := F17_5.other W9 ne_ask_aed
  have F18_9 := F18_5.other W9 ne_aos_aed
  have F21_9 := F21_5.other W9 (Ne.symm ne_aed_ast)
  have F22_9 := F22_5.other W9 (Ne.symm ne_aed_anx)
  have F10_9 := F10_5.other W9 (Or.inl ne_d_aed)
  have F19_9 := F19_5.other W9 ne_apa_aed
  have Z9 : n0 ≤ h9.size := Nat.le_trans Z5 (Keep.of_wr W9).1
  have Kp9 := Kp5.wr W9 (Or.inl (List.mem_of_getElem? (i := 7) rfl))
  refine own_st (fun zw zk => XS.aloadN X9.here hx rfl (hb hby d15_35) rfl rfl zk) ?_
  obtain ⟨T10, X10, e10, st10⟩ := getF X9 hx hZ hown (host := "") (Or.inl (hw _ (List.mem_of_getElem? (i := 73) rfl))) Via.refl e9 F3_9 (g := (mkF m 36 #[.val (.ref d), .val (.int v1)] [(.ref d)])) rfl rfl (hb hby d15_36)
  refine own_st (fun zw zk => st10 zw zk) ?_
  refine own_st (fun zw zk => XS.iloadN X10.here hx rfl (hb hby d15_39) rfl zk) ?_
  show own_Go p e below G (T10.setTop (mkF m 40 #[.val (.ref d), .val (.int v1)] [(.int v1), (.ref aix)]))
  refine own_st (fun zw zk => XS.aloadN X10.here hx rfl (hb hby d15_40) rfl rfl zk) ?_
  obtain ⟨T11, X11, e11, st11⟩ := getF X10 hx hZ hown (host := "") (Or.inl (hw _ (List.mem_of_getElem? (i := 101) rfl))) Via.refl e10 F11_9 (g := (mkF m 41 #[.val (.ref d), .val (.int v1)] [(.ref d), (.int v1), (.ref aix)])) rfl rfl (hb hby d15_41)
  refine own_st (fun zw zk => st11 zw zk) ?_
  obtain ⟨T12, h12, X12, e12, W12, V12, st12⟩ := own_ist X11 hx hZ e11 F14_9 (j := v1) (v1.toInt.toNat) (own_nn (own_sn hidx)) (own_nat (own_sn hidx)) (own_sl hidx) (g := (mkF m 44 #[.val (.ref d), .val (.int v1)] [(.int Sa.cnt), (.int v1), (.ref aix)])) rfl rfl (hb hby d15_44)
  have F14_12 : own_L Z h12 aix .int ((own_il idx1)) := (own_Lc (own_se hidx) V12)
  have N12 := Fr.snoc X12 N9 ge_aix
  refine own_st (fun zw zk => st12 zw zk) ?_
  have F0_12 := F0_9.wr W12
  have F1_12 := F1_9.other W12 (Or.inl ne_d_aix)
  have F2_12 := F2_9.other W12 (Or.inl ne_d_aix)
  have F3_12 := F3_9.other W12 (Or.inl ne_d_aix)
  have F4_12 := F4_9.other W12 (Or.inl ne_d_aix)
  have F5_12 := F5_9.other W12 (Or.inl ne_d_aix)
  have F6_12 := F6_9.other W12 (Or.inl ne_d_aix)
  have F7_12 := F7_9.other W12 (Or.inl ne_d_aix)
  have F8_12 := F8_9.other W12 (Or.inl ne_d_aix)
  have F9_12 := F9_9.other W12 (Or.inl ne_d_aix)
  have F11_12 := F11_9.other W12 (Or.inl ne_d_aix)
  have F12_12 := F12_9.other W12 (Or.inl ne_d_aix)
  have F13_12 := F13_9.other W12 (Or.inl ne_d_aix)
  have F15_12 := F15_9.other W12 (Ne.symm ne_aix_alo)
  have F16_12 := F16_9.other W12 (Ne.symm ne_aix_anu)
  have F17_12 := F17_9.other W12 (Ne.symm ne_aix_ask)
  have F18_12 := F18_9.other W12 (Ne.symm ne_aix_aos)
  have F21_12 := F21_9.other W12 (Ne.symm ne_aix_ast)
  have F22_12 := F22_9.other W12 (Ne.symm ne_aix_anx)
  have F10_12 := F10_9.other W12 (Or.inl ne_d_aix)
  have F19_12 := F19_9.other W12 (Ne.symm ne_aix_apa)
  have F20_12 := F20_9.other W12 (Ne.symm ne_aix_aed)
  have Z12 : n0 ≤ h12.size := Nat.le_trans Z9 (Keep.of_wr W12).1
  have Kp12 := Kp9.wr W12 (Or.inl (List.mem_of_getElem? (i := 1) rfl))
  refine own_st (fun zw zk => XS.aloadN X12.here hx rfl (hb hby d15_45) rfl rfl zk) ?_
  obtain ⟨T13, X13, e13, st13⟩ := getF X12 hx hZ hown (host := "") (Or.inl (hw _ (List.mem_of_getElem? (i := 75) rfl))) Via.refl e12 F4_12 (g := (mkF m 46 #[.val (.ref d), .val (.int v1)] [(.ref d)])) rfl rfl (hb hby d15_46)
  refine own_st (fun zw zk => st13 zw zk) ?_
  refine own_st (fun zw zk => XS.iloadN X13.here hx rfl (hb hby d15_49) rfl zk) ?_
  refine own_st (fun zw zk => XS.aloadN X13.here hx rfl (hb hby d15_50) rfl rfl zk) ?_
  obtain ⟨T14, X14, e14, st14⟩ := getF X13 hx hZ hown (host := "") (Or.inl (hw _ (List.mem_of_getElem? (i := 101) rfl))) Via.refl e13 F11_12 (g := (mkF m 51 #[.val (.ref d), .val (.int v1)] [(.ref d), (.int v1), (.ref alo)])) rfl rfl (hb hby d15_51)
  refine own_st (fun zw zk => st14 zw zk) ?_
  show own_Go p e below G (T14.setTop (mkF m 54 #[.val (.ref d), .val (.int v1)] [(.int Sa.cnt), (.int v1), (.ref alo)]))
  obtain ⟨T15, h15, X15, e15, W15, V15, st15⟩ := own_ist X14 hx hZ e14 F15_12 (j := v1) (v1.toInt.toNat) (own_nn (own_sn hlow)) (own_nat (own_sn hlow)) (own_sl hlow) (g := (mkF m 54 #[.val (.ref d), .val (.int v1)] [(.int Sa.cnt), (.int v1), (.ref alo)])) rfl rfl (hb hby d15_54)
  have F15_15 : own_L Z h15 alo .int ((own_il low1)) := (own_Lc (own_se hlow) V15)
  have N15 := Fr.snoc X15 N12 ge_alo
  refine own_st (fun zw zk => st15 zw zk) ?_
  have F0_15 := F0_12.wr W15
  have F1_15 := F1_12.other W15 (Or.inl ne_d_alo)
  have F2_15 := F2_12.other W15 (Or.inl ne_d_alo)
  have F3_15 := F3_12.other W15 (Or.inl ne_d_alo)
  have F4_15 := F4_12.other W15 (Or.inl ne_d_alo)
  have F5_15 := F5_12.other W15 (Or.inl ne_d_alo)
  have F6_15 := F6_12.other W15 (Or.inl ne_d_alo)
  have F7_15 := F7_12.other W15 (Or.inl ne_d_alo)
  have F8_15 := F8_12.other W15 (Or.inl ne_d_alo)
  have F9_15 := F9_12.other W15 (Or.inl ne_d_alo)
  have F11_15 := F11_12.other W15 (Or.inl ne_d_alo)
  have F12_15 := F12_12.other W15 (Or.inl ne_d_alo)
  have F13_15 := F13_12.other W15 (Or.inl ne_d_alo)
  have F16_15 := F16_12.other W15 (Ne.symm ne_alo_anu)
  have F17_15 := F17_12.other W15 (Ne.symm ne_alo_ask)
  have F18_15 := F18_12.other W15 (Ne.symm ne_alo_aos)
  have F21_15 := F21_12.other W15 (Ne.symm ne_alo_ast)
  have F22_15 := F22_12.other W15 (Ne.symm ne_alo_anx)
  have F10_15 := F10_12.other W15 (Or.inl ne_d_alo)
  have F19_15 := F19_12.other W15 (Ne.symm ne_alo_apa)
  have F20_15 := F20_12.other W15 (Ne.symm ne_alo_aed)
  have F14_15 := F14_12.other W15 ne_aix_alo
  have Z15 : n0 ≤ h15.size := Nat.le_trans Z12 (Keep.of_wr W15).1
  have Kp15 := Kp12.wr W15 (Or.inl (List.mem_of_getElem? (i := 2) rfl))
  refine own_st (fun zw zk => XS.aloadN X15.here hx rfl (hb hby d15_55) rfl rfl zk) ?_
  refine own_st (fun zw zk => XS.dup X15.here hx rfl (hb hby d15_56) rfl rfl zk) ?_
  obtain ⟨T16, X16, e16, st16⟩ := getF X15 hx hZ hown (host := "") (Or.inl (hw _ (List.mem_of_getElem? (i := 101) rfl))) Via.refl e15 F11_15 (g := (mkF m 57 #[.val (.ref d), .val (.int v1)] [(.ref d), (.ref d)])) rfl rfl (hb hby d15_57)
  refine own_st (fun zw zk => st16 zw zk) ?_
  refine own_st (fun zw zk => XS.iconst X16.here hx rfl (hb hby d15_60) zk) ?_
  refine own_st (fun zw zk => XS.iadd X16.here hx rfl (hb hby d15_61) rfl zk) ?_
  obtain ⟨T17, h17, X17, e17, W17, st17⟩ := putF X16 hx hZ hown (host := "") (Or.inl (hw _ (List.mem_of_getElem? (i := 101) rfl))) Via.refl e16 F11_15 F0_15 (Or.inl (hw _ (List.mem_of_getElem? (i := 102) rfl))) (hw _ (List.mem_of_getElem? (i := 64) rfl)) (ty := .int) (by decide) rfl rfl (g := (mkF m 62 #[.val (.ref d), .val (.int v1)] [(.int (Sa.cnt + (1 : Int32))), (.ref d)])) rfl rfl (hb hby d15_62)
  have F11_17 := F11_15.same W17
  have N17 := Fr.snoc X17 N15 ge_d
  refine own_st (fun zw zk => st17 zw zk) ?_
  have F0_17 := F0_15.wr W17
  have F1_17 := F1_15.other W17 (Or.inr (slot_ne (Or.inr (hw _ (List.mem_of_getElem? (i := 70) rfl))) (Or.inl (hw _ (List.mem_of_getElem? (i := 102) rfl))) (by decide) (t := (.array .int)) (t' := .int) (by decide) (by decide)))
  have F2_17 := F2_15.other W17 (Or.inr (slot_ne (Or.inr (hw _ (List.mem_of_getElem? (i := 72) rfl))) (Or.inl (hw _ (List.mem_of_getElem? (i := 102) rfl))) (by decide) (t := (.array .int)) (t' := .int) (by decide) (by decide)))
  have F3_17 := F3_15.other W17 (Or.inr (slot_ne (Or.inr (hw _ (List.mem_of_getElem? (i := 74) rfl))) (Or.inl (hw _ (List.mem_of_getElem? (i := 102) rfl))) (by decide) (t := (.array .int)) (t' := .int) (by decide) (by decide)))
  have F4_17 := F4_15.other W17 (Or.inr (slot_ne (Or.inr (hw _ (List.mem_of_getElem? (i := 76) rfl))) (Or.inl (hw _ (List.mem_of_getElem? (i := 102) rfl))) (by decide) (t := (.array .int)) (t' := .int) (by decide) (by decide)))
  have F5_17 := F5_15.other W17 (Or.inr (slot_ne (Or.inr (hw _ (List.mem_of_getElem? (i := 78) rfl))) (Or.inl (hw _ (List.mem_of_getElem? (i := 102) rfl))) (by decide) (t := (.array .int)) (t' := .int) (by decide) (by decide)))
  have F6_17 := F6_15.other W17 (Or.inr (slot_ne (Or.inr (hw _ (List.mem_of_getElem? (i := 80) rfl))) (Or.inl (hw _ (List.mem_of_getElem? (i := 102) rfl))) (by decide) (t := (.array .int)) (t' := .int) (by decide) (by decide)))
  have F7_17 := F7_15.other W17 (Or.inr (slot_ne (Or.inr (hw _ (List.mem_of_getElem? (i := 83) rfl))) (Or.inl (hw _ (List.mem_of_getElem? (i := 102) rfl))) (by decide) (t := (.array .boolean)) (t' := .int) (by decide) (by decide)))
  have F8_17 := F8_15.other W17 (Or.inr (slot_ne (Or.inr (hw _ (List.mem_of_getElem? (i := 85) rfl))) (Or.inl (hw _ (List.mem_of_getElem? (i := 102) rfl))) (by decide) (t := (.array .int)) (t' := .int) (by decide) (by decide)))
  have F9_17 := F9_15.other W17 (Or.inr (slot_ne (Or.inr (hw _ (List.mem_of_getElem? (i := 87) rfl))) (Or.inl (hw _ (List.mem_of_getElem? (i := 102) rfl))) (by decide) (t := (.array .int)) (t' := .int) (by decide) (by decide)))
  have F12_17 := F12_15.other W17 (Or.inr (slot_ne (Or.inl (hw _ (List.mem_of_getElem? (i := 104) rfl))) (Or.inl (hw _ (List.mem_of_getElem? (i := 102) rfl))) (by decide) (t := .int) (t' := .int) (by decide) (by decide)))
  have F13_17 := F13_15.other W17 (Or.inr (slot_ne (Or.inl (hw _ (List.mem_of_getElem? (i := 110) rfl))) (Or.inl (hw _ (List.mem_of_getElem? (i := 102) rfl))) (by decide) (t := .int) (t' := .int) (by decide) (by decide)))
  have F16_17 := F16_15.other W17 (Ne.symm ne_d_anu)
  have F17_17 := F17_15.other W17 (Ne.symm ne_d_ask)
  have F18_17 := F18_15.other W17 (Ne.symm ne_d_aos)
  have F21_17 := F21_15.other W17 (Ne.symm ne_d_ast)
  have F22_17 := F22_15.other W17 (Ne.symm ne_d_anx)
  have F10_17 := F10_15.other W17 (Or.inr (slot_ne (Or.inl (hw _ (List.mem_of_getElem? (i := 96) rfl))) (Or.inl (hw _ (List.mem_of_getElem? (i := 102) rfl))) (by decide) (t := .int) (t' := .int) (by decide) (by decide)))
  have F19_17 := F19_15.other W17 (Ne.symm ne_d_apa)
  have F20_17 := F20_15.other W17 (Ne.symm ne_d_aed)
  have F14_17 := F14_15.other W17 (Ne.symm ne_d_aix)
  have F15_17 := F15_15.other W17 (Ne.symm ne_d_alo)
  have Z17 : n0 ≤ h17.size := Nat.le_trans Z15 (Keep.of_wr W17).1
  have Kp17 := Kp15.wr W17 (Or.inl (List.mem_of_getElem? (i := 0) rfl))
  refine own_st (fun zw zk => XS.aloadN X17.here hx rfl (hb hby d15_65) rfl rfl zk) ?_
  show own_Go p e below G (T17.setTop (mkF m 66 #[.val (.ref d), .val (.int v1)] [(.ref d)]))
  obtain ⟨T18, X18, e18, st18⟩ := getF X17 hx hZ hown (host := "") (Or.inl (hw _ (List.mem_of_getElem? (i := 79) rfl))) Via.refl e17 F6_17 (g := (mkF m 66 #[.val (.ref d), .val (.int v1)] [(.ref d)])) rfl rfl (hb hby d15_66)
  refine own_st (fun zw zk => st18 zw zk) ?_
  refine own_st (fun zw zk => XS.aloadN X18.here hx rfl (hb hby d15_69) rfl rfl zk) ?_
  refine own_st (fun zw zk => XS.dup X18.here hx rfl (hb hby d15_70) rfl rfl zk) ?_
  obtain ⟨T19, X19, e19, st19⟩ := getF X18 hx hZ hown (host := "") (Or.inl (hw _ (List.mem_of_getElem? (i := 103) rfl))) Via.refl e18 F12_17 (g := (mkF m 71 #[.val (.ref d), .val (.int v1)] [(.ref d), (.ref d), (.ref ask)])) rfl rfl (hb hby d15_71)
  refine own_st (fun zw zk => st19 zw zk) ?_
  refine own_st (fun zw zk => XS.dupX1 X19.here hx rfl (hb hby d15_74) rfl rfl rfl zk) ?_
  refine own_st (fun zw zk => XS.iconst X19.here hx rfl (hb hby d15_75) zk) ?_
  refine own_st (fun zw zk => XS.iadd X19.here hx rfl (hb hby d15_76) rfl zk) ?_
  obtain ⟨T20, h20, X20, e20, W20, st20⟩ := putF X19 hx hZ hown (host := "") (Or.inl (hw _ (List.mem_of_getElem? (i := 103) rfl))) Via.refl e19 F12_17 F0_17 (Or.inl (hw _ (List.mem_of_getElem? (i := 104) rfl))) (hw _ (List.mem_of_getElem? (i := 64) rfl)) (ty := .int) (by decide) rfl rfl (g := (mkF m 77 #[.val (.ref d), .val (.int v1)] [(.int (Sa.stk + (1 : Int32))), (.ref d), (.int Sa.stk), (.ref ask)])) rfl rfl (hb hby d15_77)
  have F12_20 := F12_17.same W20
  have N20 := Fr.snoc X20 N17 ge_d
  refine own_st (fun zw zk => st20 zw zk) ?_
  have F0_20 := F0_17.wr W20
  have F1_20 := F1_17.other W20 (Or.inr (slot_ne (Or.inr (hw _ (List.mem_of_getElem? (i := 70) rfl))) (Or.inl (hw _ (List.mem_of_getElem? (i := 104) rfl))) (by decide) (t := (.array .int)) (t' := .int) (by decide) (by decide)))
  have F2_20 := F2_17.other W20 (Or.inr (slot_ne (Or.inr (hw _ (List.mem_of_getElem? (i := 72) rfl))) (Or.inl (hw _ (List.mem_of_getElem? (i := 104) rfl))) (by decide) (t := (.array .int)) (t' := .int) (by decide) (by decide)))
  have F3_20 := F3_17.other W20 (Or.inr (slot_ne (Or.inr (hw _ (List.mem_of_getElem? (i := 74) rfl))) (Or.inl (hw _ (List.mem_of_getElem? (i := 104) rfl))) (by decide) (t := (.array .int)) (t' := .int) (by decide) (by decide)))
  have F4_20 := F4_17.other W20 (Or.inr (slot_ne (Or.inr (hw _ (List.mem_of_getElem? (i := 76) rfl))) (Or.inl (hw _ (List.mem_of_getElem? (i := 104) rfl))) (by decide) (t := (.array .int)) (t' := .int) (by decide) (by decide)))
  have F5_20 := F5_17.other W20 (Or.inr (slot_ne (Or.inr (hw _ (List.mem_of_getElem? (i := 78) rfl))) (Or.inl (hw _ (List.mem_of_getElem? (i := 104) rfl))) (by decide) (t := (.array .int)) (t' := .int) (by decide) (by decide)))
  have F6_20 := F6_17.other W20 (Or.inr (slot_ne (Or.inr (hw _ (List.mem_of_getElem? (i := 80) rfl))) (Or.inl (hw _ (List.mem_of_getElem? (i := 104) rfl))) (by decide) (t := (.array .int)) (t' := .int) (by decide) (by decide)))
  have F7_20 := F7_17.other W20 (Or.inr (slot_ne (Or.inr (hw _ (List.mem_of_getElem? (i := 83) rfl))) (Or.inl (hw _ (List.mem_of_getElem? (i := 104) rfl))) (by decide) (t := (.array .boolean)) (t' := .int) (by decide) (by decide)))
  have F8_20 := F8_17.other W20 (Or.inr (slot_ne (Or.inr (hw _ (List.mem_of_getElem? (i := 85) rfl))) (Or.inl (hw _ (List.mem_of_getElem? (i := 104) rfl))) (by decide) (t := (.array .int)) (t' := .int) (by decide) (by decide)))
  have F9_20 := F9_17.other W20 (Or.inr (slot_ne (Or.inr (hw _ (List.mem_of_getElem? (i := 87) rfl))) (Or.inl (hw _ (List.mem_of_getElem? (i := 104) rfl))) (by decide) (t := (.array .int)) (t' := .int) (by decide) (by decide)))
  have F13_20 := F13_17.other W20 (Or.inr (slot_ne (Or.inl (hw _ (List.mem_of_getElem? (i := 110) rfl))) (Or.inl (hw _ (List.mem_of_getElem? (i := 104) rfl))) (by decide) (t := .int) (t' := .int) (by decide) (by decide)))
  have F16_20 := F16_17.other W20 (Ne.symm ne_d_anu)
  have F17_20 := F17_17.other W20 (Ne.symm ne_d_ask)
  have F18_20 := F18_17.other W20 (Ne.symm ne_d_aos)
  have F21_20 := F21_17.other W20 (Ne.symm ne_d_ast)
  have F22_20 := F22_17.other W20 (Ne.symm ne_d_anx)
  have F10_20 := F10_17.other W20 (Or.inr (slot_ne (Or.inl (hw _ (List.mem_of_getElem? (i := 96) rfl))) (Or.inl (hw _ (List.mem_of_getElem? (i := 104) rfl))) (by decide) (t := .int) (t' := .int) (by decide) (by decide)))
  have F19_20 := F19_17.other W20 (Ne.symm ne_d_apa)
  have F20_20 := F20_17.other W20 (Ne.symm ne_d_aed)
  have F14_20 := F14_17.other W20 (Ne.symm ne_d_aix)
  have F15_20 := F15_17.other W20 (Ne.symm ne_d_alo)
  have F11_20 := F11_17.other W20 (Or.inr (slot_ne (Or.inl (hw _ (List.mem_of_getElem? (i := 102) rfl))) (Or.inl (hw _ (List.mem_of_getElem? (i := 104) rfl))) (by decide) (t := .int) (t' := .int) (by decide) (by decide)))
  have Z20 : n0 ≤ h20.size := Nat.le_trans Z17 (Keep.of_wr W20).1
  have Kp20 := Kp17.wr W20 (Or.inl (List.mem_of_getElem? (i := 0) rfl))
  show own_Go p e below G (T20.setTop (mkF m 80 #[.val (.ref d), .val (.int v1)] [(.int Sa.stk), (.ref ask)]))
  refine own_st (fun zw zk => XS.iloadN X20.here hx rfl (hb hby d15_80) rfl zk) ?_
  obtain ⟨T21, h21, X21, e21, W21, V21, st21⟩ := own_ist X20 hx hZ e20 F17_20 (j := Sa.stk) (Sa.stk.toInt.toNat) (own_nn (own_sn hsta)) (own_nat (own_sn hsta)) (own_sl hsta) (g := (mkF m 81 #[.val (.ref d), .val (.int v1)] [(.int v1), (.int Sa.stk), (.ref ask)])) rfl rfl (hb hby d15_81)
  have F17_21 : own_L Z h21 ask .int ((own_il sta1)) := (own_Lc (own_se hsta) V21)
  have N21 := Fr.snoc X21 N20 ge_ask
  refine own_st (fun zw zk => st21 zw zk) ?_
  have F0_21 := F0_20.wr W21
  have F1_21 := F1_20.other W21 (Or.inl ne_d_ask)
  have F2_21 := F2_20.other W21 (Or.inl ne_d_ask)
  have F3_21 := F3_20.other W21 (Or.inl ne_d_ask)
  have F4_21 := F4_20.other W21 (Or.inl ne_d_ask)
  have F5_21 := F5_20.other W21 (Or.inl ne_d_ask)
  have F6_21 := F6_20.other W21 (Or.inl ne_d_ask)
  have F7_21 := F7_20.other W21 (Or.inl ne_d_ask)
  have F8_21 := F8_20.other W21 (Or.inl ne_d_ask)
  have F9_21 := F9_20.other W21 (Or.inl ne_d_ask)
  have F13_21 := F13_20.other W21 (Or.inl ne_d_ask)
  have F16_21 := F16_20.other W21 ne_anu_ask
  have F18_21 := F18_20.other W21 (Ne.symm ne_ask_aos)
  have F21_21 := F21_20.other W21 (Ne.symm ne_ask_ast)
  have F22_21 := F22_20.other W21 (Ne.symm ne_ask_anx)
  have F10_21 := F10_20.other W21 (Or.inl ne_d_ask)
  have F19_21 := F19_20.other W21 (Ne.symm ne_ask_apa)
  have F20_21 := F20_20.other W21 (Ne.symm ne_ask_aed)
  have F14_21 := F14_20.other W21 ne_aix_ask
  have F15_21 := F15_20.other W21 ne_alo_ask
  have F11_21 := F11_20.other W21 (Or.inl ne_d_ask)
  have F12_21 := F12_20.other W21 (Or.inl ne_d_ask)
  have Z21 : n0 ≤ h21.size := Nat.le_trans Z20 (Keep.of_wr W21).1
  have Kp21 := Kp20.wr W21 (Or.inl (List.mem_of_getElem? (i := 4) rfl))
  refine own_st (fun zw zk => XS.aloadN X21.here hx rfl (hb hby d15_82) rfl rfl zk) ?_
  obtain ⟨T22, X22, e22, st22⟩ := getF X21 hx hZ hown (host := "") (Or.inl (hw _ (List.mem_of_getElem? (i := 82) rfl))) Via.refl e21 F7_21 (g := (mkF m 83 #[.val (.ref d), .val (.int v1)] [(.ref d)])) rfl rfl (hb hby d15_83)
  refine own_st (fun zw zk => st22 zw zk) ?_
  refine own_st (fun zw zk => XS.iloadN X22.here hx rfl (hb hby d15_86) rfl zk) ?_
  refine own_st (fun zw zk => XS.iconst X22.here hx rfl (hb hby d15_87) zk) ?_
  obtain ⟨T23, h23, X23, e23, W23, V23, st23⟩ := own_zst X22 hx hZ e22 F18_21 (j := v1) (v1.toInt.toNat) (own_nn (own_sn hons)) (own_nat (own_sn hons)) (own_sl hons) (g := (mkF m 88 #[.val (.ref d), .val (.int v1)] [(.int (1 : Int32)), (.int v1), (.ref aos)])) rfl rfl (hb hby d15_88)
  have F18_23 : own_L Z h23 aos .boolean ((own_il ons1)) := (own_Lc (own_se hons) V23)
  have N23 := Fr.snoc X23 N21 ge_aos
  refine own_st (fun zw zk => st23 zw zk) ?_
  have F0_23 := F0_21.wr W23
  have F1_23 := F1_21.other W23 (Or.inl ne_d_aos)
  have F2_23 := F2_21.other W23 (Or.inl ne_d_aos)
  have F3_23 := F3_21.other W23 (Or.inl ne_d_aos)
  have F4_23 := F4_21.other W23 (Or.inl ne_d_aos)
  have F5_23 := F5_21.other W23 (Or.inl ne_d_aos)
  have F6_23 := F6_21.other W23 (Or.inl ne_d_aos)
  have F7_23 := F7_21.other W23 (Or.inl ne_d_aos)
  have F8_23 := F8_21.other W23 (Or.inl ne_d_aos)
  have F9_23 := F9_21.other W23 (Or.inl ne_d_aos)
  have F13_23 := F13_21.other W23 (Or.inl ne_d_aos)
  have F16_23 := F16_21.other W23 ne_anu_aos
  have F21_23 := F21_21.other W23 (Ne.symm ne_aos_ast)
  have F22_23 := F22_21.other W23 (Ne.symm ne_aos_anx)
  have F10_23 := F10_21.other W23 (Or.inl ne_d_aos)
  have F19_23 := F19_21.other W23 (Ne.symm ne_aos_apa)
  have F20_23 := F20_21.other W23 (Ne.symm ne_aos_aed)
  have F14_23 := F14_21.other W23 ne_aix_aos
  have F15_23 := F15_21.other W23 ne_alo_aos
  have F11_23 := F11_21.other W23 (Or.inl ne_d_aos)
  have F12_23 := F12_21.other W23 (Or.inl ne_d_aos)
  have F17_23 := F17_21.other W23 ne_ask_aos
  have Z23 : n0 ≤ h23.size := Nat.le_trans Z21 (Keep.of_wr W23).1
  have Kp23 := Kp21.wr W23 (Or.inl (List.mem_of_getElem? (i := 5) rfl))
  subst hG
  obtain ⟨fs, hr, hrun, hended, hW, hsame⟩ := X23.leave (v := none) (hlocks := Bd.notSynchronized) (fun _ => rfl)
  refine ⟨_, X23.returnOut hx Bd.returns (hb hby d15_89) hr, _, hrun, hended, _, _, rfl, ?_, ⟨_, rfl⟩, hW, hsame.mono (by decide) (by decide)⟩
  show Q15 Z d v1 ast anx aix alo anu ask aos apa aed sl nl Sa Sb h0 n0 _ T23.heap _
  rw [e23]
  exact ⟨rfl, N23, Kp23, F1_23, F2_23, F3_23, F4_23, F5_23, F6_23, F7_23, F8_23, F9_23, (own_Fi (congrArg (fun z : own_S => z.dep) hSb) F10_23), (own_Fi (congrArg (fun z : own_S => z.cnt) hSb) F11_23), (own_Fi (congrArg (fun z : own_S => z.stk) hSb) F12_23), (own_Fi (congrArg (fun z : own_S => z.cmp) hSb) F13_23), (own_Lc (congrArg (fun z : own_S => own_il z.idx) hSb) F14_23), (own_Lc (congrArg (fun z : own_S => own_il z.low) hSb) F15_23), (own_Lc (congrArg (fun z : own_S => own_il z.num) hSb) F16_23), (own_Lc (congrArg (fun z : own_S => own_il z.sta) hSb) F17_23), (own_Lc (congrArg (fun z : own_S => own_il z.ons) hSb) F18_23), (own_Lc (congrArg (fun z : own_S => own_il z.pth) hSb) F19_23), (own_Lc (congrArg (fun z : own_S => own_il z.edg) hSb) F20_23)⟩
theorem pd_0 : parseMethodDescriptor "(II)I" = some ⟨[.int, .int], some .int⟩ := by decide +kernel
theorem d16_0 : decode prog_54_method_5_code 0 = .ok (.aload_n 0, 1) := by decide +kernel
theorem d16_1 : decode prog_54_method_5_code 1 = .ok (.getfield 29, 3) := by decide +kernel
theorem d16_4 : decode prog_54_method_5_code 4 = .ok (.iload_n 1, 1) := by decide +kernel
theorem d16_5 : decode prog_54_method_5_code 5 = .ok (.iaload, 1) := by decide +kernel
theorem d16_6 : decode prog_54_method_5_code 6 = .ok (.aload_n 0, 1) := by decide +kernel
theorem d16_7 : decode prog_54_method_5_code 7 = .ok (.getfield 7, 3) := by decide +kernel
theorem d16_10 : decode prog_54_method_5_code 10 = .ok (.iload_n 1, 1) := by decide +kernel
theorem d16_11 : decode prog_54_method_5_code 11 = .ok (.iaload, 1) := by decide +kernel
theorem d16_12 : decode prog_54_method_5_code 12 = .ok (.if_icmp .ne 52, 3) := by decide +kernel
theorem d16_15 : decode prog_54_method_5_code 15 = .ok (.aload_n 0, 1) := by decide +kernel
theorem d16_16 : decode prog_54_method_5_code 16 = .ok (.getfield 32, 3) := by decide +kernel
theorem d16_19 : decode prog_54_method_5_code 19 = .ok (.aload_n 0, 1) := by decide +kernel
theorem d16_20 : decode prog_54_method_5_code 20 = .ok (.dup, 1) := by decide +kernel
theorem d16_21 : decode prog_54_method_5_code 21 = .ok (.getfield 70, 3) := by decide +kernel
theorem d16_24 : decode prog_54_method_5_code 24 = .ok (.iconst 1, 1) := by decide +kernel
theorem d16_25 : decode prog_54_method_5_code 25 = .ok (.isub, 1) := by decide +kernel
theorem d16_26 : decode prog_54_method_5_code 26 = .ok (.dup_x1, 1) := by decide +kernel
theorem d16_27 : decode prog_54_method_5_code 27 = .ok (.putfield 70, 3) := by decide +kernel
theorem d16_30 : decode prog_54_method_5_code 30 = .ok (.iaload, 1) := by decide +kernel
theorem d16_31 : decode prog_54_method_5_code 31 = .ok (.istore_n 2, 1) := by decide +kernel
theorem d16_32 : decode prog_54_method_5_code 32 = .ok (.aload_n 0, 1) := by decide +kernel
theorem d16_33 : decode prog_54_method_5_code 33 = .ok (.getfield 35, 3) := by decide +kernel
theorem d16_36 : decode prog_54_method_5_code 36 = .ok (.iload_n 2, 1) := by decide +kernel
theorem d16_37 : decode prog_54_method_5_code 37 = .ok (.iconst 0, 1) := by decide +kernel
theorem d16_38 : decode prog_54_method_5_code 38 = .ok (.bastore, 1) := by decide +kernel
theorem d16_39 : decode prog_54_method_5_code 39 = .ok (.aload_n 0, 1) := by decide +kernel
theorem d16_40 : decode prog_54_method_5_code 40 = .ok (.getfield 15, 3) := by decide +kernel
theorem d16_43 : decode prog_54_method_5_code 43 = .ok (.iload_n 2, 1) := by decide +kernel
theorem d16_44 : decode prog_54_method_5_code 44 = .ok (.aload_n 0, 1) := by decide +kernel
theorem d16_45 : decode prog_54_method_5_code 45 = .ok (.getfield 73, 3) := by decide +kernel
theorem d16_48 : decode prog_54_method_5_code 48 = .ok (.iastore, 1) := by decide +kernel
theorem d16_49 : decode prog_54_method_5_code 49 = .ok (.iload_n 2, 1) := by decide +kernel
theorem d16_50 : decode prog_54_method_5_code 50 = .ok (.iload_n 1, 1) := by decide +kernel
theorem d16_51 : decode prog_54_method_5_code 51 = .ok (.if_icmp .ne (-36), 3) := by decide +kernel
theorem d16_54 : decode prog_54_method_5_code 54 = .ok (.aload_n 0, 1) := by decide +kernel
theorem d16_55 : decode prog_54_method_5_code 55 = .ok (.dup, 1) := by decide +kernel
theorem d16_56 : decode prog_54_method_5_code 56 = .ok (.getfield 73, 3) := by decide +kernel
theorem d16_59 : decode prog_54_method_5_code 59 = .ok (.iconst 1, 1) := by decide +kernel
theorem d16_60 : decode prog_54_method_5_code 60 = .ok (.iadd, 1) := by decide +kernel
theorem d16_61 : decode prog_54_method_5_code 61 = .ok (.putfield 73, 3) := by decide +kernel
theorem d16_64 : decode prog_54_method_5_code 64 = .ok (.aload_n 0, 1) := by decide +kernel
theorem d16_65 : decode prog_54_method_5_code 65 = .ok (.dup, 1) := by decide +kernel
theorem d16_66 : decode prog_54_method_5_code 66 = .ok (.getfield 51, 3) := by decide +kernel
theorem d16_69 : decode prog_54_method_5_code 69 = .ok (.iconst 1, 1) := by decide +kernel
theorem d16_70 : decode prog_54_method_5_code 70 = .ok (.isub, 1) := by decide +kernel
theorem d16_71 : decode prog_54_method_5_code 71 = .ok (.putfield 51, 3) := by decide +kernel
theorem d16_74 : decode prog_54_method_5_code 74 = .ok (.aload_n 0, 1) := by decide +kernel
theorem d16_75 : decode prog_54_method_5_code 75 = .ok (.getfield 51, 3) := by decide +kernel
theorem d16_78 : decode prog_54_method_5_code 78 = .ok (.ifCond .lt 40, 3) := by decide +kernel
theorem d16_81 : decode prog_54_method_5_code 81 = .ok (.aload_n 0, 1) := by decide +kernel
theorem d16_82 : decode prog_54_method_5_code 82 = .ok (.getfield 29, 3) := by decide +kernel
theorem d16_85 : decode prog_54_method_5_code 85 = .ok (.aload_n 0, 1) := by decide +kernel
theorem d16_86 : decode prog_54_method_5_code 86 = .ok (.getfield 39, 3) := by decide +kernel
theorem d16_89 : decode prog_54_method_5_code 89 = .ok (.aload_n 0, 1) := by decide +kernel
theorem d16_90 : decode prog_54_method_5_code 90 = .ok (.getfield 51, 3) := by decide +kernel
theorem d16_93 : decode prog_54_method_5_code 93 = .ok (.iaload, 1) := by decide +kernel
theorem d16_94 : decode prog_54_method_5_code 94 = .ok (.aload_n 0, 1) := by decide +kernel
theorem d16_95 : decode prog_54_method_5_code 95 = .ok (.getfield 29, 3) := by decide +kernel
theorem d16_98 : decode prog_54_method_5_code 98 = .ok (.aload_n 0, 1) := by decide +kernel
theorem d16_99 : decode prog_54_method_5_code 99 = .ok (.getfield 39, 3) := by decide +kernel
theorem d16_102 : decode prog_54_method_5_code 102 = .ok (.aload_n 0, 1) := by decide +kernel
theorem d16_103 : decode prog_54_method_5_code 103 = .ok (.getfield 51, 3) := by decide +kernel
theorem d16_106 : decode prog_54_method_5_code 106 = .ok (.iaload, 1) := by decide +kernel
theorem d16_107 : decode prog_54_method_5_code 107 = .ok (.iaload, 1) := by decide +kernel
theorem d16_108 : decode prog_54_method_5_code 108 = .ok (.aload_n 0, 1) := by decide +kernel
theorem d16_109 : decode prog_54_method_5_code 109 = .ok (.getfield 29, 3) := by decide +kernel
theorem d16_112 : decode prog_54_method_5_code 112 = .ok (.iload_n 1, 1) := by decide +kernel
theorem d16_113 : decode prog_54_method_5_code 113 = .ok (.iaload, 1) := by decide +kernel
theorem d16_114 : decode prog_54_method_5_code 114 = .ok (.invokestatic 58, 3) := by decide +kernel
theorem d16_117 : decode prog_54_method_5_code 117 = .ok (.iastore, 1) := by decide +kernel
theorem d16_118 : decode prog_54_method_5_code 118 = .ok (.return_, 1) := by decide +kernel
theorem ef_rm16 (m : MethodId) (d : Addr) (v1 : Int32) : entryFrame m #[(.ref d), (.int v1)] 3 = mkF m 0 #[.val (.ref d), .val (.int v1), .unset] [] := by first | (simp [entryFrame, mkF, argsToLocals, Value.category]; done) | rfl
def Q16 (Z : State) (d : Addr) (v1 : Int32) (ast : Addr) (anx : Addr) (aix : Addr) (alo : Addr) (anu : Addr) (ask : Addr) (aos : Addr) (apa : Addr) (aed : Addr) (sl : List Int32) (nl : List Int32) (Sa : own_S) (Sb : own_S) (h0 : Heap) (n0 : Nat) (rv : Option Value) (hq : Heap) (Lq : List Loc) : Prop := rv = none ∧ Fr n0 Lq ∧ Keep h0 hq [d, aix, alo, anu, ask, aos, apa, aed] ∧ Fld Z hq d "com/example/passau/passau/insertion/TwoSat$Components" "start" "[I" (.ref ast) ∧ Fld Z hq d "com/example/passau/passau/insertion/TwoSat$Components" "next" "[I" (.ref anx) ∧ Fld Z hq d "com/example/passau/passau/insertion/TwoSat$Components" "index" "[I" (.ref aix) ∧ Fld Z hq d "com/example/passau/passau/insertion/TwoSat$Components" "low" "[I" (.ref alo) ∧ Fld Z hq d "com/example/passau/passau/insertion/TwoSat$Components" "number" "[I" (.ref anu) ∧ Fld Z hq d "com/example/passau/passau/insertion/TwoSat$Components" "stack" "[I" (.ref ask) ∧ Fld Z hq d "com/example/passau/passau/insertion/TwoSat$Components" "onStack" "[Z" (.ref aos) ∧ Fld Z hq d "com/example/passau/passau/insertion/TwoSat$Components" "path" "[I" (.ref apa) ∧ Fld Z hq d "com/example/passau/passau/insertion/TwoSat$Components" "edge" "[I" (.ref aed) ∧ Fld Z hq d "com/example/passau/passau/insertion/TwoSat$Components" "depth" "I" (.int Sb.dep) ∧ Fld Z hq d "com/example/passau/passau/insertion/TwoSat$Components" "counter" "I" (.int Sb.cnt) ∧ Fld Z hq d "com/example/passau/passau/insertion/TwoSat$Components" "stacked" "I" (.int Sb.stk) ∧ Fld Z hq d "com/example/passau/passau/insertion/TwoSat$Components" "components" "I" (.int Sb.cmp) ∧ own_L Z hq aix .int ((own_il Sb.idx)) ∧ own_L Z hq alo .int ((own_il Sb.low)) ∧ own_L Z hq anu .int ((own_il Sb.num)) ∧ own_L Z hq ask .int ((own_il Sb.sta)) ∧ own_L Z hq aos .boolean ((own_il Sb.ons)) ∧ own_L Z hq apa .int ((own_il Sb.pth)) ∧ own_L Z hq aed .int ((own_il Sb.edg))
set_option maxRecDepth 65536 in
set_option maxHeartbeats 40000000 in
theorem rm16 (l : Launch) (Z : State) (a0 : Array Value) (hw : ∀ d ∈ tables_1, d.before a0 Z = true) (ws : List Jvm.Cond) (d : Addr) (v1 : Int32) (ast : Addr) (anx : Addr) (aix : Addr) (alo : Addr) (anu : Addr) (ask : Addr) (aos : Addr) (apa : Addr) (aed : Addr) (sl : List Int32) (nl : List Int32) (Sa : own_S) (Sb : own_S) (h0 : Heap) (n0 : Nat) (Z0 : n0 ≤ h0.size) (F0_ : Exa Z h0 d "com/example/passau/passau/insertion/TwoSat$Components") (F1_ : Fld Z h0 d "com/example/passau/passau/insertion/TwoSat$Components" "start" "[I" (.ref ast)) (F2_ : Fld Z h0 d "com/example/passau/passau/insertion/TwoSat$Components" "next" "[I" (.ref anx)) (F3_ : Fld Z h0 d "com/example/passau/passau/insertion/TwoSat$Components" "index" "[I" (.ref aix)) (F4_ : Fld Z h0 d "com/example/passau/passau/insertion/TwoSat$Components" "low" "[I" (.ref alo)) (F5_ : Fld Z h0 d "com/example/passau/passau/insertion/TwoSat$Components" "number" "[I" (.ref anu)) (F6_ : Fld Z h0 d "com/example/passau/passau/insertion/TwoSat$Components" "stack" "[I" (.ref ask)) (F7_ : Fld Z h0 d "com/example/passau/passau/insertion/TwoSat$Components" "onStack" "[Z" (.ref aos)) (F8_ : Fld Z h0 d "com/example/passau/passau/insertion/TwoSat$Components" "path" "[I" (.ref apa)) (F9_ : Fld Z h0 d "com/example/passau/passau/insertion/TwoSat$Components" "edge" "[I" (.ref aed)) (F10_ : Fld Z h0 d "com/example/passau/passau/insertion/TwoSat$Components" "depth" "I" (.int Sa.dep)) (F11_ : Fld Z h0 d "com/example/passau/passau/insertion/TwoSat$Components" "counter" "I" (.int Sa.cnt)) (F12_ : Fld Z h0 d "com/example/passau/passau/insertion/TwoSat$Components" "stacked" "I" (.int Sa.stk)) (F13_ : Fld Z h0 d "com/example/passau/passau/insertion/TwoSat$Components" "components" "I" (.int Sa.cmp)) (F14_ : own_L Z h0 aix .int ((own_il Sa.idx))) (F15_ : own_L Z h0 alo .int ((own_il Sa.low))) (F16_ : own_L Z h0 anu .int ((own_il Sa.num))) (F17_ : own_L Z h0 ask .int ((own_il Sa.sta))) (F18_ : own_L Z h0 aos .boolean ((own_il Sa.ons))) (F19_ : own_L Z h0 apa .int ((own_il Sa.pth))) (F20_ : own_L Z h0 aed .int ((own_il Sa.edg))) (F21_ : own_L Z h0 ast .int ((own_il sl))) (F22_ : own_L Z h0 anx .int ((own_il nl))) (ge_d : n0 ≤ d) (ge_aix : n0 ≤ aix) (ge_alo : n0 ≤ alo) (ge_anu : n0 ≤ anu) (ge_ask : n0 ≤ ask) (ge_aos : n0 ≤ aos) (ge_apa : n0 ≤ apa) (ge_aed : n0 ≤ aed) (ne_d_aix : d ≠ aix) (ne_d_alo : d ≠ alo) (ne_d_anu : d ≠ anu) (ne_d_ask : d ≠ ask) (ne_d_aos : d ≠ aos) (ne_d_apa : d ≠ apa) (ne_d_aed : d ≠ aed) (ne_aix_alo : aix ≠ alo) (ne_aix_anu : aix ≠ anu) (ne_aix_ask : aix ≠ ask) (ne_aix_aos : aix ≠ aos) (ne_aix_apa : aix ≠ apa) (ne_aix_aed : aix ≠ aed) (ne_alo_anu : alo ≠ anu) (ne_alo_ask : alo ≠ ask) (ne_alo_aos : alo ≠ aos) (ne_alo_apa : alo ≠ apa) (ne_alo_aed : alo ≠ aed) (ne_anu_ask : anu ≠ ask) (ne_anu_aos : anu ≠ aos) (ne_anu_apa : anu ≠ apa) (ne_anu_aed : anu ≠ aed) (ne_ask_aos : ask ≠ aos) (ne_ask_apa : ask ≠ apa) (ne_ask_aed : ask ≠ aed) (ne_aos_apa : aos ≠ apa) (ne_aos_aed : aos ≠ aed) (ne_apa_aed : apa ≠ aed) (ne_d_ast : d ≠ ast) (ne_d_anx : d ≠ anx) (ne_aix_ast : aix ≠ ast) (ne_aix_anx : aix ≠ anx) (ne_alo_ast : alo ≠ ast) (ne_alo_anx : alo ≠ anx) (ne_anu_ast : anu ≠ ast) (ne_anu_anx : anu ≠ anx) (ne_ask_ast : ask ≠ ast) (ne_ask_anx : ask ≠ anx) (ne_aos_ast : aos ≠ ast) (ne_aos_anx : aos ≠ anx) (ne_apa_ast : apa ≠ ast) (ne_apa_anx : apa ≠ anx) (ne_aed_ast : aed ≠ ast) (ne_aed_anx : aed ≠ anx) (hE : own_leave v1 Sa = some Sb) :
    MetFree l (⟨"com/example/passau/passau/insertion/TwoSat$Components", "leave", "(I)V"⟩ : MethodName) (head1 (Jvm.Cond.code (⟨"com/example/passau/passau/insertion/TwoSat$Components", "leave", "(I)V"⟩ : MethodName) prog_54_method_5_code 3 none :: ws) ({ frames := 1, cells := 0, slots := 0, locals := 15 } : Room)) (fun za U => za = #[(.ref d), (.int v1)] ∧ Z.Warmed39 U.vm ∧ U.heap = h0) (fun _ _ _ _ _ => True) (fun _ U o U' => ∃ rv Lq, o = .returned rv ∧ Q16 Z d v1 ast anx aix alo anu ask aos apa aed sl nl Sa Sb h0 n0 rv U'.heap Lq ∧ FrameEnd U o U' Lq ({ frames := 1, cells := 0, slots := 0, locals := 15 } : Room).cells ({ frames := 1, cells := 0, slots := 0, locals := 15 } : Room).slots) := by
  refine MetFree.of_bodySF (plainFor_of_name pn_1) hisR ?_
  intro p e s m args below meth c s₁ Bd hml0 hP hK
  obtain ⟨rfl, hZ, hh⟩ := hP
  have hx := Bd.exec
  have hby := Bd.bytes
  have hml : c.maxLocals = 3 := hml0
  have hown : s.vm.findClass "com/example/passau/passau/insertion/TwoSat$Components" = some m.cls := findClass_of_methodNamed Bd.named
  have hnm := (name_of_methodNamed Bd.named Bd.method).1
  have X0 : Stand p l e ({ frames := 1, cells := 0, slots := 0, locals := 15 } : Room) s m #[(.ref d), (.int v1)] below meth c s₁ [] 0 0 := Stand.of_body Bd
  have e0 : s₁.heap = h0 := by rw [← hh, Bd.state]; rfl
  have N0 := Fr.nil n0
  refine own_out (own_nm fun G hG => own_st (fun zt zk => castTop (ef_rm16 m d v1) zk) ?_)
  have hL := hE
  unfold own_leave at hL
  obtain ⟨a5, ha5, hL⟩ := own_bd hL
  obtain ⟨b5, hb5, hL⟩ := own_bd hL
  have J64_24 : ∀ (sl2 : Slot) (Sx : own_S) (hj24 : Heap) (Zj24 : n0 ≤ hj24.size) (Kj24 : Keep h0 hj24 [d, aix, alo, anu, ask, aos, apa, aed]) (Fj24_0 : Exa Z hj24 d "com/example/passau/passau/insertion/TwoSat$Components") (Fj24_1 : Fld Z hj24 d "com/example/passau/passau/insertion/TwoSat$Components" "start" "[I" (.ref ast)) (Fj24_2 : Fld Z hj24 d "com/example/passau/passau/insertion/TwoSat$Components" "next" "[I" (.ref anx)) (Fj24_3 : Fld Z hj24 d "com/example/passau/passau/insertion/TwoSat$Components" "index" "[I" (.ref aix)) (Fj24_4 : Fld Z hj24 d "com/example/passau/passau/insertion/TwoSat$Components" "low" "[I" (.ref alo)) (Fj24_5 : Fld Z hj24 d "com/example/passau/passau/insertion/TwoSat$Components" "number" "[I" (.ref anu)) (Fj24_6 : Fld Z hj24 d "com/example/passau/passau/insertion/TwoSat$Components" "stack" "[I" (.ref ask)) (Fj24_7 : Fld Z hj24 d "com/example/passau/passau/insertion/TwoSat$Components" "onStack" "[Z" (.ref aos)) (Fj24_8 : Fld Z hj24 d "com/example/passau/passau/insertion/TwoSat$Components" "path" "[I" (.ref apa)) (Fj24_9 : Fld Z hj24 d "com/example/passau/passau/insertion/TwoSat$Components" "edge" "[I" (.ref aed)) (Fj24_10 : Fld Z hj24 d "com/example/passau/passau/insertion/TwoSat$Components" "depth" "I" (.int Sx.dep)) (Fj24_11 : Fld Z hj24 d "com/example/passau/passau/insertion/TwoSat$Components" "counter" "I" (.int Sx.cnt)) (Fj24_12 : Fld Z hj24 d "com/example/passau/passau/insertion/TwoSat$Components" "stacked" "I" (.int Sx.stk)) (Fj24_13 : Fld Z hj24 d "com/example/passau/passau/insertion/TwoSat$Components" "components" "I" (.int Sx.cmp)) (Fj24_14 : own_L Z hj24 aix .int ((own_il Sx.idx))) (Fj24_15 : own_L Z hj24 alo .int ((own_il Sx.low))) (Fj24_16 : own_L Z hj24 anu .int ((own_il Sx.num))) (Fj24_17 : own_L Z hj24 ask .int ((own_il Sx.sta))) (Fj24_18 : own_L Z hj24 aos .boolean ((own_il Sx.ons))) (Fj24_19 : own_L Z hj24 apa .int ((own_il Sx.pth))) (Fj24_20 : own_L Z hj24 aed .int ((own_il Sx.edg))) (Fj24_21 : own_L Z hj24 ast .int ((own_il sl))) (Fj24_22 : own_L Z hj24 anx .int ((own_il nl))) (Tj24 : State) (Lj24 : List Loc) (Xj24 : Stand p l e ({ frames := 1, cells := 0, slots := 0, locals := 15 } : Room) s m #[(.ref d), (.int v1)] below meth c Tj24 Lj24 0 0) (ej24 : Tj24.heap = hj24) (Nj24 : Fr n0 Lj24) (hB : own_back v1 Sx = some Sb), own_Go p e below G (Tj24.setTop (mkF m 64 #[.val (.ref d), .val (.int v1), sl2] [])) := by
    intro sl2 Sx hj24 Zj24 Kj24 Fj24_0 Fj24_1 Fj24_2 Fj24_3 Fj24_4 Fj24_5 Fj24_6 Fj24_7 Fj24_8 Fj24_9 Fj24_10 Fj24_11 Fj24_12 Fj24_13 Fj24_14 Fj24_15 Fj24_16 Fj24_17 Fj24_18 Fj24_19 Fj24_20 Fj24_21 Fj24_22 Tj24 Lj24 Xj24 ej24 Nj24 hB
    show own_Go p e below G (Tj24.setTop (mkF m 64 #[.val (.ref d), .val (.int v1), sl2] []))
    refine own_st (fun zw zk => XS.aloadN Xj24.here hx rfl (hb hby d16_64) rfl rfl zk) ?_
    refine own_st (fun zw zk => XS.dup Xj24.here hx rfl (hb hby d16_65) rfl rfl zk) ?_
    obtain ⟨T25, X25, e25, st25⟩ := getF Xj24 hx hZ hown (host := "") (Or.inl (hw _ (List.mem_of_getElem? (i := 95) rfl))) Via.refl ej24 Fj24_10 (g := (mkF m 66 #[.val (.ref d), .val (.int v1), sl2] [(.ref d), (.ref d)])) rfl rfl (hb hby d16_66)
    refine own_st (fun zw zk => st25 zw zk) ?_
    refine own_st (fun zw zk => XS.iconst X25.here hx rfl (hb hby d16_69) zk) ?_
    refine own_st (fun zw zk => XS.isub X25.here hx rfl (hb hby d16_70) rfl zk) ?_
    obtain ⟨T26, h26, X26, e26, W26, st26⟩ := putF X25 hx hZ hown (host := "") (Or.inl (hw _ (List.mem_of_getElem? (i := 95) rfl))) Via.refl e25 Fj24_10 Fj24_0 (Or.inl (hw _ (List.mem_of_getElem? (i := 96) rfl))) (hw _ (List.mem_of_getElem? (i := 64) rfl)) (ty := .int) (by decide) rfl rfl (g := (mkF m 71 #[.val (.ref d), .val (.int v1), sl2] [(.int (Sx.dep - (1 : Int32))), (.ref d)])) rfl rfl (hb hby d16_71)
    have Fj2410_26 := Fj24_10.same W26
    have N26 := Fr.snoc X26 Nj24 ge_d
    refine own_st (fun zw zk => st26 zw zk) ?_
    have Fj240_26 := Fj24_0.wr W26
    have Fj241_26 := Fj24_1.other W26 (Or.inr (slot_ne (Or.inr (hw _ (List.mem_of_getElem? (i := 70) rfl))) (Or.inl (hw _ (List.mem_of_getElem? (i := 96) rfl))) (by decide) (t := (.array .int)) (t' := .int) (by decide) (by decide)))
    have Fj242_26 := Fj24_2.other W26 (Or.inr (slot_ne (Or.inr (hw _ (List.mem_of_getElem? (i := 72) rfl))) (Or.inl (hw _ (List.mem_of_getElem? (i := 96) rfl))) (by decide) (t := (.array .int)) (t' := .int) (by decide) (by decide)))
    have Fj243_26 := Fj24_3.other W26 (Or.inr (slot_ne (Or.inr (hw _ (List.mem_of_getElem? (i := 74) rfl))) (Or.inl (hw _ (List.mem_of_getElem? (i := 96) rfl))) (by decide) (t := (.array .int)) (t' := .int) (by decide) (by decide)))
    have Fj244_26 := Fj24_4.other W26 (Or.inr (slot_ne (Or.inr (hw _ (List.mem_of_getElem? (i := 76) rfl))) (Or.inl (hw _ (List.mem_of_getElem? (i := 96) rfl))) (by decide) (t := (.array .int)) (t' := .int) (by decide) (by decide)))
    have Fj245_26 := Fj24_5.other W26 (Or.inr (slot_ne (Or.inr (hw _ (List.mem_of_getElem? (i := 78) rfl))) (Or.inl (hw _ (List.mem_of_getElem? (i := 96) rfl))) (by decide) (t := (.array .int)) (t' := .int) (by decide) (by decide)))
    have Fj246_26 := Fj24_6.other W26 (Or.inr (slot_ne (Or.inr (hw _ (List.mem_of_getElem? (i := 80) rfl))) (Or.inl (hw _ (List.mem_of_getElem? (i := 96) rfl))) (by decide) (t := (.array .int)) (t' := .int) (by decide) (by decide)))
    have Fj247_26 := Fj24_7.other W26 (Or.inr (slot_ne (Or.inr (hw _ (List.mem_of_getElem? (i := 83) rfl))) (Or.inl (hw _ (List.mem_of_getElem? (i := 96) rfl))) (by decide) (t := (.array .boolean)) (t' := .int) (by decide) (by decide)))
    have Fj248_26 := Fj24_8.other W26 (Or.inr (slot_ne (Or.inr (hw _ (List.mem_of_getElem? (i := 85) rfl))) (Or.inl (hw _ (List.mem_of_getElem? (i := 96) rfl))) (by decide) (t := (.array .int)) (t' := .int) (by decide) (by decide)))
    have Fj249_26 := Fj24_9.other W26 (Or.inr (slot_ne (Or.inr (hw _ (List.mem_of_getElem? (i := 87) rfl))) (Or.inl (hw _ (List.mem_of_getElem? (i := 96) rfl))) (by decide) (t := (.array .int)) (t' := .int) (by decide) (by decide)))
    have Fj2411_26 := Fj24_11.other W26 (Or.inr (slot_ne (Or.inl (hw _ (List.mem_of_getElem? (i := 102) rfl))) (Or.inl (hw _ (List.mem_of_getElem? (i := 96) rfl))) (by decide) (t := .int) (t' := .int) (by decide) (by decide)))
    have Fj2412_26 := Fj24_12.other W26 (Or.inr (slot_ne (Or.inl (hw _ (List.mem_of_getElem? (i := 104) rfl))) (Or.inl (hw _ (List.mem_of_getElem? (i := 96) rfl))) (by decide) (t := .int) (t' := .int) (by decide) (by decide)))
    have Fj2413_26 := Fj24_13.other W26 (Or.inr (slot_ne (Or.inl (hw _ (List.mem_of_getElem? (i := 110) rfl))) (Or.inl (hw _ (List.mem_of_getElem? (i := 96) rfl))) (by decide) (t := .int) (t' := .int) (by decide) (by decide)))
    have Fj2414_26 := Fj24_14.other W26 (Ne.symm ne_d_aix)
    have Fj2415_26 := Fj24_15.other W26 (Ne.symm ne_d_alo)
    have Fj2416_26 := Fj24_16.other W26 (Ne.symm ne_d_anu)
    have Fj2417_26 := Fj24_17.other W26 (Ne.symm ne_d_ask)
    have Fj2418_26 := Fj24_18.other W26 (Ne.symm ne_d_aos)
    have Fj2419_26 := Fj24_19.other W26 (Ne.symm ne_d_apa)
    have Fj2420_26 := Fj24_20.other W26 (Ne.symm ne_d_aed)
    have Fj2421_26 := Fj24_21.other W26 (Ne.symm ne_d_ast)
    have Fj2422_26 := Fj24_22.other W26 (Ne.symm ne_d_anx)
    have Z26 : n0 ≤ h26.size := Nat.le_trans Zj24 (Keep.of_wr W26).1
    have Kp26 := Kj24.wr W26 (Or.inl (List.mem_of_getElem? (i := 0) rfl))
    refine own_st (fun zw zk => XS.aloadN X26.here hx rfl (hb hby d16_74) rfl rfl zk) ?_
    obtain ⟨T27, X27, e27, st27⟩ := getF X26 hx hZ hown (host := "") (Or.inl (hw _ (List.mem_of_getElem? (i := 95) rfl))) Via.refl e26 Fj2410_26 (g := (mkF m 75 #[.val (.ref d), .val (.int v1), sl2] [(.ref d)])) rfl rfl (hb hby d16_75)
    refine own_st (fun zw zk => st27 zw zk) ?_
    show own_Go p e below G (T27.setTop (mkF m 78 #[.val (.ref d), .val (.int v1), sl2] [(.int (Sx.dep - (1 : Int32)))]))
    by_cases hc78 : (Sx.dep - (1 : Int32)) < (0 : Int32)
    · refine own_st (fun zw zk => XS.ifYes X27.here hx rfl (pc0 := 78) (pc' := 118) rfl (hb hby d16_78) rfl ((if0 _ _).trans (tlt hc78).1) (by decide) (by decide) zk) ?_
      have hSb := own_bk1 hB hc78
      subst hG
      obtain ⟨fs, hr, hrun, hended, hW, hsame⟩ := X27.leave (v := none) (hlocks := Bd.notSynchronized) (fun _ => rfl)
      refine ⟨_, X27.returnOut hx Bd.returns (hb hby d16_118) hr, _, hrun, hended, _, _, rfl, ?_, ⟨_, rfl⟩, hW, hsame.mono (by decide) (by decide)⟩
      show Q16 Z d v1 ast anx aix alo anu ask aos apa aed sl nl Sa Sb h0 n0 _ T27.heap _
      rw [e27]
      exact ⟨rfl, N26, Kp26, Fj241_26, Fj242_26, Fj243_26, Fj244_26, Fj245_26, Fj246_26, Fj247_26, Fj248_26, Fj249_26, (own_Fi (congrArg (fun z : own_S => z.dep) hSb) Fj2410_26), (own_Fi (congrArg (fun z : own_S => z.cnt) hSb) Fj2411_26), (own_Fi (congrArg (fun z : own_S => z.stk) hSb) Fj2412_26), (own_Fi (congrArg (fun z : own_S => z.cmp) hSb) Fj2413_26), (own_Lc (congrArg (fun z : own_S => own_il z.idx) hSb) Fj2414_26), (own_Lc (congrArg (fun z : own_S => own_il z.low) hSb) Fj2415_26), (own_Lc (congrArg (fun z : own_S => own_il z.num) hSb) Fj2416_26), (own_Lc (congrArg (fun z : own_S => own_il z.sta) hSb) Fj2417_26), (own_Lc (congrArg (fun z : own_S => own_il z.ons) hSb) Fj2418_26), (own_Lc (congrArg (fun z : own_S => own_il z.pth) hSb) Fj2419_26), (own_Lc (congrArg (fun z : own_S => own_il z.edg) hSb) Fj2420_26)⟩
    · refine own_st (fun zw zk => XS.ifNo X27.here hx rfl (hb hby d16_78) rfl ((if0 _ _).trans (flt hc78).1) zk) ?_
      obtain ⟨q9, x9, y9, lo9, hq9, hx9, hy9, hlo9, hSb⟩ := own_bk2 hB hc78
      refine own_st (fun zw zk => XS.aloadN X27.here hx rfl (hb hby d16_81) rfl rfl zk) ?_
      obtain ⟨T28, X28, e28, st28⟩ := getF X27 hx hZ hown (host := "") (Or.inl (hw _ (List.mem_of_getElem? (i := 75) rfl))) Via.refl e27 Fj244_26 (g := (mkF m 82 #[.val (.ref d), .val (.int v1), sl2] [(.ref d)])) rfl rfl (hb hby d16_82)
      refine own_st (fun zw zk => st28 zw zk) ?_
      refine own_st (fun zw zk => XS.aloadN X28.here hx rfl (hb hby d16_85) rfl rfl zk) ?_
      obtain ⟨T29, X29, e29, st29⟩ := getF X28 hx hZ hown (host := "") (Or.inl (hw _ (List.mem_of_getElem? (i := 84) rfl))) Via.refl e28 Fj248_26 (g := (mkF m 86 #[.val (.ref d), .val (.int v1), sl2] [(.ref d), (.ref alo)])) rfl rfl (hb hby d16_86)
      refine own_st (fun zw zk => st29 zw zk) ?_
      refine own_st (fun zw zk => XS.aloadN X29.here hx rfl (hb hby d16_89) rfl rfl zk) ?_
      obtain ⟨T30, X30, e30, st30⟩ := getF X29 hx hZ hown (host := "") (Or.inl (hw _ (List.mem_of_getElem? (i := 95) rfl))) Via.refl e29 Fj2410_26 (g := (mkF m 90 #[.val (.ref d), .val (.int v1), sl2] [(.ref d), (.ref apa), (.ref alo)])) rfl rfl (hb hby d16_90)
      refine own_st (fun zw zk => st30 zw zk) ?_
      refine own_st (fun zw zk => own_ild X30 hx hZ e30 Fj2419_26 (j := (Sx.dep - (1 : Int32))) (v := (.int q9)) (i := (Sx.dep - (1 : Int32)).toInt.toNat) (own_nn (own_gn hq9)) (own_nat (own_gn hq9)) (own_gv hq9) (g := (mkF m 93 #[.val (.ref d), .val (.int v1), sl2] [(.int (Sx.dep - (1 : Int32))), (.ref apa), (.ref alo)])) rfl rfl (hb hby d16_93) _ zk) ?_
      show own_Go p e below G (T30.setTop (mkF m 94 #[.val (.ref d), .val (.int v1), sl2] [(.int q9), (.ref alo)]))
      refine own_st (fun zw zk => XS.aloadN X30.here hx rfl (hb hby d16_94) rfl rfl zk) ?_
      obtain ⟨T31, X31, e31, st31⟩ := getF X30 hx hZ hown (host := "") (Or.inl (hw _ (List.mem_of_getElem? (i := 75) rfl))) Via.refl e30 Fj244_26 (g := (mkF m 95 #[.val (.ref d), .val (.int v1), sl2] [(.ref d), (.int q9), (.ref alo)])) rfl rfl (hb hby d16_95)
      refine own_st (fun zw zk => st31 zw zk) ?_
      refine own_st (fun zw zk => XS.aloadN X31.here hx rfl (hb hby d16_98) rfl rfl zk) ?_
      obtain ⟨T32, X32, e32, st32⟩ := getF X31 hx hZ hown (host := "") (Or.inl (hw _ (List.mem_of_getElem? (i := 84) rfl))) Via.refl e31 Fj248_26 (g := (mkF m 99 #[.val (.ref d), .val (.int v1), sl2] [(.ref d), (.ref alo), (.int q9), (.ref alo)])) rfl rfl (hb hby d16_99)
      refine own_st (fun zw zk => st32 zw zk) ?_
      refine own_st (fun zw zk => XS.aloadN X32.here hx rfl (hb hby d16_102) rfl rfl zk) ?_
      obtain ⟨T33, X33, e33, st33⟩ := getF X32 hx hZ hown (host := "") (Or.inl (hw _ (List.mem_of_getElem? (i := 95) rfl))) Via.refl e32 Fj2410_26 (g := (mkF m 103 #[.val (.ref d), .val (.int v1), sl2] [(.ref d), (.ref apa), (.ref alo), (.int q9), (.ref alo)])) rfl rfl (hb hby d16_103)
      refine own_st (fun zw zk => st33 zw zk) ?_
      refine own_st (fun zw zk => own_ild X33 hx hZ e33 Fj2419_26 (j := (Sx.dep - (1 : Int32))) (v := (.int q9)) (i := (Sx.dep - (1 : Int32)).toInt.toNat) (own_nn (own_gn hq9)) (own_nat (own_gn hq9)) (own_gv hq9) (g := (mkF m 106 #[.val (.ref d), .val (.int v1), sl2] [(.int (Sx.dep - (1 : Int32))), (.ref apa), (.ref alo), (.int q9), (.ref alo)])) rfl rfl (hb hby d16_106) _ zk) ?_
      refine own_st (fun zw zk => own_ild X33 hx hZ e33 Fj2415_26 (j := q9) (v := (.int x9)) (i := q9.toInt.toNat) (own_nn (own_gn hx9)) (own_nat (own_gn hx9)) (own_gv hx9) (g := (mkF m 107 #[.val (.ref d), .val (.int v1), sl2] [(.int q9), (.ref alo), (.int q9), (.ref alo)])) rfl rfl (hb hby d16_107) _ zk) ?_
      show own_Go p e below G (T33.setTop (mkF m 108 #[.val (.ref d), .val (.int v1), sl2] [(.int x9), (.int q9), (.ref alo)]))
      refine own_st (fun zw zk => XS.aloadN X33.here hx rfl (hb hby d16_108) rfl rfl zk) ?_
      obtain ⟨T34, X34, e34, st34⟩ := getF X33 hx hZ hown (host := "") (Or.inl (hw _ (List.mem_of_getElem? (i := 75) rfl))) Via.refl e33 Fj244_26 (g := (mkF m 109 #[.val (.ref d), .val (.int v1), sl2] [(.ref d), (.int x9), (.int q9), (.ref alo)])) rfl rfl (hb hby d16_109)
      refine own_st (fun zw zk => st34 zw zk) ?_
      refine own_st (fun zw zk => XS.iloadN X34.here hx rfl (hb hby d16_112) rfl zk) ?_
      refine own_st (fun zw zk => own_ild X34 hx hZ e34 Fj2415_26 (j := v1) (v := (.int y9)) (i := v1.toInt.toNat) (own_nn (own_gn hy9)) (own_nat (own_gn hy9)) (own_gv hy9) (g := (mkF m 113 #[.val (.ref d), .val (.int v1), sl2] [(.int v1), (.ref alo), (.int x9), (.int q9), (.ref alo)])) rfl rfl (hb hby d16_113) _ zk) ?_
      obtain ⟨_, _, ⟨T35, L35, k35, n35⟩, -, X35, ⟨Lc35, hQ35, l35, y35, z35⟩, st35⟩ := Jvm.LawKit.callS X34 hx (y := (⟨"java/lang/Math", "min", "(II)I"⟩ : MethodName)) hown (mvT hZ (hw _ (List.mem_of_getElem? (i := 111) rfl))) (mvT hZ (hw _ (List.mem_of_getElem? (i := 52) rfl))) (mvT hZ (hw _ (List.mem_of_getElem? (i := 53) rfl))) (mvT hZ (hw _ (List.mem_of_getElem? (i := 54) rfl))) (by decide) (backOf (W := 2) (rm10 l Z a0 hw [] x9 y9 h26 n0 Z26) hZ (hw _ (List.mem_of_getElem? (i := 54) rfl)) (hw _ (List.mem_of_getElem? (i := 53) rfl)) (by decide) (by decide)) (g := (mkF m 114 #[.val (.ref d), .val (.int v1), sl2] [(.int y9), (.int x9), (.int q9), (.ref alo)])) rfl (by rw [hml]; rfl) (argsL := [(.int x9), (.int y9)]) (rest := [(.int q9), (.ref alo)]) (lenOf pd_0 rfl) rfl (by show 2 * 0 + _ ≤ _; exact Nat.le_of_eq rfl) (hb hby d16_114) (fun _ _ => ⟨rfl, e34, (by decide : 0 + 0 ≤ _), (by decide : 0 + 0 ≤ _)⟩)
      dsimp only [Pt.U, Pt.locs, Pt.cells, Pt.slots] at X35 l35 y35 z35 st35 hQ35
      subst l35 y35 z35
      obtain ⟨rfl, N35q, e35⟩ := hQ35
      have N35 := Fr.app N26 N35q
      refine own_st (fun zw zk => st35 zw zk) ?_
      obtain ⟨T36, h36, X36, e36, W36, V36, st36⟩ := own_ist X35 hx hZ e35 Fj2415_26 (j := q9) (q9.toInt.toNat) (own_nn (own_sn hlo9)) (own_nat (own_sn hlo9)) (own_sl hlo9) (g := (mkF m 117 #[.val (.ref d), .val (.int v1), sl2] [(.int (own_mn x9 y9)), (.int q9), (.ref alo)])) rfl rfl (hb hby d16_117)
      have Fj2415_36 : own_L Z h36 alo .int ((own_il lo9)) := (own_Lc (own_se hlo9) V36)
      have N36 := Fr.snoc X36 N35 ge_alo
      refine own_st (fun zw zk => st36 zw zk) ?_
      have Fj240_36 := Fj240_26.wr W36
      have Fj241_36 := Fj241_26.other W36 (Or.inl ne_d_alo)
      have Fj242_36 := Fj242_26.other W36 (Or.inl ne_d_alo)
      have Fj243_36 := Fj243_26.other W36 (Or.inl ne_d_alo)
      have Fj244_36 := Fj244_26.other W36 (Or.inl ne_d_alo)
      have Fj245_36 := Fj245_26.other W36 (Or.inl ne_d_alo)
      have Fj246_36 := Fj246_26.other W36 (Or.inl ne_d_alo)
      have Fj247_36 := Fj247_26.other W36 (Or.inl ne_d_alo)
      have Fj248_36 := Fj248_26.other W36 (Or.inl ne_d_alo)
      have Fj249_36 := Fj249_26.other W36 (Or.inl ne_d_alo)
      have Fj2411_36 := Fj2411_26.other W36 (Or.inl ne_d_alo)
      have Fj2412_36 := Fj2412_26.other W36 (Or.inl ne_d_alo)
      have Fj2413_36 := Fj2413_26.other W36 (Or.inl ne_d_alo)
      have Fj2414_36 := Fj2414_26.other W36 ne_aix_alo
      have Fj2416_36 := Fj2416_26.other W36 (Ne.symm ne_alo_anu)
      have Fj2417_36 := Fj2417_26.other W36 (Ne.symm ne_alo_ask)
      have Fj2418_36 := Fj2418_26.other W36 (Ne.symm ne_alo_aos)
      have Fj2419_36 := Fj2419_26.other W36 (Ne.symm ne_alo_apa)
      have Fj2420_36 := Fj2420_26.other W36 (Ne.symm ne_alo_aed)
      have Fj2421_36 := Fj2421_26.other W36 (Ne.symm ne_alo_ast)
      have Fj2422_36 := Fj2422_26.other W36 (Ne.symm ne_alo_anx)
      have Fj2410_36 := Fj2410_26.other W36 (Or.inl ne_d_alo)
      have Z36 : n0 ≤ h36.size := Nat.le_trans Z26 (Keep.of_wr W36).1
      have Kp36 := Kp26.wr W36 (Or.inl (List.mem_of_getElem? (i := 2) rfl))
      subst hG
      obtain ⟨fs, hr, hrun, hended, hW, hsame⟩ := X36.leave (v := none) (hlocks := Bd.notSynchronized) (fun _ => rfl)
      refine ⟨_, X36.returnOut hx Bd.returns (hb hby d16_118) hr, _, hrun, hended, _, _, rfl, ?_, ⟨_, rfl⟩, hW, hsame.mono (by decide) (by decide)⟩
      show Q16 Z d v1 ast anx aix alo anu ask aos apa aed sl nl Sa Sb h0 n0 _ T36.heap _
      rw [e36]
      exact ⟨rfl, N36, Kp36, Fj241_36, Fj242_36, Fj243_36, Fj244_36, Fj245_36, Fj246_36, Fj247_36, Fj248_36, Fj249_36, (own_Fi (congrArg (fun z : own_S => z.dep) hSb) Fj2410_36), (own_Fi (congrArg (fun z : own_S => z.cnt) hSb) Fj2411_36), (own_Fi (congrArg (fun z : own_S => z.stk) hSb) Fj2412_36), (own_Fi (congrArg (fun z : own_S => z.cmp) hSb) Fj2413_36), (own_Lc (congrArg (fun z : own_S => own_il z.idx) hSb) Fj2414_36), (own_Lc (congrArg (fun z : own_S => own_il z.low) hSb) Fj2415_36), (own_Lc (congrArg (fun z : own_S => own_il z.num) hSb) Fj2416_36), (own_Lc (congrArg (fun z : own_S => own_il z.sta) hSb) Fj2417_36), (own_Lc (congrArg (fun z : own_S => own_il z.ons) hSb) Fj2418_36), (own_Lc (congrArg (fun z : own_S => own_il z.pth) hSb) Fj2419_36), (own_Lc (congrArg (fun z : own_S => own_il z.edg) hSb) Fj2420_36)⟩
  show own_Go p e below G (s₁.setTop (mkF m 0 #[.val (.ref d), .val (.int v1), .unset] []))
  refine own_st (fun zw zk => XS.aloadN X0.here hx rfl (hb hby d16_0) rfl rfl zk) ?_
  obtain ⟨T37, X37, e37, st37⟩ := getF X0 hx hZ hown (host := "") (Or.inl (hw _ (List.mem_of_getElem? (i := 75) rfl))) Via.refl e0 F4_ (g := (mkF m 1 #[.val (.ref d), .val (.int v1), .unset] [(.ref d)])) rfl rfl (hb hby d16_1)
  refine own_st (fun zw zk => st37 zw zk) ?_
  refine own_st (fun zw zk => XS.iloadN X37.here hx rfl (hb hby d16_4) rfl zk) ?_
  refine own_st (fun zw zk => own_ild X37 hx hZ e37 F15_ (j := v1) (v := (.int a5)) (i := v1.toInt.toNat) (own_nn (own_gn ha5)) (own_nat (own_gn ha5)) (own_gv ha5) (g := (mkF m 5 #[.val (.ref d), .val (.int v1), .unset] [(.int v1), (.ref alo)])) rfl rfl (hb hby d16_5) _ zk) ?_
  refine own_st (fun zw zk => XS.aloadN X37.here hx rfl (hb hby d16_6) rfl rfl zk) ?_
  obtain ⟨T38, X38, e38, st38⟩ := getF X37 hx hZ hown (host := "") (Or.inl (hw _ (List.mem_of_getElem? (i := 73) rfl))) Via.refl e37 F3_ (g := (mkF m 7 #[.val (.ref d), .val (.int v1), .unset] [(.ref d), (.int a5)])) rfl rfl (hb hby d16_7)
  refine own_st (fun zw zk => st38 zw zk) ?_
  refine own_st (fun zw zk => XS.iloadN X38.here hx rfl (hb hby d16_10) rfl zk) ?_
  refine own_st (fun zw zk => own_ild X38 hx hZ e38 F14_ (j := v1) (v := (.int b5)) (i := v1.toInt.toNat) (own_nn (own_gn hb5)) (own_nat (own_gn hb5)) (own_gv hb5) (g := (mkF m 11 #[.val (.ref d), .val (.int v1), .unset] [(.int v1), (.ref aix), (.int a5)])) rfl rfl (hb hby d16_11) _ zk) ?_
  show own_Go p e below G (T38.setTop (mkF m 12 #[.val (.ref d), .val (.int v1), .unset] [(.int b5), (.int a5)]))
  by_cases hc12 : a5 = b5
  · refine own_st (fun zw zk => XS.icmpNo X38.here hx rfl (hb hby d16_12) rfl (teq hc12).2 zk) ?_
    rw [if_pos hc12] at hL
    obtain ⟨⟨sF, oF, nF⟩, hpop, hback⟩ := own_bd hL
    obtain ⟨kk1, w1, o1, n1, hkk1, hw1, ho1, hn1, hI1⟩ := own_pop_inv hpop
    refine own_st (fun zw zk => XS.aloadN X38.here hx rfl (hb hby d16_15) rfl rfl zk) ?_
    obtain ⟨T39, X39, e39, st39⟩ := getF X38 hx hZ hown (host := "") (Or.inl (hw _ (List.mem_of_getElem? (i := 79) rfl))) Via.refl e38 F6_ (g := (mkF m 16 #[.val (.ref d), .val (.int v1), .unset] [(.ref d)])) rfl rfl (hb hby d16_16)
    refine own_st (fun zw zk => st39 zw zk) ?_
    refine own_st (fun zw zk => XS.aloadN X39.here hx rfl (hb hby d16_19) rfl rfl zk) ?_
    refine own_st (fun zw zk => XS.dup X39.here hx rfl (hb hby d16_20) rfl rfl zk) ?_
    obtain ⟨T40, X40, e40, st40⟩ := getF X39 hx hZ hown (host := "") (Or.inl (hw _ (List.mem_of_getElem? (i := 103) rfl))) Via.refl e39 F12_ (g := (mkF m 21 #[.val (.ref d), .val (.int v1), .unset] [(.ref d), (.ref d), (.ref ask)])) rfl rfl (hb hby d16_21)
    refine own_st (fun zw zk => st40 zw zk) ?_
    refine own_st (fun zw zk => XS.iconst X40.here hx rfl (hb hby d16_24) zk) ?_
    refine own_st (fun zw zk => XS.isub X40.here hx rfl (hb hby d16_25) rfl zk) ?_
    show own_Go p e below G (T40.setTop (mkF m 26 #[.val (.ref d), .val (.int v1), .unset] [(.int (Sa.stk - (1 : Int32))), (.ref d), (.ref ask)]))
    refine own_st (fun zw zk => XS.dupX1 X40.here hx rfl (hb hby d16_26) rfl rfl rfl zk) ?_
    obtain ⟨T41, h41, X41, e41, W41, st41⟩ := putF X40 hx hZ hown (host := "") (Or.inl (hw _ (List.mem_of_getElem? (i := 103) rfl))) Via.refl e40 F12_ F0_ (Or.inl (hw _ (List.mem_of_getElem? (i := 104) rfl))) (hw _ (List.mem_of_getElem? (i := 64) rfl)) (ty := .int) (by decide) rfl rfl (g := (mkF m 27 #[.val (.ref d), .val (.int v1), .unset] [(.int (Sa.stk - (1 : Int32))), (.ref d), (.int (Sa.stk - (1 : Int32))), (.ref ask)])) rfl rfl (hb hby d16_27)
    have F12_41 := F12_.same W41
    have N41 := Fr.snoc X41 N0 ge_d
    refine own_st (fun zw zk => st41 zw zk) ?_
    have F0_41 := F0_.wr W41
    have F1_41 := F1_.other W41 (Or.inr (slot_ne (Or.inr (hw _ (List.mem_of_getElem? (i := 70) rfl))) (Or.inl (hw _ (List.mem_of_getElem? (i := 104) rfl))) (by decide) (t := (.array .int)) (t' := .int) (by decide) (by decide)))
    have F2_41 := F2_.other W41 (Or.inr (slot_ne (Or.inr (hw _ (List.mem_of_getElem? (i := 72) rfl))) (Or.inl (hw _ (List.mem_of_getElem? (i := 104) rfl))) (by decide) (t := (.array .int)) (t' := .int) (by decide) (by decide)))
    have F3_41 := F3_.other W41 (Or.inr (slot_ne (Or.inr (hw _ (List.mem_of_getElem? (i := 74) rfl))) (Or.inl (hw _ (List.mem_of_getElem? (i := 104) rfl))) (by decide) (t := (.array .int)) (t' := .int) (by decide) (by decide)))
    have F4_41 := F4_.other W41 (Or.inr (slot_ne (Or.inr (hw _ (List.mem_of_getElem? (i := 76) rfl))) (Or.inl (hw _ (List.mem_of_getElem? (i := 104) rfl))) (by decide) (t := (.array .int)) (t' := .int) (by decide) (by decide)))
    have F5_41 := F5_.other W41 (Or.inr (slot_ne (Or.inr (hw _ (List.mem_of_getElem? (i := 78) rfl))) (Or.inl (hw _ (List.mem_of_getElem? (i := 104) rfl))) (by decide) (t := (.array .int)) (t' := .int) (by decide) (by decide)))
    have F6_41 := F6_.other W41 (Or.inr (slot_ne (Or.inr (hw _ (List.mem_of_getElem? (i := 80) rfl))) (Or.inl (hw _ (List.mem_of_getElem? (i := 104) rfl))) (by decide) (t := (.array .int)) (t' := .int) (by decide) (by decide)))
    have F7_41 := F7_.other W41 (Or.inr (slot_ne (Or.inr (hw _ (List.mem_of_getElem? (i := 83) rfl))) (Or.inl (hw _ (List.mem_of_getElem? (i := 104) rfl))) (by decide) (t := (.array .boolean)) (t' := .int) (by decide) (by decide)))
    have F8_41 := F8_.other W41 (Or.inr (slot_ne (Or.inr (hw _ (List.mem_of_getElem? (i := 85) rfl))) (Or.inl (hw _ (List.mem_of_getElem? (i := 104) rfl))) (by decide) (t := (.array .int)) (t' := .int) (by decide) (by decide)))
    have F9_41 := F9_.other W41 (Or.inr (slot_ne (Or.inr (hw _ (List.mem_of_getElem? (i := 87) rfl))) (Or.inl (hw _ (List.mem_of_getElem? (i := 104) rfl))) (by decide) (t := (.array .int)) (t' := .int) (by decide) (by decide)))
    have F10_41 := F10_.other W41 (Or.inr (slot_ne (Or.inl (hw _ (List.mem_of_getElem? (i := 96) rfl))) (Or.inl (hw _ (List.mem_of_getElem? (i := 104) rfl))) (by decide) (t := .int) (t' := .int) (by decide) (by decide)))
    have F11_41 := F11_.other W41 (Or.inr (slot_ne (Or.inl (hw _ (List.mem_of_getElem? (i := 102) rfl))) (Or.inl (hw _ (List.mem_of_getElem? (i := 104) rfl))) (by decide) (t := .int) (t' := .int) (by decide) (by decide)))
    have F13_41 := F13_.other W41 (Or.inr (slot_ne (Or.inl (hw _ (List.mem_of_getElem? (i := 110) rfl))) (Or.inl (hw _ (List.mem_of_getElem? (i := 104) rfl))) (by decide) (t := .int) (t' := .int) (by decide) (by decide)))
    have F14_41 := F14_.other W41 (Ne.symm ne_d_aix)
    have F15_41 := F15_.other W41 (Ne.symm ne_d_alo)
    have F16_41 := F16_.other W41 (Ne.symm ne_d_anu)
    have F17_41 := F17_.other W41 (Ne.symm ne_d_ask)
    have F18_41 := F18_.other W41 (Ne.symm ne_d_aos)
    have F19_41 := F19_.other W41 (Ne.symm ne_d_apa)
    have F20_41 := F20_.other W41 (Ne.symm ne_d_aed)
    have F21_41 := F21_.other W41 (Ne.symm ne_d_ast)
    have F22_41 := F22_.other W41 (Ne.symm ne_d_anx)
    have Z41 : n0 ≤ h41.size := Nat.le_trans Z0 (Keep.of_wr W41).1
    have Kp41 := (Keep.refl h0 [d, aix, alo, anu, ask, aos, apa, aed]).wr W41 (Or.inl (List.mem_of_getElem? (i := 0) rfl))
    refine own_st (fun zw zk => own_ild X41 hx hZ e41 F17_41 (j := (Sa.stk - (1 : Int32))) (v := (.int w1)) (i := (Sa.stk - (1 : Int32)).toInt.toNat) (own_nn (own_gn hw1)) (own_nat (own_gn hw1)) (own_gv hw1) (g := (mkF m 30 #[.val (.ref d), .val (.int v1), .unset] [(.int (Sa.stk - (1 : Int32))), (.ref ask)])) rfl rfl (hb hby d16_30) _ zk) ?_
    refine own_st (fun zw zk => XS.istoreN X41.here hx rfl (hb hby d16_31) rfl rfl zk) ?_
    show own_Go p e below G (T41.setTop (mkF m 32 #[.val (.ref d), .val (.int v1), .val (.int w1)] []))
    refine own_st (fun zw zk => XS.aloadN X41.here hx rfl (hb hby d16_32) rfl rfl zk) ?_
    obtain ⟨T42, X42, e42, st42⟩ := getF X41 hx hZ hown (host := "") (Or.inl (hw _ (List.mem_of_getElem? (i := 82) rfl))) Via.refl e41 F7_41 (g := (mkF m 33 #[.val (.ref d), .val (.int v1), .val (.int w1)] [(.ref d)])) rfl rfl (hb hby d16_33)
    refine own_st (fun zw zk => st42 zw zk) ?_
    refine own_st (fun zw zk => XS.iloadN X42.here hx rfl (hb hby d16_36) rfl zk) ?_
    refine own_st (fun zw zk => XS.iconst X42.here hx rfl (hb hby d16_37) zk) ?_
    obtain ⟨T43, h43, X43, e43, W43, V43, st43⟩ := own_zst X42 hx hZ e42 F18_41 (j := w1) (w1.toInt.toNat) (own_nn (own_sn ho1)) (own_nat (own_sn ho1)) (own_sl ho1) (g := (mkF m 38 #[.val (.ref d), .val (.int v1), .val (.int w1)] [(.int (0 : Int32)), (.int w1), (.ref aos)])) rfl rfl (hb hby d16_38)
    have F18_43 : own_L Z h43 aos .boolean ((own_il o1)) := (own_Lc (own_se ho1) V43)
    have N43 := Fr.snoc X43 N41 ge_aos
    refine own_st (fun zw zk => st43 zw zk) ?_
    have F0_43 := F0_41.wr W43
    have F1_43 := F1_41.other W43 (Or.inl ne_d_aos)
    have F2_43 := F2_41.other W43 (Or.inl ne_d_aos)
    have F3_43 := F3_41.other W43 (Or.inl ne_d_aos)
    have F4_43 := F4_41.other W43 (Or.inl ne_d_aos)
    have F5_43 := F5_41.other W43 (Or.inl ne_d_aos)
    have F6_43 := F6_41.other W43 (Or.inl ne_d_aos)
    have F7_43 := F7_41.other W43 (Or.inl ne_d_aos)
    have F8_43 := F8_41.other W43 (Or.inl ne_d_aos)
    have F9_43 := F9_41.other W43 (Or.inl ne_d_aos)
    have F10_43 := F10_41.other W43 (Or.inl ne_d_aos)
    have F11_43 := F11_41.other W43 (Or.inl ne_d_aos)
    have F13_43 := F13_41.other W43 (Or.inl ne_d_aos)
    have F14_43 := F14_41.other W43 ne_aix_aos
    have F15_43 := F15_41.other W43 ne_alo_aos
    have F16_43 := F16_41.other W43 ne_anu_aos
    have F17_43 := F17_41.other W43 ne_ask_aos
    have F19_43 := F19_41.other W43 (Ne.symm ne_aos_apa)
    have F20_43 := F20_41.other W43 (Ne.symm ne_aos_aed)
    have F21_43 := F21_41.other W43 (Ne.symm ne_aos_ast)
    have F22_43 := F22_41.other W43 (Ne.symm ne_aos_anx)
    have F12_43 := F12_41.other W43 (Or.inl ne_d_aos)
    have Z43 : n0 ≤ h43.size := Nat.le_trans Z41 (Keep.of_wr W43).1
    have Kp43 := Kp41.wr W43 (Or.inl (List.mem_of_getElem? (i := 5) rfl))
    refine own_st (fun zw zk => XS.aloadN X43.here hx rfl (hb hby d16_39) rfl rfl zk) ?_
    obtain ⟨T44, X44, e44, st44⟩ := getF X43 hx hZ hown (host := "") (Or.inl (hw _ (List.mem_of_getElem? (i := 77) rfl))) Via.refl e43 F5_43 (g := (mkF m 40 #[.val (.ref d), .val (.int v1), .val (.int w1)] [(.ref d)])) rfl rfl (hb hby d16_40)
    refine own_st (fun zw zk => st44 zw zk) ?_
    refine own_st (fun zw zk => XS.iloadN X44.here hx rfl (hb hby d16_43) rfl zk) ?_
    show own_Go p e below G (T44.setTop (mkF m 44 #[.val (.ref d), .val (.int v1), .val (.int w1)] [(.int w1), (.ref anu)]))
    refine own_st (fun zw zk => XS.aloadN X44.here hx rfl (hb hby d16_44) rfl rfl zk) ?_
    obtain ⟨T45, X45, e45, st45⟩ := getF X44 hx hZ hown (host := "") (Or.inl (hw _ (List.mem_of_getElem? (i := 109) rfl))) Via.refl e44 F13_43 (g := (mkF m 45 #[.val (.ref d), .val (.int v1), .val (.int w1)] [(.ref d), (.int w1), (.ref anu)])) rfl rfl (hb hby d16_45)
    refine own_st (fun zw zk => st45 zw zk) ?_
    obtain ⟨T46, h46, X46, e46, W46, V46, st46⟩ := own_ist X45 hx hZ e45 F16_43 (j := w1) (w1.toInt.toNat) (own_nn (own_sn hn1)) (own_nat (own_sn hn1)) (own_sl hn1) (g := (mkF m 48 #[.val (.ref d), .val (.int v1), .val (.int w1)] [(.int Sa.cmp), (.int w1), (.ref anu)])) rfl rfl (hb hby d16_48)
    have F16_46 : own_L Z h46 anu .int ((own_il n1)) := (own_Lc (own_se hn1) V46)
    have N46 := Fr.snoc X46 N43 ge_anu
    refine own_st (fun zw zk => st46 zw zk) ?_
    have F0_46 := F0_43.wr W46
    have F1_46 := F1_43.other W46 (Or.inl ne_d_anu)
    have F2_46 := F2_43.other W46 (Or.inl ne_d_anu)
    have F3_46 := F3_43.other W46 (Or.inl ne_d_anu)
    have F4_46 := F4_43.other W46 (Or.inl ne_d_anu)
    have F5_46 := F5_43.other W46 (Or.inl ne_d_anu)
    have F6_46 := F6_43.other W46 (Or.inl ne_d_anu)
    have F7_46 := F7_43.other W46 (Or.inl ne_d_anu)
    have F8_46 := F8_43.other W46 (Or.inl ne_d_anu)
    have F9_46 := F9_43.other W46 (Or.inl ne_d_anu)
    have F10_46 := F10_43.other W46 (Or.inl ne_d_anu)
    have F11_46 := F11_43.other W46 (Or.inl ne_d_anu)
    have F13_46 := F13_43.other W46 (Or.inl ne_d_anu)
    have F14_46 := F14_43.other W46 ne_aix_anu
    have F15_46 := F15_43.other W46 ne_alo_anu
    have F17_46 := F17_43.other W46 (Ne.symm ne_anu_ask)
    have F19_46 := F19_43.other W46 (Ne.symm ne_anu_apa)
    have F20_46 := F20_43.other W46 (Ne.symm ne_anu_aed)
    have F21_46 := F21_43.other W46 (Ne.symm ne_anu_ast)
    have F22_46 := F22_43.other W46 (Ne.symm ne_anu_anx)
    have F12_46 := F12_43.other W46 (Or.inl ne_d_anu)
    have F18_46 := F18_43.other W46 (Ne.symm ne_anu_aos)
    have Z46 : n0 ≤ h46.size := Nat.le_trans Z43 (Keep.of_wr W46).1
    have Kp46 := Kp43.wr W46 (Or.inl (List.mem_of_getElem? (i := 3) rfl))
    have loop49_47 : ∀ (bk : Nat) (w2_ : Int32) (kf : Nat) (sx : Int32) (ox : List Int32) (nq : List Int32) (hj47 : Heap) (Zj47 : n0 ≤ hj47.size) (Kj47 : Keep h0 hj47 [d, aix, alo, anu, ask, aos, apa, aed]) (Fj47_0 : Exa Z hj47 d "com/example/passau/passau/insertion/TwoSat$Components") (Fj47_1 : Fld Z hj47 d "com/example/passau/passau/insertion/TwoSat$Components" "start" "[I" (.ref ast)) (Fj47_2 : Fld Z hj47 d "com/example/passau/passau/insertion/TwoSat$Components" "next" "[I" (.ref anx)) (Fj47_3 : Fld Z hj47 d "com/example/passau/passau/insertion/TwoSat$Components" "index" "[I" (.ref aix)) (Fj47_4 : Fld Z hj47 d "com/example/passau/passau/insertion/TwoSat$Components" "low" "[I" (.ref alo)) (Fj47_5 : Fld Z hj47 d "com/example/passau/passau/insertion/TwoSat$Components" "number" "[I" (.ref anu)) (Fj47_6 : Fld Z hj47 d "com/example/passau/passau/insertion/TwoSat$Components" "stack" "[I" (.ref ask)) (Fj47_7 : Fld Z hj47 d "com/example/passau/passau/insertion/TwoSat$Components" "onStack" "[Z" (.ref aos)) (Fj47_8 : Fld Z hj47 d "com/example/passau/passau/insertion/TwoSat$Components" "path" "[I" (.ref apa)) (Fj47_9 : Fld Z hj47 d "com/example/passau/passau/insertion/TwoSat$Components" "edge" "[I" (.ref aed)) (Fj47_10 : Fld Z hj47 d "com/example/passau/passau/insertion/TwoSat$Components" "depth" "I" (.int Sa.dep)) (Fj47_11 : Fld Z hj47 d "com/example/passau/passau/insertion/TwoSat$Components" "counter" "I" (.int Sa.cnt)) (Fj47_12 : Fld Z hj47 d "com/example/passau/passau/insertion/TwoSat$Components" "stacked" "I" (.int sx)) (Fj47_13 : Fld Z hj47 d "com/example/passau/passau/insertion/TwoSat$Components" "components" "I" (.int Sa.cmp)) (Fj47_14 : own_L Z hj47 aix .int ((own_il Sa.idx))) (Fj47_15 : own_L Z hj47 alo .int ((own_il Sa.low))) (Fj47_16 : own_L Z hj47 anu .int ((own_il nq))) (Fj47_17 : own_L Z hj47 ask .int ((own_il Sa.sta))) (Fj47_18 : own_L Z hj47 aos .boolean ((own_il ox))) (Fj47_19 : own_L Z hj47 apa .int ((own_il Sa.pth))) (Fj47_20 : own_L Z hj47 aed .int ((own_il Sa.edg))) (Fj47_21 : own_L Z hj47 ast .int ((own_il sl))) (Fj47_22 : own_L Z hj47 anx .int ((own_il nl))) (Tj47 : State) (Lj47 : List Loc) (Xj47 : Stand p l e ({ frames := 1, cells := 0, slots := 0, locals := 15 } : Room) s m #[(.ref d), (.int v1)] below meth c Tj47 Lj47 0 0) (ej47 : Tj47.heap = hj47) (Nj47 : Fr n0 Lj47) (hI : (if w2_ = v1 then some (sx, ox, nq) else own_pop v1 Sa.sta Sa.cmp kf sx ox nq) = some (sF, oF, nF)) (hbk : kf < bk), own_Go p e below G (Tj47.setTop (mkF m 49 #[.val (.ref d), .val (.int v1), .val (.int w2_)] [])) := by
      intro bk
      induction bk with
      | zero =>
        intro w2_ kf sx ox nq hj47 Zj47 Kj47 Fj47_0 Fj47_1 Fj47_2 Fj47_3 Fj47_4 Fj47_5 Fj47_6 Fj47_7 Fj47_8 Fj47_9 Fj47_10 Fj47_11 Fj47_12 Fj47_13 Fj47_14 Fj47_15 Fj47_16 Fj47_17 Fj47_18 Fj47_19 Fj47_20 Fj47_21 Fj47_22 Tj47 Lj47 Xj47 ej47 Nj47 hI hbk
        exact absurd hbk (Nat.not_lt_zero _)
      | succ bk ih =>
        intro w2_ kf sx ox nq hj47 Zj47 Kj47 Fj47_0 Fj47_1 Fj47_2 Fj47_3 Fj47_4 Fj47_5 Fj47_6 Fj47_7 Fj47_8 Fj47_9 Fj47_10 Fj47_11 Fj47_12 Fj47_13 Fj47_14 Fj47_15 Fj47_16 Fj47_17 Fj47_18 Fj47_19 Fj47_20 Fj47_21 Fj47_22 Tj47 Lj47 Xj47 ej47 Nj47 hI hbk
        refine own_st (fun zw zk => XS.iloadN Xj47.here hx rfl (hb hby d16_49) rfl zk) ?_
        refine own_st (fun zw zk => XS.iloadN Xj47.here hx rfl (hb hby d16_50) rfl zk) ?_
        by_cases hc51 : w2_ = v1
        · refine own_st (fun zw zk => XS.icmpNo Xj47.here hx rfl (hb hby d16_51) rfl (teq hc51).2 zk) ?_
          have hB1 : own_back v1 ((own_S.wcmp (own_S.wnum (own_S.wons (own_S.wstk Sa (sx)) (ox)) (nq)) (Sa.cmp + 1)) : own_S) = some Sb := by
            have q := hI
            rw [if_pos hc51] at q
            cases q
            exact hback
          refine own_st (fun zw zk => XS.aloadN Xj47.here hx rfl (hb hby d16_54) rfl rfl zk) ?_
          refine own_st (fun zw zk => XS.dup Xj47.here hx rfl (hb hby d16_55) rfl rfl zk) ?_
          show own_Go p e below G (Tj47.setTop (mkF m 56 #[.val (.ref d), .val (.int v1), .val (.int w2_)] [(.ref d), (.ref d)]))
          obtain ⟨T48, X48, e48, st48⟩ := getF Xj47 hx hZ hown (host := "") (Or.inl (hw _ (List.mem_of_getElem? (i := 109) rfl))) Via.refl ej47 Fj47_13 (g := (mkF m 56 #[.val (.ref d), .val (.int v1), .val (.int w2_)] [(.ref d), (.ref d)])) rfl rfl (hb hby d16_56)
          refine own_st (fun zw zk => st48 zw zk) ?_
          refine own_st (fun zw zk => XS.iconst X48.here hx rfl (hb hby d16_59) zk) ?_
          refine own_st (fun zw zk => XS.iadd X48.here hx rfl (hb hby d16_60) rfl zk) ?_
          obtain ⟨T49, h49, X49, e49, W49, st49⟩ := putF X48 hx hZ hown (host := "") (Or.inl (hw _ (List.mem_of_getElem? (i := 109) rfl))) Via.refl e48 Fj47_13 Fj47_0 (Or.inl (hw _ (List.mem_of_getElem? (i := 110) rfl))) (hw _ (List.mem_of_getElem? (i := 64) rfl)) (ty := .int) (by decide) rfl rfl (g := (mkF m 61 #[.val (.ref d), .val (.int v1), .val (.int w2_)] [(.int (Sa.cmp + (1 : Int32))), (.ref d)])) rfl rfl (hb hby d16_61)
          have Fj4713_49 := Fj47_13.same W49
          have N49 := Fr.snoc X49 Nj47 ge_d
          refine own_st (fun zw zk => st49 zw zk) ?_
          have Fj470_49 := Fj47_0.wr W49
          have Fj471_49 := Fj47_1.other W49 (Or.inr (slot_ne (Or.inr (hw _ (List.mem_of_getElem? (i := 70) rfl))) (Or.inl (hw _ (List.mem_of_getElem? (i := 110) rfl))) (by decide) (t := (.array .int)) (t' := .int) (by decide) (by decide)))
          have Fj472_49 := Fj47_2.other W49 (Or.inr (slot_ne (Or.inr (hw _ (List.mem_of_getElem? (i := 72) rfl))) (Or.inl (hw _ (List.mem_of_getElem? (i := 110) rfl))) (by decide) (t := (.array .int)) (t' := .int) (by decide) (by decide)))
          have Fj473_49 := Fj47_3.other W49 (Or.inr (slot_ne (Or.inr (hw _ (List.mem_of_getElem? (i := 74) rfl))) (Or.inl (hw _ (List.mem_of_getElem? (i := 110) rfl))) (by decide) (t := (.array .int)) (t' := .int) (by decide) (by decide)))
          have Fj474_49 := Fj47_4.other W49 (Or.inr (slot_ne (Or.inr (hw _ (List.mem_of_getElem? (i := 76) rfl))) (Or.inl (hw _ (List.mem_of_getElem? (i := 110) rfl))) (by decide) (t := (.array .int)) (t' := .int) (by decide) (by decide)))
          have Fj475_49 := Fj47_5.other W49 (Or.inr (slot_ne (Or.inr (hw _ (List.mem_of_getElem? (i := 78) rfl))) (Or.inl (hw _ (List.mem_of_getElem? (i := 110) rfl))) (by decide) (t := (.array .int)) (t' := .int) (by decide) (by decide)))
          have Fj476_49 := Fj47_6.other W49 (Or.inr (slot_ne (Or.inr (hw _ (List.mem_of_getElem? (i := 80) rfl))) (Or.inl (hw _ (List.mem_of_getElem? (i := 110) rfl))) (by decide) (t := (.array .int)) (t' := .int) (by decide) (by decide)))
          have Fj477_49 := Fj47_7.other W49 (Or.inr (slot_ne (Or.inr (hw _ (List.mem_of_getElem? (i := 83) rfl))) (Or.inl (hw _ (List.mem_of_getElem? (i := 110) rfl))) (by decide) (t := (.array .boolean)) (t' := .int) (by decide) (by decide)))
          have Fj478_49 := Fj47_8.other W49 (Or.inr (slot_ne (Or.inr (hw _ (List.mem_of_getElem? (i := 85) rfl))) (Or.inl (hw _ (List.mem_of_getElem? (i := 110) rfl))) (by decide) (t := (.array .int)) (t' := .int) (by decide) (by decide)))
          have Fj479_49 := Fj47_9.other W49 (Or.inr (slot_ne (Or.inr (hw _ (List.mem_of_getElem? (i := 87) rfl))) (Or.inl (hw _ (List.mem_of_getElem? (i := 110) rfl))) (by decide) (t := (.array .int)) (t' := .int) (by decide) (by decide)))
          have Fj4710_49 := Fj47_10.other W49 (Or.inr (slot_ne (Or.inl (hw _ (List.mem_of_getElem? (i := 96) rfl))) (Or.inl (hw _ (List.mem_of_getElem? (i := 110) rfl))) (by decide) (t := .int) (t' := .int) (by decide) (by decide)))
          have Fj4711_49 := Fj47_11.other W49 (Or.inr (slot_ne (Or.inl (hw _ (List.mem_of_getElem? (i := 102) rfl))) (Or.inl (hw _ (List.mem_of_getElem? (i := 110) rfl))) (by decide) (t := .int) (t' := .int) (by decide) (by decide)))
          have Fj4712_49 := Fj47_12.other W49 (Or.inr (slot_ne (Or.inl (hw _ (List.mem_of_getElem? (i := 104) rfl))) (Or.inl (hw _ (List.mem_of_getElem? (i := 110) rfl))) (by decide) (t := .int) (t' := .int) (by decide) (by decide)))
          have Fj4714_49 := Fj47_14.other W49 (Ne.symm ne_d_aix)
          have Fj4715_49 := Fj47_15.other W49 (Ne.symm ne_d_alo)
          have Fj4716_49 := Fj47_16.other W49 (Ne.symm ne_d_anu)
          have Fj4717_49 := Fj47_17.other W49 (Ne.symm ne_d_ask)
          have Fj4718_49 := Fj47_18.other W49 (Ne.symm ne_d_aos)
          have Fj4719_49 := Fj47_19.other W49 (Ne.symm ne_d_apa)
          have Fj4720_49 := Fj47_20.other W49 (Ne.symm ne_d_aed)
          have Fj4721_49 := Fj47_21.other W49 (Ne.symm ne_d_ast)
          have Fj4722_49 := Fj47_22.other W49 (Ne.symm ne_d_anx)
          have Z49 : n0 ≤ h49.size := Nat.le_trans Zj47 (Keep.of_wr W49).1
          have Kp49 := Kj47.wr W49 (Or.inl (List.mem_of_getElem? (i := 0) rfl))
          show own_Go p e below G (T49.setTop (mkF m 64 #[.val (.ref d), .val (.int v1), .val (.int w2_)] []))
          exact J64_24 (.val (.int w2_)) (((own_S.wcmp (own_S.wnum (own_S.wons (own_S.wstk Sa (sx)) (ox)) (nq)) (Sa.cmp + 1)) : own_S)) _ Z49 Kp49 Fj470_49 Fj471_49 Fj472_49 Fj473_49 Fj474_49 Fj475_49 Fj476_49 Fj477_49 Fj478_49 Fj479_49 Fj4710_49 Fj4711_49 Fj4712_49 Fj4713_49 Fj4714_49 Fj4715_49 Fj4716_49 Fj4717_49 Fj4718_49 Fj4719_49 Fj4720_49 Fj4721_49 Fj4722_49 _ _ X49 e49 N49 (hB1)
        · refine own_st (fun zw zk => XS.icmpYes Xj47.here hx rfl (pc0 := 51) (pc' := 15) rfl (hb hby d16_51) rfl (feq hc51).2 (by decide) (by decide) zk) ?_
          have hI' := hI
          rw [if_neg hc51] at hI'
          obtain ⟨kk2, w2, o2, n2, hkk2, hw2, ho2, hn2, hI2⟩ := own_pop_inv hI'
          refine own_st (fun zw zk => XS.aloadN Xj47.here hx rfl (hb hby d16_15) rfl rfl zk) ?_
          obtain ⟨T50, X50, e50, st50⟩ := getF Xj47 hx hZ hown (host := "") (Or.inl (hw _ (List.mem_of_getElem? (i := 79) rfl))) Via.refl ej47 Fj47_6 (g := (mkF m 16 #[.val (.ref d), .val (.int v1), .val (.int w2_)] [(.ref d)])) rfl rfl (hb hby d16_16)
          refine own_st (fun zw zk => st50 zw zk) ?_
          show own_Go p e below G (T50.setTop (mkF m 19 #[.val (.ref d), .val (.int v1), .val (.int w2_)] [(.ref ask)]))
          refine own_st (fun zw zk => XS.aloadN X50.here hx rfl (hb hby d16_19) rfl rfl zk) ?_
          refine own_st (fun zw zk => XS.dup X50.here hx rfl (hb hby d16_20) rfl rfl zk) ?_
          obtain ⟨T51, X51, e51, st51⟩ := getF X50 hx hZ hown (host := "") (Or.inl (hw _ (List.mem_of_getElem? (i := 103) rfl))) Via.refl e50 Fj47_12 (g := (mkF m 21 #[.val (.ref d), .val (.int v1), .val (.int w2_)] [(.ref d), (.ref d), (.ref ask)])) rfl rfl (hb hby d16_21)
          refine own_st (fun zw zk => st51 zw zk) ?_
          refine own_st (fun zw zk => XS.iconst X51.here hx rfl (hb hby d16_24) zk) ?_
          refine own_st (fun zw zk => XS.isub X51.here hx rfl (hb hby d16_25) rfl zk) ?_
          refine own_st (fun zw zk => XS.dupX1 X51.here hx rfl (hb hby d16_26) rfl rfl rfl zk) ?_
          obtain ⟨T52, h52, X52, e52, W52, st52⟩ := putF X51 hx hZ hown (host := "") (Or.inl (hw _ (List.mem_of_getElem? (i := 103) rfl))) Via.refl e51 Fj47_12 Fj47_0 (Or.inl (hw _ (List.mem_of_getElem? (i := 104) rfl))) (hw _ (List.mem_of_getElem? (i := 64) rfl)) (ty := .int) (by decide) rfl rfl (g := (mkF m 27 #[.val (.ref d), .val (.int v1), .val (.int w2_)] [(.int (sx - (1 : Int32))), (.ref d), (.int (sx - (1 : Int32))), (.ref ask)])) rfl rfl (hb hby d16_27)
          have Fj4712_52 := Fj47_12.same W52
          have N52 := Fr.snoc X52 Nj47 ge_d
          refine own_st (fun zw zk => st52 zw zk) ?_
          have Fj470_52 := Fj47_0.wr W52
          have Fj471_52 := Fj47_1.other W52 (Or.inr (slot_ne (Or.inr (hw _ (List.mem_of_getElem? (i := 70) rfl))) (Or.inl (hw _ (List.mem_of_getElem? (i := 104) rfl))) (by decide) (t := (.array .int)) (t' := .int) (by decide) (by decide)))
          have Fj472_52 := Fj47_2.other W52 (Or.inr (slot_ne (Or.inr (hw _ (List.mem_of_getElem? (i := 72) rfl))) (Or.inl (hw _ (List.mem_of_getElem? (i := 104) rfl))) (by decide) (t := (.array .int)) (t' := .int) (by decide) (by decide)))
          have Fj473_52 := Fj47_3.other W52 (Or.inr (slot_ne (Or.inr (hw _ (List.mem_of_getElem? (i := 74) rfl))) (Or.inl (hw _ (List.mem_of_getElem? (i := 104) rfl))) (by decide) (t := (.array .int)) (t' := .int) (by decide) (by decide)))
          have Fj474_52 := Fj47_4.other W52 (Or.inr (slot_ne (Or.inr (hw _ (List.mem_of_getElem? (i := 76) rfl))) (Or.inl (hw _ (List.mem_of_getElem? (i := 104) rfl))) (by decide) (t := (.array .int)) (t' := .int) (by decide) (by decide)))
          have Fj475_52 := Fj47_5.other W52 (Or.inr (slot_ne (Or.inr (hw _ (List.mem_of_getElem? (i := 78) rfl))) (Or.inl (hw _ (List.mem_of_getElem? (i := 104) rfl))) (by decide) (t := (.array .int)) (t' := .int) (by decide) (by decide)))
          have Fj476_52 := Fj47_6.other W52 (Or.inr (slot_ne (Or.inr (hw _ (List.mem_of_getElem? (i := 80) rfl))) (Or.inl (hw _ (List.mem_of_getElem? (i := 104) rfl))) (by decide) (t := (.array .int)) (t' := .int) (by decide) (by decide)))
          have Fj477_52 := Fj47_7.other W52 (Or.inr (slot_ne (Or.inr (hw _ (List.mem_of_getElem? (i := 83) rfl))) (Or.inl (hw _ (List.mem_of_getElem? (i := 104) rfl))) (by decide) (t := (.array .boolean)) (t' := .int) (by decide) (by decide)))
          have Fj478_52 := Fj47_8.other W52 (Or.inr (slot_ne (Or.inr (hw _ (List.mem_of_getElem? (i := 85) rfl))) (Or.inl (hw _ (List.mem_of_getElem? (i := 104) rfl))) (by decide) (t := (.array .int)) (t' := .int) (by decide) (by decide)))
          have Fj479_52 := Fj47_9.other W52 (Or.inr (slot_ne (Or.inr (hw _ (List.mem_of_getElem? (i := 87) rfl))) (Or.inl (hw _ (List.mem_of_getElem? (i := 104) rfl))) (by decide) (t := (.array .int)) (t' := .int) (by decide) (by decide)))
          have Fj4710_52 := Fj47_10.other W52 (Or.inr (slot_ne (Or.inl (hw _ (List.mem_of_getElem? (i := 96) rfl))) (Or.inl (hw _ (List.mem_of_getElem? (i := 104) rfl))) (by decide) (t := .int) (t' := .int) (by decide) (by decide)))
          have Fj4711_52 := Fj47_11.other W52 (Or.inr (slot_ne (Or.inl (hw _ (List.mem_of_getElem? (i := 102) rfl))) (Or.inl (hw _ (List.mem_of_getElem? (i := 104) rfl))) (by decide) (t := .int) (t' := .int) (by decide) (by decide)))
          have Fj4713_52 := Fj47_13.other W52 (Or.inr (slot_ne (Or.inl (hw _ (List.mem_of_getElem? (i := 110) rfl))) (Or.inl (hw _ (List.mem_of_getElem? (i := 104) rfl))) (by decide) (t := .int) (t' := .int) (by decide) (by decide)))
          have Fj4714_52 := Fj47_14.other W52 (Ne.symm ne_d_aix)
          have Fj4715_52 := Fj47_15.other W52 (Ne.symm ne_d_alo)
          have Fj4716_52 := Fj47_16.other W52 (Ne.symm ne_d_anu)
          have Fj4717_52 := Fj47_17.other W52 (Ne.symm ne_d_ask)
          have Fj4718_52 := Fj47_18.other W52 (Ne.symm ne_d_aos)
          have Fj4719_52 := Fj47_19.other W52 (Ne.symm ne_d_apa)
          have Fj4720_52 := Fj47_20.other W52 (Ne.symm ne_d_aed)
          have Fj4721_52 := Fj47_21.other W52 (Ne.symm ne_d_ast)
          have Fj4722_52 := Fj47_22.other W52 (Ne.symm ne_d_anx)
          have Z52 : n0 ≤ h52.size := Nat.le_trans Zj47 (Keep.of_wr W52).1
          have Kp52 := Kj47.wr W52 (Or.inl (List.mem_of_getElem? (i := 0) rfl))
          refine own_st (fun zw zk => own_ild X52 hx hZ e52 Fj4717_52 (j := (sx - (1 : Int32))) (v := (.int w2)) (i := (sx - (1 : Int32)).toInt.toNat) (own_nn (own_gn hw2)) (own_nat (own_gn hw2)) (own_gv hw2) (g := (mkF m 30 #[.val (.ref d), .val (.int v1), .val (.int w2_)] [(.int (sx - (1 : Int32))), (.ref ask)])) rfl rfl (hb hby d16_30) _ zk) ?_
          show own_Go p e below G (T52.setTop (mkF m 31 #[.val (.ref d), .val (.int v1), .val (.int w2_)] [(.int w2)]))
          refine own_st (fun zw zk => XS.istoreN X52.here hx rfl (hb hby d16_31) rfl rfl zk) ?_
          show own_Go p e below G (T52.setTop (mkF m 32 #[.val (.ref d), .val (.int v1), .val (.int w2)] []))
          refine own_st (fun zw zk => XS.aloadN X52.here hx rfl (hb hby d16_32) rfl rfl zk) ?_
          obtain ⟨T53, X53, e53, st53⟩ := getF X52 hx hZ hown (host := "") (Or.inl (hw _ (List.mem_of_getElem? (i := 82) rfl))) Via.refl e52 Fj477_52 (g := (mkF m 33 #[.val (.ref d), .val (.int v1), .val (.int w2)] [(.ref d)])) rfl rfl (hb hby d16_33)
          refine own_st (fun zw zk => st53 zw zk) ?_
          refine own_st (fun zw zk => XS.iloadN X53.here hx rfl (hb hby d16_36) rfl zk) ?_
          refine own_st (fun zw zk => XS.iconst X53.here hx rfl (hb hby d16_37) zk) ?_
          obtain ⟨T54, h54, X54, e54, W54, V54, st54⟩ := own_zst X53 hx hZ e53 Fj4718_52 (j := w2) (w2.toInt.toNat) (own_nn (own_sn ho2)) (own_nat (own_sn ho2)) (own_sl ho2) (g := (mkF m 38 #[.val (.ref d), .val (.int v1), .val (.int w2)] [(.int (0 : Int32)), (.int w2), (.ref aos)])) rfl rfl (hb hby d16_38)
          have Fj4718_54 : own_L Z h54 aos .boolean ((own_il o2)) := (own_Lc (own_se ho2) V54)
          have N54 := Fr.snoc X54 N52 ge_aos
          refine own_st (fun zw zk => st54 zw zk) ?_
          have Fj470_54 := Fj470_52.wr W54
          have Fj471_54 := Fj471_52.other W54 (Or.inl ne_d_aos)
          have Fj472_54 := Fj472_52.other W54 (Or.inl ne_d_aos)
          have Fj473_54 := Fj473_52.other W54 (Or.inl ne_d_aos)
          have Fj474_54 := Fj474_52.other W54 (Or.inl ne_d_aos)
          have Fj475_54 := Fj475_52.other W54 (Or.inl ne_d_aos)
          have Fj476_54 := Fj476_52.other W54 (Or.inl ne_d_aos)
          have Fj477_54 := Fj477_52.other W54 (Or.inl ne_d_aos)
          have Fj478_54 := Fj478_52.other W54 (Or.inl ne_d_aos)
          have Fj479_54 := Fj479_52.other W54 (Or.inl ne_d_aos)
          have Fj4710_54 := Fj4710_52.other W54 (Or.inl ne_d_aos)
          have Fj4711_54 := Fj4711_52.other W54 (Or.inl ne_d_aos)
          have Fj4713_54 := Fj4713_52.other W54 (Or.inl ne_d_aos)
          have Fj4714_54 := Fj4714_52.other W54 ne_aix_aos
          have Fj4715_54 := Fj4715_52.other W54 ne_alo_aos
          have Fj4716_54 := Fj4716_52.other W54 ne_anu_aos
          have Fj4717_54 := Fj4717_52.other W54 ne_ask_aos
          have Fj4719_54 := Fj4719_52.other W54 (Ne.symm ne_aos_apa)
          have Fj4720_54 := Fj4720_52.other W54 (Ne.symm ne_aos_aed)
          have Fj4721_54 := Fj4721_52.other W54 (Ne.symm ne_aos_ast)
          have Fj4722_54 := Fj4722_52.other W54 (Ne.symm ne_aos_anx)
          have Fj4712_54 := Fj4712_52.other W54 (Or.inl ne_d_aos)
          have Z54 : n0 ≤ h54.size := Nat.le_trans Z52 (Keep.of_wr W54).1
          have Kp54 := Kp52.wr W54 (Or.inl (List.mem_of_getElem? (i := 5) rfl))
          refine own_st (fun zw zk => XS.aloadN X54.here hx rfl (hb hby d16_39) rfl rfl zk) ?_
          obtain ⟨T55, X55, e55, st55⟩ := getF X54 hx hZ hown (host := "") (Or.inl (hw _ (List.mem_of_getElem? (i := 77) rfl))) Via.refl e54 Fj475_54 (g := (mkF m 40 #[.val (.ref d), .val (.int v1), .val (.int w2)] [(.ref d)])) rfl rfl (hb hby d16_40)
          refine own_st (fun zw zk => st55 zw zk) ?_
          refine own_st (fun zw zk => XS.iloadN X55.here hx rfl (hb hby d16_43) rfl zk) ?_
          show own_Go p e below G (T55.setTop (mkF m 44 #[.val (.ref d), .val (.int v1), .val (.int w2)] [(.int w2), (.ref anu)]))
          refine own_st (fun zw zk => XS.aloadN X55.here hx rfl (hb hby d16_44) rfl rfl zk) ?_
          obtain ⟨T56, X56, e56, st56⟩ := getF X55 hx hZ hown (host := "") (Or.inl (hw _ (List.mem_of_getElem? (i := 109) rfl))) Via.refl e55 Fj4713_54 (g := (mkF m 45 #[.val (.ref d), .val (.int v1), .val (.int w2)] [(.ref d), (.int w2), (.ref anu)])) rfl rfl (hb hby d16_45)
          refine own_st (fun zw zk => st56 zw zk) ?_
          obtain ⟨T57, h57, X57, e57, W57, V57, st57⟩ := own_ist X56 hx hZ e56 Fj4716_54 (j := w2) (w2.toInt.toNat) (own_nn (own_sn hn2)) (own_nat (own_sn hn2)) (own_sl hn2) (g := (mkF m 48 #[.val (.ref d), .val (.int v1), .val (.int w2)] [(.int Sa.cmp), (.int w2), (.ref anu)])) rfl rfl (hb hby d16_48)
          have Fj4716_57 : own_L Z h57 anu .int ((own_il n2)) := (own_Lc (own_se hn2) V57)
          have N57 := Fr.snoc X57 N54 ge_anu
          refine own_st (fun zw zk => st57 zw zk) ?_
          have Fj470_57 := Fj470_54.wr W57
          have Fj471_57 := Fj471_54.other W57 (Or.inl ne_d_anu)
          have Fj472_57 := Fj472_54.other W57 (Or.inl ne_d_anu)
          have Fj473_57 := Fj473_54.other W57 (Or.inl ne_d_anu)
          have Fj474_57 := Fj474_54.other W57 (Or.inl ne_d_anu)
          have Fj475_57 := Fj475_54.other W57 (Or.inl ne_d_anu)
          have Fj476_57 := Fj476_54.other W57 (Or.inl ne_d_anu)
          have Fj477_57 := Fj477_54.other W57 (Or.inl ne_d_anu)
          have Fj478_57 := Fj478_54.other W57 (Or.inl ne_d_anu)
          have Fj479_57 := Fj479_54.other W57 (Or.inl ne_d_anu)
          have Fj4710_57 := Fj4710_54.other W57 (Or.inl ne_d_anu)
          have Fj4711_57 := Fj4711_54.other W57 (Or.inl ne_d_anu)
          have Fj4713_57 := Fj4713_54.other W57 (Or.inl ne_d_anu)
          have Fj4714_57 := Fj4714_54.other W57 ne_aix_anu
          have Fj4715_57 := Fj4715_54.other W57 ne_alo_anu
          have Fj4717_57 := Fj4717_54.other W57 (Ne.symm ne_anu_ask)
          have Fj4719_57 := Fj4719_54.other W57 (Ne.symm ne_anu_apa)
          have Fj4720_57 := Fj4720_54.other W57 (Ne.symm ne_anu_aed)
          have Fj4721_57 := Fj4721_54.other W57 (Ne.symm ne_anu_ast)
          have Fj4722_57 := Fj4722_54.other W57 (Ne.symm ne_anu_anx)
          have Fj4712_57 := Fj4712_54.other W57 (Or.inl ne_d_anu)
          have Fj4718_57 := Fj4718_54.other W57 (Ne.symm ne_anu_aos)
          have Z57 : n0 ≤ h57.size := Nat.le_trans Z54 (Keep.of_wr W57).1
          have Kp57 := Kp54.wr W57 (Or.inl (List.mem_of_getElem? (i := 3) rfl))
          show own_Go p e below G (T57.setTop (mkF m 49 #[.val (.ref d), .val (.int v1), .val (.int w2)] []))
          exact ih w2 (kk2) ((sx - (1 : Int32))) (o2) (n2) _ Z57 Kp57 Fj470_57 Fj471_57 Fj472_57 Fj473_57 Fj474_57 Fj475_57 Fj476_57 Fj477_57 Fj478_57 Fj479_57 Fj4710_57 Fj4711_57 Fj4712_57 Fj4713_57 Fj4714_57 Fj4715_57 Fj4716_57 Fj4717_57 Fj4718_57 Fj4719_57 Fj4720_57 Fj4721_57 Fj4722_57 _ _ X57 e57 N57 (hI2) (by omega)
    show own_Go p e below G (T46.setTop (mkF m 49 #[.val (.ref d), .val (.int v1), .val (.int w1)] []))
    exact loop49_47 _ w1 (kk1) ((Sa.stk - (1 : Int32))) (o1) (n1) _ Z46 Kp46 F0_46 F1_46 F2_46 F3_46 F4_46 F5_46 F6_46 F7_46 F8_46 F9_46 F10_46 F11_46 F12_46 F13_46 F14_46 F15_46 F16_46 F17_46 F18_46 F19_46 F20_46 F21_46 F22_46 _ _ X46 e46 N46 (hI1) (Nat.lt_succ_self _)
  · refine own_st (fun zw zk => XS.icmpYes X38.here hx rfl (pc0 := 12) (pc' := 64) rfl (hb hby d16_12) rfl (feq hc12).2 (by decide) (by decide) zk) ?_
    show own_Go p e below G (T38.setTop (mkF m 64 #[.val (.ref d), .val (.int v1), .unset] []))
    rw [if_neg hc12] at hL
    exact J64_24 (.unset) (Sa) _ Z0 (Keep.refl h0 [d, aix, alo, anu, ask, aos, apa, aed]) F0_ F1_ F2_ F3_ F4_ F5_ F6_ F7_ F8_ F9_ F10_ F11_ F12_ F13_ F14_ F15_ F16_ F17_ F18_ F19_ F20_ F21_ F22_ _ _ X38 e38 N0 (hL)
theorem pd_1 : parseMethodDescriptor "(I)V" = some ⟨[.int], none⟩ := by decide +kernel
theorem d14_0 : decode prog_54_method_3_code 0 = .ok (.aload_n 0, 1) := by decide +kernel
theorem d14_1 : decode prog_54_method_3_code 1 = .ok (.iconst (-1), 1) := by decide +kernel
theorem d14_2 : decode prog_54_method_3_code 2 = .ok (.putfield 51, 3) := by decide +kernel
theorem d14_5 : decode prog_54_method_3_code 5 = .ok (.aload_n 0, 1) := by decide +kernel
theorem d14_6 : decode prog_54_method_3_code 6 = .ok (.iload_n 1, 1) := by decide +kernel
theorem d14_7 : decode prog_54_method_3_code 7 = .ok (.invokevirtual 55, 3) := by decide +kernel
theorem d14_10 : decode prog_54_method_3_code 10 = .ok (.aload_n 0, 1) := by decide +kernel
theorem d14_11 : decode prog_54_method_3_code 11 = .ok (.getfield 51, 3) := by decide +kernel
theorem d14_14 : decode prog_54_method_3_code 14 = .ok (.ifCond .lt 111, 3) := by decide +kernel
theorem d14_17 : decode prog_54_method_3_code 17 = .ok (.aload_n 0, 1) := by decide +kernel
theorem d14_18 : decode prog_54_method_3_code 18 = .ok (.getfield 39, 3) := by decide +kernel
theorem d14_21 : decode prog_54_method_3_code 21 = .ok (.aload_n 0, 1) := by decide +kernel
theorem d14_22 : decode prog_54_method_3_code 22 = .ok (.getfield 51, 3) := by decide +kernel
theorem d14_25 : decode prog_54_method_3_code 25 = .ok (.iaload, 1) := by decide +kernel
theorem d14_26 : decode prog_54_method_3_code 26 = .ok (.istore_n 2, 1) := by decide +kernel
theorem d14_27 : decode prog_54_method_3_code 27 = .ok (.aload_n 0, 1) := by decide +kernel
theorem d14_28 : decode prog_54_method_3_code 28 = .ok (.getfield 42, 3) := by decide +kernel
theorem d14_31 : decode prog_54_method_3_code 31 = .ok (.aload_n 0, 1) := by decide +kernel
theorem d14_32 : decode prog_54_method_3_code 32 = .ok (.getfield 51, 3) := by decide +kernel
theorem d14_35 : decode prog_54_method_3_code 35 = .ok (.iaload, 1) := by decide +kernel
theorem d14_36 : decode prog_54_method_3_code 36 = .ok (.aload_n 0, 1) := by decide +kernel
theorem d14_37 : decode prog_54_method_3_code 37 = .ok (.getfield 23, 3) := by decide +kernel
theorem d14_40 : decode prog_54_method_3_code 40 = .ok (.iload_n 2, 1) := by decide +kernel
theorem d14_41 : decode prog_54_method_3_code 41 = .ok (.iconst 1, 1) := by decide +kernel
theorem d14_42 : decode prog_54_method_3_code 42 = .ok (.iadd, 1) := by decide +kernel
theorem d14_43 : decode prog_54_method_3_code 43 = .ok (.iaload, 1) := by decide +kernel
theorem d14_44 : decode prog_54_method_3_code 44 = .ok (.if_icmp .ge 73, 3) := by decide +kernel
theorem d14_47 : decode prog_54_method_3_code 47 = .ok (.aload_n 0, 1) := by decide +kernel
theorem d14_48 : decode prog_54_method_3_code 48 = .ok (.getfield 26, 3) := by decide +kernel
theorem d14_51 : decode prog_54_method_3_code 51 = .ok (.aload_n 0, 1) := by decide +kernel
theorem d14_52 : decode prog_54_method_3_code 52 = .ok (.getfield 42, 3) := by decide +kernel
theorem d14_55 : decode prog_54_method_3_code 55 = .ok (.aload_n 0, 1) := by decide +kernel
theorem d14_56 : decode prog_54_method_3_code 56 = .ok (.getfield 51, 3) := by decide +kernel
theorem d14_59 : decode prog_54_method_3_code 59 = .ok (.dup2, 1) := by decide +kernel
theorem d14_60 : decode prog_54_method_3_code 60 = .ok (.iaload, 1) := by decide +kernel
theorem d14_61 : decode prog_54_method_3_code 61 = .ok (.dup_x2, 1) := by decide +kernel
theorem d14_62 : decode prog_54_method_3_code 62 = .ok (.iconst 1, 1) := by decide +kernel
theorem d14_63 : decode prog_54_method_3_code 63 = .ok (.iadd, 1) := by decide +kernel
theorem d14_64 : decode prog_54_method_3_code 64 = .ok (.iastore, 1) := by decide +kernel
theorem d14_65 : decode prog_54_method_3_code 65 = .ok (.iaload, 1) := by decide +kernel
theorem d14_66 : decode prog_54_method_3_code 66 = .ok (.istore_n 3, 1) := by decide +kernel
theorem d14_67 : decode prog_54_method_3_code 67 = .ok (.aload_n 0, 1) := by decide +kernel
theorem d14_68 : decode prog_54_method_3_code 68 = .ok (.getfield 7, 3) := by decide +kernel
theorem d14_71 : decode prog_54_method_3_code 71 = .ok (.iload_n 3, 1) := by decide +kernel
theorem d14_72 : decode prog_54_method_3_code 72 = .ok (.iaload, 1) := by decide +kernel
theorem d14_73 : decode prog_54_method_3_code 73 = .ok (.ifCond .ge 11, 3) := by decide +kernel
theorem d14_76 : decode prog_54_method_3_code 76 = .ok (.aload_n 0, 1) := by decide +kernel
theorem d14_77 : decode prog_54_method_3_code 77 = .ok (.iload_n 3, 1) := by decide +kernel
theorem d14_78 : decode prog_54_method_3_code 78 = .ok (.invokevirtual 55, 3) := by decide +kernel
theorem d14_81 : decode prog_54_method_3_code 81 = .ok (.goto 33, 3) := by decide +kernel
theorem d14_84 : decode prog_54_method_3_code 84 = .ok (.aload_n 0, 1) := by decide +kernel
theorem d14_85 : decode prog_54_method_3_code 85 = .ok (.getfield 35, 3) := by decide +kernel
theorem d14_88 : decode prog_54_method_3_code 88 = .ok (.iload_n 3, 1) := by decide +kernel
theorem d14_89 : decode prog_54_method_3_code 89 = .ok (.baload, 1) := by decide +kernel
theorem d14_90 : decode prog_54_method_3_code 90 = .ok (.ifCond .eq 24, 3) := by decide +kernel
theorem d14_93 : decode prog_54_method_3_code 93 = .ok (.aload_n 0, 1) := by decide +kernel
theorem d14_94 : decode prog_54_method_3_code 94 = .ok (.getfield 29, 3) := by decide +kernel
theorem d14_97 : decode prog_54_method_3_code 97 = .ok (.iload_n 2, 1) := by decide +kernel
theorem d14_98 : decode prog_54_method_3_code 98 = .ok (.aload_n 0, 1) := by decide +kernel
theorem d14_99 : decode prog_54_method_3_code 99 = .ok (.getfield 29, 3) := by decide +kernel
theorem d14_102 : decode prog_54_method_3_code 102 = .ok (.iload_n 2, 1) := by decide +kernel
theorem d14_103 : decode prog_54_method_3_code 103 = .ok (.iaload, 1) := by decide +kernel
theorem d14_104 : decode prog_54_method_3_code 104 = .ok (.aload_n 0, 1) := by decide +kernel
theorem d14_105 : decode prog_54_method_3_code 105 = .ok (.getfield 7, 3) := by decide +kernel
theorem d14_108 : decode prog_54_method_3_code 108 = .ok (.iload_n 3, 1) := by decide +kernel
theorem d14_109 : decode prog_54_method_3_code 109 = .ok (.iaload, 1) := by decide +kernel
theorem d14_110 : decode prog_54_method_3_code 110 = .ok (.invokestatic 58, 3) := by decide +kernel
theorem d14_113 : decode prog_54_method_3_code 113 = .ok (.iastore, 1) := by decide +kernel
theorem d14_114 : decode prog_54_method_3_code 114 = .ok (.goto 8, 3) := by decide +kernel
theorem d14_117 : decode prog_54_method_3_code 117 = .ok (.aload_n 0, 1) := by decide +kernel
theorem d14_118 : decode prog_54_method_3_code 118 = .ok (.iload_n 2, 1) := by decide +kernel
theorem d14_119 : decode prog_54_method_3_code 119 = .ok (.invokevirtual 64, 3) := by decide +kernel
theorem d14_122 : decode prog_54_method_3_code 122 = .ok (.goto (-112), 3) := by decide +kernel
theorem d14_125 : decode prog_54_method_3_code 125 = .ok (.return_, 1) := by decide +kernel
theorem ef_rm14 (m : MethodId) (d : Addr) (v1 : Int32) : entryFrame m #[(.ref d), (.int v1)] 4 = mkF m 0 #[.val (.ref d), .val (.int v1), .unset, .unset] [] := by first | (simp [entryFrame, mkF, argsToLocals, Value.category]; done) | rfl
theorem os_rm14_26 {z0 : Value} {z1 : Value} {sl2 : Slot} {sl3 : Slot} {x : Int32} (h : One sl2) : storeLocals #[.val z0, .val z1, sl2, sl3] 2 (.int x) = some #[.val z0, .val z1, .val (.int x), sl3] := by
  rcases h with rfl | ⟨w, rfl, hw⟩
  · rfl
  · cases w <;> first | rfl | (simp [Value.category] at hw)
theorem os_rm14_66 {z0 : Value} {z1 : Value} {z2 : Value} {sl3 : Slot} {x : Int32} (h : One sl3) : storeLocals #[.val z0, .val z1, .val z2, sl3] 3 (.int x) = some #[.val z0, .val z1, .val z2, .val (.int x)] := by
  rcases h with rfl | ⟨w, rfl, hw⟩
  · rfl
  · cases w <;> first | rfl | (simp [Value.category] at hw)
def Q14 (Z : State) (d : Addr) (v1 : Int32) (ast : Addr) (anx : Addr) (aix : Addr) (alo : Addr) (anu : Addr) (ask : Addr) (aos : Addr) (apa : Addr) (aed : Addr) (sl : List Int32) (nl : List Int32) (Sa : own_S) (Sb : own_S) (h0 : Heap) (n0 : Nat) (rv : Option Value) (hq : Heap) (Lq : List Loc) : Prop := rv = none ∧ Fr n0 Lq ∧ Keep h0 hq [d, aix, alo, anu, ask, aos, apa, aed] ∧ Fld Z hq d "com/example/passau/passau/insertion/TwoSat$Components" "start" "[I" (.ref ast) ∧ Fld Z hq d "com/example/passau/passau/insertion/TwoSat$Components" "next" "[I" (.ref anx) ∧ Fld Z hq d "com/example/passau/passau/insertion/TwoSat$Components" "index" "[I" (.ref aix) ∧ Fld Z hq d "com/example/passau/passau/insertion/TwoSat$Components" "low" "[I" (.ref alo) ∧ Fld Z hq d "com/example/passau/passau/insertion/TwoSat$Components" "number" "[I" (.ref anu) ∧ Fld Z hq d "com/example/passau/passau/insertion/TwoSat$Components" "stack" "[I" (.ref ask) ∧ Fld Z hq d "com/example/passau/passau/insertion/TwoSat$Components" "onStack" "[Z" (.ref aos) ∧ Fld Z hq d "com/example/passau/passau/insertion/TwoSat$Components" "path" "[I" (.ref apa) ∧ Fld Z hq d "com/example/passau/passau/insertion/TwoSat$Components" "edge" "[I" (.ref aed) ∧ Fld Z hq d "com/example/passau/passau/insertion/TwoSat$Components" "depth" "I" (.int Sb.dep) ∧ Fld Z hq d "com/example/passau/passau/insertion/TwoSat$Components" "counter" "I" (.int Sb.cnt) ∧ Fld Z hq d "com/example/passau/passau/insertion/TwoSat$Components" "stacked" "I" (.int Sb.stk) ∧ Fld Z hq d "com/example/passau/passau/insertion/TwoSat$Components" "components" "I" (.int Sb.cmp) ∧ own_L Z hq aix .int ((own_il Sb.idx)) ∧ own_L Z hq alo .int ((own_il Sb.low)) ∧ own_L Z hq anu .int ((own_il Sb.num)) ∧ own_L Z hq ask .int ((own_il Sb.sta)) ∧ own_L Z hq aos .boolean ((own_il Sb.ons)) ∧ own_L Z hq apa .int ((own_il Sb.pth)) ∧ own_L Z hq aed .int ((own_il Sb.edg))
set_option maxRecDepth 65536 in
set_option maxHeartbeats 40000000 in
theorem rm14 (l : Launch) (Z : State) (a0 : Array Value) (hw : ∀ d ∈ tables_1, d.before a0 Z = true) (ws : List Jvm.Cond) (d : Addr) (v1 : Int32) (ast : Addr) (anx : Addr) (aix : Addr) (alo : Addr) (anu : Addr) (ask : Addr) (aos : Addr) (apa : Addr) (aed : Addr) (sl : List Int32) (nl : List Int32) (Sa : own_S) (Sb : own_S) (h0 : Heap) (n0 : Nat) (Z0 : n0 ≤ h0.size) (F0_ : Exa Z h0 d "com/example/passau/passau/insertion/TwoSat$Components") (F1_ : Fld Z h0 d "com/example/passau/passau/insertion/TwoSat$Components" "start" "[I" (.ref ast)) (F2_ : Fld Z h0 d "com/example/passau/passau/insertion/TwoSat$Components" "next" "[I" (.ref anx)) (F3_ : Fld Z h0 d "com/example/passau/passau/insertion/TwoSat$Components" "index" "[I" (.ref aix)) (F4_ : Fld Z h0 d "com/example/passau/passau/insertion/TwoSat$Components" "low" "[I" (.ref alo)) (F5_ : Fld Z h0 d "com/example/passau/passau/insertion/TwoSat$Components" "number" "[I" (.ref anu)) (F6_ : Fld Z h0 d "com/example/passau/passau/insertion/TwoSat$Components" "stack" "[I" (.ref ask)) (F7_ : Fld Z h0 d "com/example/passau/passau/insertion/TwoSat$Components" "onStack" "[Z" (.ref aos)) (F8_ : Fld Z h0 d "com/example/passau/passau/insertion/TwoSat$Components" "path" "[I" (.ref apa)) (F9_ : Fld Z h0 d "com/example/passau/passau/insertion/TwoSat$Components" "edge" "[I" (.ref aed)) (F10_ : Fld Z h0 d "com/example/passau/passau/insertion/TwoSat$Components" "depth" "I" (.int Sa.dep)) (F11_ : Fld Z h0 d "com/example/passau/passau/insertion/TwoSat$Components" "counter" "I" (.int Sa.cnt)) (F12_ : Fld Z h0 d "com/example/passau/passau/insertion/TwoSat$Components" "stacked" "I" (.int Sa.stk)) (F13_ : Fld Z h0 d "com/example/passau/passau/insertion/TwoSat$Components" "components" "I" (.int Sa.cmp)) (F14_ : own_L Z h0 aix .int ((own_il Sa.idx))) (F15_ : own_L Z h0 alo .int ((own_il Sa.low))) (F16_ : own_L Z h0 anu .int ((own_il Sa.num))) (F17_ : own_L Z h0 ask .int ((own_il Sa.sta))) (F18_ : own_L Z h0 aos .boolean ((own_il Sa.ons))) (F19_ : own_L Z h0 apa .int ((own_il Sa.pth))) (F20_ : own_L Z h0 aed .int ((own_il Sa.edg))) (F21_ : own_L Z h0 ast .int ((own_il sl))) (F22_ : own_L Z h0 anx .int ((own_il nl))) (ge_d : n0 ≤ d) (ge_aix : n0 ≤ aix) (ge_alo : n0 ≤ alo) (ge_anu : n0 ≤ anu) (ge_ask : n0 ≤ ask) (ge_aos : n0 ≤ aos) (ge_apa : n0 ≤ apa) (ge_aed : n0 ≤ aed) (ne_d_aix : d ≠ aix) (ne_d_alo : d ≠ alo) (ne_d_anu : d ≠ anu) (ne_d_ask : d ≠ ask) (ne_d_aos : d ≠ aos) (ne_d_apa : d ≠ apa) (ne_d_aed : d ≠ aed) (ne_aix_alo : aix ≠ alo) (ne_aix_anu : aix ≠ anu) (ne_aix_ask : aix ≠ ask) (ne_aix_aos : aix ≠ aos) (ne_aix_apa : aix ≠ apa) (ne_aix_aed : aix ≠ aed) (ne_alo_anu : alo ≠ anu) (ne_alo_ask : alo ≠ ask) (ne_alo_aos : alo ≠ aos) (ne_alo_apa : alo ≠ apa) (ne_alo_aed : alo ≠ aed) (ne_anu_ask : anu ≠ ask) (ne_anu_aos : anu ≠ aos) (ne_anu_apa : anu ≠ apa) (ne_anu_aed : anu ≠ aed) (ne_ask_aos : ask ≠ aos) (ne_ask_apa : ask ≠ apa) (ne_ask_aed : ask ≠ aed) (ne_aos_apa : aos ≠ apa) (ne_aos_aed : aos ≠ aed) (ne_apa_aed : apa ≠ aed) (ne_d_ast : d ≠ ast) (ne_d_anx : d ≠ anx) (ne_aix_ast : aix ≠ ast) (ne_aix_anx : aix ≠ anx) (ne_alo_ast : alo ≠ ast) (ne_alo_anx : alo ≠ anx) (ne_anu_ast : anu ≠ ast) (ne_anu_anx : anu ≠ anx) (ne_ask_ast : ask ≠ ast) (ne_ask_anx : ask ≠ anx) (ne_aos_ast : aos ≠ ast) (ne_aos_anx : aos ≠ anx) (ne_apa_ast : apa ≠ ast) (ne_apa_anx : apa ≠ anx) (ne_aed_ast : aed ≠ ast) (ne_aed_anx : aed ≠ anx) (hE : own_walk sl nl v1 Sa = some Sb) :
    MetFree l (⟨"com/example/passau/passau/insertion/TwoSat$Components", "walkFrom", "(I)V"⟩ : MethodName) (head1 (Jvm.Cond.code (⟨"com/example/passau/passau/insertion/TwoSat$Components", "walkFrom", "(I)V"⟩ : MethodName) prog_54_method_3_code 4 none :: ws) ({ frames := 2, cells := 0, slots := 0, locals := 29 } : Room)) (fun za U => za = #[(.ref d), (.int v1)] ∧ Z.Warmed39 U.vm ∧ U.heap = h0) (fun _ _ _ _ _ => True) (fun _ U o U' => ∃ rv Lq, o = .returned rv ∧ Q14 Z d v1 ast anx aix alo anu ask aos apa aed sl nl Sa Sb h0 n0 rv U'.heap Lq ∧ FrameEnd U o U' Lq ({ frames := 2, cells := 0, slots := 0, locals := 29 } : Room).cells ({ frames := 2, cells := 0, slots := 0, locals := 29 } : Room).slots) := by
  refine MetFree.of_bodySF (plainFor_of_name pn_1) hisR ?_
  intro p e s m args below meth c s₁ Bd hml0 hP hK
  obtain ⟨rfl, hZ, hh⟩ := hP
  have hx := Bd.exec
  have hby := Bd.bytes
  have hml : c.maxLocals = 4 := hml0
  have hown : s.vm.findClass "com/example/passau/passau/insertion/TwoSat$Components" = some m.cls := findClass_of_methodNamed Bd.named
  have hnm := (name_of_methodNamed Bd.named Bd.method).1
  have X0 : Stand p l e ({ frames := 2, cells := 0, slots := 0, locals := 29 } : Room) s m #[(.ref d), (.int v1)] below meth c s₁ [] 0 0 := Stand.of_body Bd
  have e0 : s₁.heap = h0 := by rw [← hh, Bd.state]; rfl
  have N0 := Fr.nil n0
  refine own_out (own_nm fun G hG => own_st (fun zt zk => castTop (ef_rm14 m d v1) zk) ?_)
  have hE' := hE
  unfold own_walk at hE'
  obtain ⟨S1, hent, hlp⟩ := own_bd hE'
  show own_Go p e below G (s₁.setTop (mkF m 0 #[.val (.ref d), .val (.int v1), .unset, .unset] []))
  refine own_st (fun zw zk => XS.aloadN X0.here hx rfl (hb hby d14_0) rfl rfl zk) ?_
  refine own_st (fun zw zk => XS.iconst X0.here hx rfl (hb hby d14_1) zk) ?_
  obtain ⟨T58, h58, X58, e58, W58, st58⟩ := putF X0 hx hZ hown (host := "") (Or.inl (hw _ (List.mem_of_getElem? (i := 95) rfl))) Via.refl e0 F10_ F0_ (Or.inl (hw _ (List.mem_of_getElem? (i := 96) rfl))) (hw _ (List.mem_of_getElem? (i := 64) rfl)) (ty := .int) (by decide) rfl rfl (g := (mkF m 2 #[.val (.ref d), .val (.int v1), .unset, .unset] [(.int (-1 : Int32)), (.ref d)])) rfl rfl (hb hby d14_2)
  have F10_58 := F10_.same W58
  have N58 := Fr.snoc X58 N0 ge_d
  refine own_st (fun zw zk => st58 zw zk) ?_
  have F0_58 := F0_.wr W58
  have F1_58 := F1_.other W58 (Or.inr (slot_ne (Or.inr (hw _ (List.mem_of_getElem? (i := 70) rfl))) (Or.inl (hw _ (List.mem_of_getElem? (i := 96) rfl))) (by decide) (t := (.array .int)) (t' := .int) (by decide) (by decide)))
  have F2_58 := F2_.other W58 (Or.inr (slot_ne (Or.inr (hw _ (List.mem_of_getElem? (i := 72) rfl))) (Or.inl (hw _ (List.mem_of_getElem? (i := 96) rfl))) (by decide) (t := (.array .int)) (t' := .int) (by decide) (by decide)))
  have F3_58 := F3_.other W58 (Or.inr (slot_ne (Or.inr (hw _ (List.mem_of_getElem? (i := 74) rfl))) (Or.inl (hw _ (List.mem_of_getElem? (i := 96) rfl))) (by decide) (t := (.array .int)) (t' := .int) (by decide) (by decide)))
  have F4_58 := F4_.other W58 (Or.inr (slot_ne (Or.inr (hw _ (List.mem_of_getElem? (i := 76) rfl))) (Or.inl (hw _ (List.mem_of_getElem? (i := 96) rfl))) (by decide) (t := (.array .int)) (t' := .int) (by decide) (by decide)))
  have F5_58 := F5_.other W58 (Or.inr (slot_ne (Or.inr (hw _ (List.mem_of_getElem? (i := 78) rfl))) (Or.inl (hw _ (List.mem_of_getElem? (i := 96) rfl))) (by decide) (t := (.array .int)) (t' := .int) (by decide) (by decide)))
  have F6_58 := F6_.other W58 (Or.inr (slot_ne (Or.inr (hw _ (List.mem_of_getElem? (i := 80) rfl))) (Or.inl (hw _ (List.mem_of_getElem? (i := 96) rfl))) (by decide) (t := (.array .int)) (t' := .int) (by decide) (by decide)))
  have F7_58 := F7_.other W58 (Or.inr (slot_ne (Or.inr (hw _ (List.mem_of_getElem? (i := 83) rfl))) (Or.inl (hw _ (List.mem_of_getElem? (i := 96) rfl))) (by decide) (t := (.array .boolean)) (t' := .int) (by decide) (by decide)))
  have F8_58 := F8_.other W58 (Or.inr (slot_ne (Or.inr (hw _ (List.mem_of_getElem? (i := 85) rfl))) (Or.inl (hw _ (List.mem_of_getElem? (i := 96) rfl))) (by decide) (t := (.array .int)) (t' := .int) (by decide) (by decide)))
  have F9_58 := F9_.other W58 (Or.inr (slot_ne (Or.inr (hw _ (List.mem_of_getElem? (i := 87) rfl))) (Or.inl (hw _ (List.mem_of_getElem? (i := 96) rfl))) (by decide) (t := (.array .int)) (t' := .int) (by decide) (by decide)))
  have F11_58 := F11_.other W58 (Or.inr (slot_ne (Or.inl (hw _ (List.mem_of_getElem? (i := 102) rfl))) (Or.inl (hw _ (List.mem_of_getElem? (i := 96) rfl))) (by decide) (t := .int) (t' := .int) (by decide) (by decide)))
  have F12_58 := F12_.other W58 (Or.inr (slot_ne (Or.inl (hw _ (List.mem_of_getElem? (i := 104) rfl))) (Or.inl (hw _ (List.mem_of_getElem? (i := 96) rfl))) (by decide) (t := .int) (t' := .int) (by decide) (by decide)))
  have F13_58 := F13_.other W58 (Or.inr (slot_ne (Or.inl (hw _ (List.mem_of_getElem? (i := 110) rfl))) (Or.inl (hw _ (List.mem_of_getElem? (i := 96) rfl))) (by decide) (t := .int) (t' := .int) (by decide) (by decide)))
  have F14_58 := F14_.other W58 (Ne.symm ne_d_aix)
  have F15_58 := F15_.other W58 (Ne.symm ne_d_alo)
  have F16_58 := F16_.other W58 (Ne.symm ne_d_anu)
  have F17_58 := F17_.other W58 (Ne.symm ne_d_ask)
  have F18_58 := F18_.other W58 (Ne.symm ne_d_aos)
  have F19_58 := F19_.other W58 (Ne.symm ne_d_apa)
  have F20_58 := F20_.other W58 (Ne.symm ne_d_aed)
  have F21_58 := F21_.other W58 (Ne.symm ne_d_ast)
  have F22_58 := F22_.other W58 (Ne.symm ne_d_anx)
  have Z58 : n0 ≤ h58.size := Nat.le_trans Z0 (Keep.of_wr W58).1
  have Kp58 := (Keep.refl h0 [d, aix, alo, anu, ask, aos, apa, aed]).wr W58 (Or.inl (List.mem_of_getElem? (i := 0) rfl))
  refine own_st (fun zw zk => XS.aloadN X58.here hx rfl (hb hby d14_5) rfl rfl zk) ?_
  refine own_st (fun zw zk => XS.iloadN X58.here hx rfl (hb hby d14_6) rfl zk) ?_
  obtain ⟨cq59, q59, q59'⟩ := F0_58.cell
  obtain ⟨_, _, ⟨T59, L59, k59, n59⟩, -, X59, ⟨Lc59, hQ59, l59, y59, z59⟩, st59⟩ := X58.privateBack hx (y := (⟨"com/example/passau/passau/insertion/TwoSat$Components", "enter", "(I)V"⟩ : MethodName)) hown (mvT hZ (hw _ (List.mem_of_getElem? (i := 97) rfl))) (mvT hZ (hw _ (List.mem_of_getElem? (i := 98) rfl))) (own_selp hZ (hw _ (List.mem_of_getElem? (i := 64) rfl)) (hw _ (List.mem_of_getElem? (i := 99) rfl)) (hw _ (List.mem_of_getElem? (i := 98) rfl)) (by decide)) (Cond.privateMethod_at (mvP hZ (hw _ (List.mem_of_getElem? (i := 99) rfl)) (args := #[]))) (mvT hZ (hw _ (List.mem_of_getElem? (i := 100) rfl))) (by decide) (backOf (W := 0) (rm15 l Z a0 hw [] d v1 ast anx aix alo anu ask aos apa aed sl nl ((own_S.wdep Sa ((-1 : Int32))) : own_S) S1 h58 n0 Z58 (F0_58) (F1_58) (F2_58) (F3_58) (F4_58) (F5_58) (F6_58) (F7_58) (F8_58) (F9_58) (F10_58) (F11_58) (F12_58) (F13_58) (F14_58) (F15_58) (F16_58) (F17_58) (F18_58) (F19_58) (F20_58) (F21_58) (F22_58) (ge_d) (ge_aix) (ge_alo) (ge_anu) (ge_ask) (ge_aos) (ge_apa) (ge_aed) (ne_d_aix) (ne_d_alo) (ne_d_anu) (ne_d_ask) (ne_d_aos) (ne_d_apa) (ne_d_aed) (ne_aix_alo) (ne_aix_anu) (ne_aix_ask) (ne_aix_aos) (ne_aix_apa) (ne_aix_aed) (ne_alo_anu) (ne_alo_ask) (ne_alo_aos) (ne_alo_apa) (ne_alo_aed) (ne_anu_ask) (ne_anu_aos) (ne_anu_apa) (ne_anu_aed) (ne_ask_aos) (ne_ask_apa) (ne_ask_aed) (ne_aos_apa) (ne_aos_aed) (ne_apa_aed) (ne_d_ast) (ne_d_anx) (ne_aix_ast) (ne_aix_anx) (ne_alo_ast) (ne_alo_anx) (ne_anu_ast) (ne_anu_anx) (ne_ask_ast) (ne_ask_anx) (ne_aos_ast) (ne_aos_anx) (ne_apa_ast) (ne_apa_anx) (ne_aed_ast) (ne_aed_anx) (hent)) hZ (hw _ (List.mem_of_getElem? (i := 100) rfl)) (hw _ (List.mem_of_getElem? (i := 61) rfl)) (by decide) (by decide)) (g := (mkF m 7 #[.val (.ref d), .val (.int v1), .unset, .unset] [(.int v1), (.ref d)])) rfl (by rw [hml]; rfl) (Steps.refl _) (a := d) (by rw [e58]; exact q59) q59' (argsL := [(.int v1)]) (rest := []) (lenOf pd_1 rfl) rfl (by show 2 * 0 + _ ≤ _; exact Nat.le_of_eq rfl) (hb hby d14_7) (fun _ _ => ⟨rfl, e58, (by decide : 0 + 0 ≤ _), (by decide : 0 + 0 ≤ _)⟩)
  dsimp only [Pt.U, Pt.locs, Pt.cells, Pt.slots] at X59 l59 y59 z59 st59 hQ59
  subst l59 y59 z59
  obtain ⟨rfl, N59q, K59, O59_0, O59_1, O59_2, O59_3, O59_4, O59_5, O59_6, O59_7, O59_8, O59_9, O59_10, O59_11, O59_12, O59_13, O59_14, O59_15, O59_16, O59_17, O59_18, O59_19⟩ := hQ59
  have F0_59 := F0_58.keep K59
  have F21_59 := F21_58.keep K59 (ninS (Ne.symm ne_d_ast) (ninS (Ne.symm ne_aix_ast) (ninS (Ne.symm ne_alo_ast) (ninS (Ne.symm ne_anu_ast) (ninS (Ne.symm ne_ask_ast) (ninS (Ne.symm ne_aos_ast) (ninS (Ne.symm ne_apa_ast) (ninS (Ne.symm ne_aed_ast) nin0))))))))
  have F22_59 := F22_58.keep K59 (ninS (Ne.symm ne_d_anx) (ninS (Ne.symm ne_aix_anx) (ninS (Ne.symm ne_alo_anx) (ninS (Ne.symm ne_anu_anx) (ninS (Ne.symm ne_ask_anx) (ninS (Ne.symm ne_aos_anx) (ninS (Ne.symm ne_apa_anx) (ninS (Ne.symm ne_aed_anx) nin0))))))))
  have Z59 : n0 ≤ T59.heap.size := Nat.le_trans Z58 K59.1
  have Kp59 := Kp58.trans K59 (allS (Or.inl (List.mem_of_getElem? (i := 0) rfl)) (allS (Or.inl (List.mem_of_getElem? (i := 1) rfl)) (allS (Or.inl (List.mem_of_getElem? (i := 2) rfl)) (allS (Or.inl (List.mem_of_getElem? (i := 3) rfl)) (allS (Or.inl (List.mem_of_getElem? (i := 4) rfl)) (allS (Or.inl (List.mem_of_getElem? (i := 5) rfl)) (allS (Or.inl (List.mem_of_getElem? (i := 6) rfl)) (allS (Or.inl (List.mem_of_getElem? (i := 7) rfl)) all0))))))))
  have N59 := Fr.app N58 N59q
  refine own_jp st59 ?_
  have loop10_60 : ∀ (bk : Nat) (sl2 : Slot) (sl3 : Slot) (kf : Nat) (Sx : own_S) (hj60 : Heap) (Zj60 : n0 ≤ hj60.size) (Kj60 : Keep h0 hj60 [d, aix, alo, anu, ask, aos, apa, aed]) (Fj60_0 : Exa Z hj60 d "com/example/passau/passau/insertion/TwoSat$Components") (Fj60_1 : Fld Z hj60 d "com/example/passau/passau/insertion/TwoSat$Components" "start" "[I" (.ref ast)) (Fj60_2 : Fld Z hj60 d "com/example/passau/passau/insertion/TwoSat$Components" "next" "[I" (.ref anx)) (Fj60_3 : Fld Z hj60 d "com/example/passau/passau/insertion/TwoSat$Components" "index" "[I" (.ref aix)) (Fj60_4 : Fld Z hj60 d "com/example/passau/passau/insertion/TwoSat$Components" "low" "[I" (.ref alo)) (Fj60_5 : Fld Z hj60 d "com/example/passau/passau/insertion/TwoSat$Components" "number" "[I" (.ref anu)) (Fj60_6 : Fld Z hj60 d "com/example/passau/passau/insertion/TwoSat$Components" "stack" "[I" (.ref ask)) (Fj60_7 : Fld Z hj60 d "com/example/passau/passau/insertion/TwoSat$Components" "onStack" "[Z" (.ref aos)) (Fj60_8 : Fld Z hj60 d "com/example/passau/passau/insertion/TwoSat$Components" "path" "[I" (.ref apa)) (Fj60_9 : Fld Z hj60 d "com/example/passau/passau/insertion/TwoSat$Components" "edge" "[I" (.ref aed)) (Fj60_10 : Fld Z hj60 d "com/example/passau/passau/insertion/TwoSat$Components" "depth" "I" (.int Sx.dep)) (Fj60_11 : Fld Z hj60 d "com/example/passau/passau/insertion/TwoSat$Components" "counter" "I" (.int Sx.cnt)) (Fj60_12 : Fld Z hj60 d "com/example/passau/passau/insertion/TwoSat$Components" "stacked" "I" (.int Sx.stk)) (Fj60_13 : Fld Z hj60 d "com/example/passau/passau/insertion/TwoSat$Components" "components" "I" (.int Sx.cmp)) (Fj60_14 : own_L Z hj60 aix .int ((own_il Sx.idx))) (Fj60_15 : own_L Z hj60 alo .int ((own_il Sx.low))) (Fj60_16 : own_L Z hj60 anu .int ((own_il Sx.num))) (Fj60_17 : own_L Z hj60 ask .int ((own_il Sx.sta))) (Fj60_18 : own_L Z hj60 aos .boolean ((own_il Sx.ons))) (Fj60_19 : own_L Z hj60 apa .int ((own_il Sx.pth))) (Fj60_20 : own_L Z hj60 aed .int ((own_il Sx.edg))) (Fj60_21 : own_L Z hj60 ast .int ((own_il sl))) (Fj60_22 : own_L Z hj60 anx .int ((own_il nl))) (Tj60 : State) (Lj60 : List Loc) (Xj60 : Stand p l e ({ frames := 2, cells := 0, slots := 0, locals := 29 } : Room) s m #[(.ref d), (.int v1)] below meth c Tj60 Lj60 0 0) (ej60 : Tj60.heap = hj60) (Nj60 : Fr n0 Lj60) (hsl2 : One sl2) (hsl3 : One sl3) (hI : own_loop sl nl kf Sx = some Sb) (hbk : kf < bk), own_Go p e below G (Tj60.setTop (mkF m 10 #[.val (.ref d), .val (.int v1), sl2, sl3] [])) := by
    intro bk
    induction bk with
    | zero =>
      intro sl2 sl3 kf Sx hj60 Zj60 Kj60 Fj60_0 Fj60_1 Fj60_2 Fj60_3 Fj60_4 Fj60_5 Fj60_6 Fj60_7 Fj60_8 Fj60_9 Fj60_10 Fj60_11 Fj60_12 Fj60_13 Fj60_14 Fj60_15 Fj60_16 Fj60_17 Fj60_18 Fj60_19 Fj60_20 Fj60_21 Fj60_22 Tj60 Lj60 Xj60 ej60 Nj60 hsl2 hsl3 hI hbk
      exact absurd hbk (Nat.not_lt_zero _)
    | succ bk ih =>
      intro sl2 sl3 kf Sx hj60 Zj60 Kj60 Fj60_0 Fj60_1 Fj60_2 Fj60_3 Fj60_4 Fj60_5 Fj60_6 Fj60_7 Fj60_8 Fj60_9 Fj60_10 Fj60_11 Fj60_12 Fj60_13 Fj60_14 Fj60_15 Fj60_16 Fj60_17 Fj60_18 Fj60_19 Fj60_20 Fj60_21 Fj60_22 Tj60 Lj60 Xj60 ej60 Nj60 hsl2 hsl3 hI hbk
      refine own_st (fun zw zk => XS.aloadN Xj60.here hx rfl (hb hby d14_10) rfl rfl zk) ?_
      obtain ⟨T61, X61, e61, st61⟩ := getF Xj60 hx hZ hown (host := "") (Or.inl (hw _ (List.mem_of_getElem? (i := 95) rfl))) Via.refl ej60 Fj60_10 (g := (mkF m 11 #[.val (.ref d), .val (.int v1), sl2, sl3] [(.ref d)])) rfl rfl (hb hby d14_11)
      refine own_st (fun zw zk => st61 zw zk) ?_
      show own_Go p e below G (T61.setTop (mkF m 14 #[.val (.ref d), .val (.int v1), sl2, sl3] [(.int Sx.dep)]))
      by_cases hc14 : Sx.dep < (0 : Int32)
      · refine own_st (fun zw zk => XS.ifYes X61.here hx rfl (pc0 := 14) (pc' := 125) rfl (hb hby d14_14) rfl ((if0 _ _).trans (tlt hc14).1) (by decide) (by decide) zk) ?_
        have hSb := own_loop_end hI hc14
        subst hG
        obtain ⟨fs, hr, hrun, hended, hW, hsame⟩ := X61.leave (v := none) (hlocks := Bd.notSynchronized) (fun _ => rfl)
        refine ⟨_, X61.returnOut hx Bd.returns (hb hby d14_125) hr, _, hrun, hended, _, _, rfl, ?_, ⟨_, rfl⟩, hW, hsame.mono (by decide) (by decide)⟩
        show Q14 Z d v1 ast anx aix alo anu ask aos apa aed sl nl Sa Sb h0 n0 _ T61.heap _
        rw [e61]
        exact ⟨rfl, Nj60, Kj60, Fj60_1, Fj60_2, Fj60_3, Fj60_4, Fj60_5, Fj60_6, Fj60_7, Fj60_8, Fj60_9, (own_Fi (congrArg (fun z : own_S => z.dep) hSb) Fj60_10), (own_Fi (congrArg (fun z : own_S => z.cnt) hSb) Fj60_11), (own_Fi (congrArg (fun z : own_S => z.stk) hSb) Fj60_12), (own_Fi (congrArg (fun z : own_S => z.cmp) hSb) Fj60_13), (own_Lc (congrArg (fun z : own_S => own_il z.idx) hSb) Fj60_14), (own_Lc (congrArg (fun z : own_S => own_il z.low) hSb) Fj60_15), (own_Lc (congrArg (fun z : own_S => own_il z.num) hSb) Fj60_16), (own_Lc (congrArg (fun z : own_S => own_il z.sta) hSb) Fj60_17), (own_Lc (congrArg (fun z : own_S => own_il z.ons) hSb) Fj60_18), (own_Lc (congrArg (fun z : own_S => own_il z.pth) hSb) Fj60_19), (own_Lc (congrArg (fun z : own_S => own_il z.edg) hSb) Fj60_20)⟩
      · refine own_st (fun zw zk => XS.ifNo X61.here hx rfl (hb hby d14_14) rfl ((if0 _ _).trans (flt hc14).1) zk) ?_
        obtain ⟨kg, v9, e9, u9, hkf, hv9, he9, hu9, hJ⟩ := own_loop_inv hI hc14
        refine own_st (fun zw zk => XS.aloadN X61.here hx rfl (hb hby d14_17) rfl rfl zk) ?_
        obtain ⟨T62, X62, e62, st62⟩ := getF X61 hx hZ hown (host := "") (Or.inl (hw _ (List.mem_of_getElem? (i := 84) rfl))) Via.refl e61 Fj60_8 (g := (mkF m 18 #[.val (.ref d), .val (.int v1), sl2, sl3] [(.ref d)])) rfl rfl (hb hby d14_18)
        refine own_st (fun zw zk => st62 zw zk) ?_
        refine own_st (fun zw zk => XS.aloadN X62.here hx rfl (hb hby d14_21) rfl rfl zk) ?_
        obtain ⟨T63, X63, e63, st63⟩ := getF X62 hx hZ hown (host := "") (Or.inl (hw _ (List.mem_of_getElem? (i := 95) rfl))) Via.refl e62 Fj60_10 (g := (mkF m 22 #[.val (.ref d), .val (.int v1), sl2, sl3] [(.ref d), (.ref apa)])) rfl rfl (hb hby d14_22)
        refine own_st (fun zw zk => st63 zw zk) ?_
        refine own_st (fun zw zk => own_ild X63 hx hZ e63 Fj60_19 (j := Sx.dep) (v := (.int v9)) (i := Sx.dep.toInt.toNat) (own_nn (own_gn hv9)) (own_nat (own_gn hv9)) (own_gv hv9) (g := (mkF m 25 #[.val (.ref d), .val (.int v1), sl2, sl3] [(.int Sx.dep), (.ref apa)])) rfl rfl (hb hby d14_25) _ zk) ?_
        refine own_st (fun zw zk => XS.istoreN X63.here hx rfl (hb hby d14_26) rfl (os_rm14_26 hsl2) zk) ?_
        show own_Go p e below G (T63.setTop (mkF m 27 #[.val (.ref d), .val (.int v1), .val (.int v9), sl3] []))
        refine own_st (fun zw zk => XS.aloadN X63.here hx rfl (hb hby d14_27) rfl rfl zk) ?_
        obtain ⟨T64, X64, e64, st64⟩ := getF X63 hx hZ hown (host := "") (Or.inl (hw _ (List.mem_of_getElem? (i := 86) rfl))) Via.refl e63 Fj60_9 (g := (mkF m 28 #[.val (.ref d), .val (.int v1), .val (.int v9), sl3] [(.ref d)])) rfl rfl (hb hby d14_28)
        refine own_st (fun zw zk => st64 zw zk) ?_
        refine own_st (fun zw zk => XS.aloadN X64.here hx rfl (hb hby d14_31) rfl rfl zk) ?_
        obtain ⟨T65, X65, e65, st65⟩ := getF X64 hx hZ hown (host := "") (Or.inl (hw _ (List.mem_of_getElem? (i := 95) rfl))) Via.refl e64 Fj60_10 (g := (mkF m 32 #[.val (.ref d), .val (.int v1), .val (.int v9), sl3] [(.ref d), (.ref aed)])) rfl rfl (hb hby d14_32)
        refine own_st (fun zw zk => st65 zw zk) ?_
        refine own_st (fun zw zk => own_ild X65 hx hZ e65 Fj60_20 (j := Sx.dep) (v := (.int e9)) (i := Sx.dep.toInt.toNat) (own_nn (own_gn he9)) (own_nat (own_gn he9)) (own_gv he9) (g := (mkF m 35 #[.val (.ref d), .val (.int v1), .val (.int v9), sl3] [(.int Sx.dep), (.ref aed)])) rfl rfl (hb hby d14_35) _ zk) ?_
        refine own_st (fun zw zk => XS.aloadN X65.here hx rfl (hb hby d14_36) rfl rfl zk) ?_
        obtain ⟨T66, X66, e66, st66⟩ := getF X65 hx hZ hown (host := "") (Or.inl (hw _ (List.mem_of_getElem? (i := 69) rfl))) Via.refl e65 Fj60_1 (g := (mkF m 37 #[.val (.ref d), .val (.int v1), .val (.int v9), sl3] [(.ref d), (.int e9)])) rfl rfl (hb hby d14_37)
        refine own_st (fun zw zk => st66 zw zk) ?_
        refine own_st (fun zw zk => XS.iloadN X66.here hx rfl (hb hby d14_40) rfl zk) ?_
        show own_Go p e below G (T66.setTop (mkF m 41 #[.val (.ref d), .val (.int v1), .val (.int v9), sl3] [(.int v9), (.ref ast), (.int e9)]))
        refine own_st (fun zw zk => XS.iconst X66.here hx rfl (hb hby d14_41) zk) ?_
        refine own_st (fun zw zk => XS.iadd X66.here hx rfl (hb hby d14_42) rfl zk) ?_
        refine own_st (fun zw zk => own_ild X66 hx hZ e66 Fj60_21 (j := (v9 + (1 : Int32))) (v := (.int u9)) (i := (v9 + (1 : Int32)).toInt.toNat) (own_nn (own_gn hu9)) (own_nat (own_gn hu9)) (own_gv hu9) (g := (mkF m 43 #[.val (.ref d), .val (.int v1), .val (.int v9), sl3] [(.int (v9 + (1 : Int32))), (.ref ast), (.int e9)])) rfl rfl (hb hby d14_43) _ zk) ?_
        by_cases hc44 : e9 < u9
        · refine own_st (fun zw zk => XS.icmpNo X66.here hx rfl (hb hby d14_44) rfl (tlt hc44).2.1 zk) ?_
          rw [if_pos hc44] at hJ
          obtain ⟨ed1, hed1, hJ⟩ := own_bd hJ
          obtain ⟨w9, hw9, hJ⟩ := own_bd hJ
          obtain ⟨i9, hi9, hJ⟩ := own_bd hJ
          refine own_st (fun zw zk => XS.aloadN X66.here hx rfl (hb hby d14_47) rfl rfl zk) ?_
          obtain ⟨T67, X67, e67, st67⟩ := getF X66 hx hZ hown (host := "") (Or.inl (hw _ (List.mem_of_getElem? (i := 71) rfl))) Via.refl e66 Fj60_2 (g := (mkF m 48 #[.val (.ref d), .val (.int v1), .val (.int v9), sl3] [(.ref d)])) rfl rfl (hb hby d14_48)
          refine own_st (fun zw zk => st67 zw zk) ?_
          refine own_st (fun zw zk => XS.aloadN X67.here hx rfl (hb hby d14_51) rfl rfl zk) ?_
          obtain ⟨T68, X68, e68, st68⟩ := getF X67 hx hZ hown (host := "") (Or.inl (hw _ (List.mem_of_getElem? (i := 86) rfl))) Via.refl e67 Fj60_9 (g := (mkF m 52 #[.val (.ref d), .val (.int v1), .val (.int v9), sl3] [(.ref d), (.ref anx)])) rfl rfl (hb hby d14_52)
          refine own_st (fun zw zk => st68 zw zk) ?_
          show own_Go p e below G (T68.setTop (mkF m 55 #[.val (.ref d), .val (.int v1), .val (.int v9), sl3] [(.ref aed), (.ref anx)]))
          refine own_st (fun zw zk => XS.aloadN X68.here hx rfl (hb hby d14_55) rfl rfl zk) ?_
          obtain ⟨T69, X69, e69, st69⟩ := getF X68 hx hZ hown (host := "") (Or.inl (hw _ (List.mem_of_getElem? (i := 95) rfl))) Via.refl e68 Fj60_10 (g := (mkF m 56 #[.val (.ref d), .val (.int v1), .val (.int v9), sl3] [(.ref d), (.ref aed), (.ref anx)])) rfl rfl (hb hby d14_56)
          refine own_st (fun zw zk => st69 zw zk) ?_
          refine own_st (fun zw zk => XT.dup2 X69.here hx rfl (hb hby d14_59) rfl rfl rfl zk) ?_
          refine own_st (fun zw zk => own_ild X69 hx hZ e69 Fj60_20 (j := Sx.dep) (v := (.int e9)) (i := Sx.dep.toInt.toNat) (own_nn (own_gn he9)) (own_nat (own_gn he9)) (own_gv he9) (g := (mkF m 60 #[.val (.ref d), .val (.int v1), .val (.int v9), sl3] [(.int Sx.dep), (.ref aed), (.int Sx.dep), (.ref aed), (.ref anx)])) rfl rfl (hb hby d14_60) _ zk) ?_
          show own_Go p e below G (T69.setTop (mkF m 61 #[.val (.ref d), .val (.int v1), .val (.int v9), sl3] [(.int e9), (.int Sx.dep), (.ref aed), (.ref anx)]))
          refine own_st (u := T69.setTop (mkF m 62 #[.val (.ref d), .val (.int v1), .val (.int v9), sl3] [(.int e9), (.int Sx.dep), (.ref aed), (.int e9), (.ref anx)])) (fun zw zk => by jvm_step X69.here [X69.here.top, hx, (hb hby d14_61), Value.category]; exact zk) ?_
          refine own_st (fun zw zk => XS.iconst X69.here hx rfl (hb hby d14_62) zk) ?_
          refine own_st (fun zw zk => XS.iadd X69.here hx rfl (hb hby d14_63) rfl zk) ?_
          obtain ⟨T70, h70, X70, e70, W70, V70, st70⟩ := own_ist X69 hx hZ e69 Fj60_20 (j := Sx.dep) (Sx.dep.toInt.toNat) (own_nn (own_sn hed1)) (own_nat (own_sn hed1)) (own_sl hed1) (g := (mkF m 64 #[.val (.ref d), .val (.int v1), .val (.int v9), sl3] [(.int (e9 + (1 : Int32))), (.int Sx.dep), (.ref aed), (.int e9), (.ref anx)])) rfl rfl (hb hby d14_64)
          have Fj6020_70 : own_L Z h70 aed .int ((own_il ed1)) := (own_Lc (own_se hed1) V70)
          have N70 := Fr.snoc X70 Nj60 ge_aed
          refine own_st (fun zw zk => st70 zw zk) ?_
          have Fj600_70 := Fj60_0.wr W70
          have Fj601_70 := Fj60_1.other W70 (Or.inl ne_d_aed)
          have Fj602_70 := Fj60_2.other W70 (Or.inl ne_d_aed)
          have Fj603_70 := Fj60_3.other W70 (Or.inl ne_d_aed)
          have Fj604_70 := Fj60_4.other W70 (Or.inl ne_d_aed)
          have Fj605_70 := Fj60_5.other W70 (Or.inl ne_d_aed)
          have Fj606_70 := Fj60_6.other W70 (Or.inl ne_d_aed)
          have Fj607_70 := Fj60_7.other W70 (Or.inl ne_d_aed)
          have Fj608_70 := Fj60_8.other W70 (Or.inl ne_d_aed)
          have Fj609_70 := Fj60_9.other W70 (Or.inl ne_d_aed)
          have Fj6010_70 := Fj60_10.other W70 (Or.inl ne_d_aed)
          have Fj6011_70 := Fj60_11.other W70 (Or.inl ne_d_aed)
          have Fj6012_70 := Fj60_12.other W70 (Or.inl ne_d_aed)
          have Fj6013_70 := Fj60_13.other W70 (Or.inl ne_d_aed)
          have Fj6014_70 := Fj60_14.other W70 ne_aix_aed
          have Fj6015_70 := Fj60_15.other W70 ne_alo_aed
          have Fj6016_70 := Fj60_16.other W70 ne_anu_aed
          have Fj6017_70 := Fj60_17.other W70 ne_ask_aed
          have Fj6018_70 := Fj60_18.other W70 ne_aos_aed
          have Fj6019_70 := Fj60_19.other W70 ne_apa_aed
          have Fj6021_70 := Fj60_21.other W70 (Ne.symm ne_aed_ast)
          have Fj6022_70 := Fj60_22.other W70 (Ne.symm ne_aed_anx)
          have Z70 : n0 ≤ h70.size := Nat.le_trans Zj60 (Keep.of_wr W70).1
          have Kp70 := Kj60.wr W70 (Or.inl (List.mem_of_getElem? (i := 7) rfl))
          refine own_st (fun zw zk => own_ild X70 hx hZ e70 Fj6022_70 (j := e9) (v := (.int w9)) (i := e9.toInt.toNat) (own_nn (own_gn hw9)) (own_nat (own_gn hw9)) (own_gv hw9) (g := (mkF m 65 #[.val (.ref d), .val (.int v1), .val (.int v9), sl3] [(.int e9), (.ref anx)])) rfl rfl (hb hby d14_65) _ zk) ?_
          refine own_st (fun zw zk => XS.istoreN X70.here hx rfl (hb hby d14_66) rfl (os_rm14_66 hsl3) zk) ?_
          show own_Go p e below G (T70.setTop (mkF m 67 #[.val (.ref d), .val (.int v1), .val (.int v9), .val (.int w9)] []))
          refine own_st (fun zw zk => XS.aloadN X70.here hx rfl (hb hby d14_67) rfl rfl zk) ?_
          obtain ⟨T71, X71, e71, st71⟩ := getF X70 hx hZ hown (host := "") (Or.inl (hw _ (List.mem_of_getElem? (i := 73) rfl))) Via.refl e70 Fj603_70 (g := (mkF m 68 #[.val (.ref d), .val (.int v1), .val (.int v9), .val (.int w9)] [(.ref d)])) rfl rfl (hb hby d14_68)
          refine own_st (fun zw zk => st71 zw zk) ?_
          refine own_st (fun zw zk => XS.iloadN X71.here hx rfl (hb hby d14_71) rfl zk) ?_
          refine own_st (fun zw zk => own_ild X71 hx hZ e71 Fj6014_70 (j := w9) (v := (.int i9)) (i := w9.toInt.toNat) (own_nn (own_gn hi9)) (own_nat (own_gn hi9)) (own_gv hi9) (g := (mkF m 72 #[.val (.ref d), .val (.int v1), .val (.int v9), .val (.int w9)] [(.int w9), (.ref aix)])) rfl rfl (hb hby d14_72) _ zk) ?_
          by_cases hc73 : i9 < (0 : Int32)
          · refine own_st (fun zw zk => XS.ifNo X71.here hx rfl (hb hby d14_73) rfl ((if0 _ _).trans (tlt hc73).2.1) zk) ?_
            rw [if_pos hc73] at hJ
            obtain ⟨S2, hent2, hJ⟩ := own_bd hJ
            refine own_st (fun zw zk => XS.aloadN X71.here hx rfl (hb hby d14_76) rfl rfl zk) ?_
            refine own_st (fun zw zk => XS.iloadN X71.here hx rfl (hb hby d14_77) rfl zk) ?_
            obtain ⟨cq72, q72, q72'⟩ := Fj600_70.cell
            obtain ⟨_, _, ⟨T72, L72, k72, n72⟩, -, X72, ⟨Lc72, hQ72, l72, y72, z72⟩, st72⟩ := X71.privateBack hx (y := (⟨"com/example/passau/passau/insertion/TwoSat$Components", "enter", "(I)V"⟩ : MethodName)) hown (mvT hZ (hw _ (List.mem_of_getElem? (i := 97) rfl))) (mvT hZ (hw _ (List.mem_of_getElem? (i := 98) rfl))) (own_selp hZ (hw _ (List.mem_of_getElem? (i := 64) rfl)) (hw _ (List.mem_of_getElem? (i := 99) rfl)) (hw _ (List.mem_of_getElem? (i := 98) rfl)) (by decide)) (Cond.privateMethod_at (mvP hZ (hw _ (List.mem_of_getElem? (i := 99) rfl)) (args := #[]))) (mvT hZ (hw _ (List.mem_of_getElem? (i := 100) rfl))) (by decide) (backOf (W := 0) (rm15 l Z a0 hw [] d w9 ast anx aix alo anu ask aos apa aed sl nl ((own_S.wedg Sx (ed1)) : own_S) S2 h70 n0 Z70 (Fj600_70) (Fj601_70) (Fj602_70) (Fj603_70) (Fj604_70) (Fj605_70) (Fj606_70) (Fj607_70) (Fj608_70) (Fj609_70) (Fj6010_70) (Fj6011_70) (Fj6012_70) (Fj6013_70) (Fj6014_70) (Fj6015_70) (Fj6016_70) (Fj6017_70) (Fj6018_70) (Fj6019_70) (Fj6020_70) (Fj6021_70) (Fj6022_70) (ge_d) (ge_aix) (ge_alo) (ge_anu) (ge_ask) (ge_aos) (ge_apa) (ge_aed) (ne_d_aix) (ne_d_alo) (ne_d_anu) (ne_d_ask) (ne_d_aos) (ne_d_apa) (ne_d_aed) (ne_aix_alo) (ne_aix_anu) (ne_aix_ask) (ne_aix_aos) (ne_aix_apa) (ne_aix_aed) (ne_alo_anu) (ne_alo_ask) (ne_alo_aos) (ne_alo_apa) (ne_alo_aed) (ne_anu_ask) (ne_anu_aos) (ne_anu_apa) (ne_anu_aed) (ne_ask_aos) (ne_ask_apa) (ne_ask_aed) (ne_aos_apa) (ne_aos_aed) (ne_apa_aed) (ne_d_ast) (ne_d_anx) (ne_aix_ast) (ne_aix_anx) (ne_alo_ast) (ne_alo_anx) (ne_anu_ast) (ne_anu_anx) (ne_ask_ast) (ne_ask_anx) (ne_aos_ast) (ne_aos_anx) (ne_apa_ast) (ne_apa_anx) (ne_aed_ast) (ne_aed_anx) (hent2)) hZ (hw _ (List.mem_of_getElem? (i := 100) rfl)) (hw _ (List.mem_of_getElem? (i := 61) rfl)) (by decide) (by decide)) (g := (mkF m 78 #[.val (.ref d), .val (.int v1), .val (.int v9), .val (.int w9)] [(.int w9), (.ref d)])) rfl (by rw [hml]; rfl) (Steps.refl _) (a := d) (by rw [e71]; exact q72) q72' (argsL := [(.int w9)]) (rest := []) (lenOf pd_1 rfl) rfl (by show 2 * 0 + _ ≤ _; exact Nat.le_of_eq rfl) (hb hby d14_78) (fun _ _ => ⟨rfl, e71, (by decide : 0 + 0 ≤ _), (by decide : 0 + 0 ≤ _)⟩)
            dsimp only [Pt.U, Pt.locs, Pt.cells, Pt.slots] at X72 l72 y72 z72 st72 hQ72
            subst l72 y72 z72
            obtain ⟨rfl, N72q, K72, O72_0, O72_1, O72_2, O72_3, O72_4, O72_5, O72_6, O72_7, O72_8, O72_9, O72_10, O72_11, O72_12, O72_13, O72_14, O72_15, O72_16, O72_17, O72_18, O72_19⟩ := hQ72
            have Fj600_72 := Fj600_70.keep K72
            have Fj6021_72 := Fj6021_70.keep K72 (ninS (Ne.symm ne_d_ast) (ninS (Ne.symm ne_aix_ast) (ninS (Ne.symm ne_alo_ast) (ninS (Ne.symm ne_anu_ast) (ninS (Ne.symm ne_ask_ast) (ninS (Ne.symm ne_aos_ast) (ninS (Ne.symm ne_apa_ast) (ninS (Ne.symm ne_aed_ast) nin0))))))))
            have Fj6022_72 := Fj6022_70.keep K72 (ninS (Ne.symm ne_d_anx) (ninS (Ne.symm ne_aix_anx) (ninS (Ne.symm ne_alo_anx) (ninS (Ne.symm ne_anu_anx) (ninS (Ne.symm ne_ask_anx) (ninS (Ne.symm ne_aos_anx) (ninS (Ne.symm ne_apa_anx) (ninS (Ne.symm ne_aed_anx) nin0))))))))
            have Z72 : n0 ≤ T72.heap.size := Nat.le_trans Z70 K72.1
            have Kp72 := Kp70.trans K72 (allS (Or.inl (List.mem_of_getElem? (i := 0) rfl)) (allS (Or.inl (List.mem_of_getElem? (i := 1) rfl)) (allS (Or.inl (List.mem_of_getElem? (i := 2) rfl)) (allS (Or.inl (List.mem_of_getElem? (i := 3) rfl)) (allS (Or.inl (List.mem_of_getElem? (i := 4) rfl)) (allS (Or.inl (List.mem_of_getElem? (i := 5) rfl)) (allS (Or.inl (List.mem_of_getElem? (i := 6) rfl)) (allS (Or.inl (List.mem_of_getElem? (i := 7) rfl)) all0))))))))
            have N72 := Fr.app N70 N72q
            refine own_jp st72 ?_
            show own_Go p e below G (T72.setTop (mkF m 81 #[.val (.ref d), .val (.int v1), .val (.int v9), .val (.int w9)] []))
            refine own_st (fun zw zk => XS.goto X72.here hx rfl (pc0 := 81) (pc' := 114) rfl (hb hby d14_81) (by decide) (by decide) zk) ?_
            show own_Go p e below G (T72.setTop (mkF m 114 #[.val (.ref d), .val (.int v1), .val (.int v9), .val (.int w9)] []))
            refine own_st (fun zw zk => XS.goto X72.here hx rfl (pc0 := 114) (pc' := 122) rfl (hb hby d14_114) (by decide) (by decide) zk) ?_
            show own_Go p e below G (T72.setTop (mkF m 122 #[.val (.ref d), .val (.int v1), .val (.int v9), .val (.int w9)] []))
            refine own_st (fun zw zk => XS.goto X72.here hx rfl (pc0 := 122) (pc' := 10) rfl (hb hby d14_122) (by decide) (by decide) zk) ?_
            show own_Go p e below G (T72.setTop (mkF m 10 #[.val (.ref d), .val (.int v1), .val (.int v9), .val (.int w9)] []))
            exact ih (.val (.int v9)) (.val (.int w9)) (kg) (S2) _ Z72 Kp72 Fj600_72 O72_0 O72_1 O72_2 O72_3 O72_4 O72_5 O72_6 O72_7 O72_8 O72_9 O72_10 O72_11 O72_12 O72_13 O72_14 O72_15 O72_16 O72_17 O72_18 O72_19 Fj6021_72 Fj6022_72 _ _ X72 rfl N72 (Or.inr ⟨_, rfl, rfl⟩) (Or.inr ⟨_, rfl, rfl⟩) (hJ) (by omega)
          · refine own_st (fun zw zk => XS.ifYes X71.here hx rfl (pc0 := 73) (pc' := 84) rfl (hb hby d14_73) rfl ((if0 _ _).trans (flt hc73).2.1) (by decide) (by decide) zk) ?_
            rw [if_neg hc73] at hJ
            obtain ⟨o9, ho9, hJ⟩ := own_bd hJ
            refine own_st (fun zw zk => XS.aloadN X71.here hx rfl (hb hby d14_84) rfl rfl zk) ?_
            obtain ⟨T73, X73, e73, st73⟩ := getF X71 hx hZ hown (host := "") (Or.inl (hw _ (List.mem_of_getElem? (i := 82) rfl))) Via.refl e71 Fj607_70 (g := (mkF m 85 #[.val (.ref d), .val (.int v1), .val (.int v9), .val (.int w9)] [(.ref d)])) rfl rfl (hb hby d14_85)
            refine own_st (fun zw zk => st73 zw zk) ?_
            refine own_st (fun zw zk => XS.iloadN X73.here hx rfl (hb hby d14_88) rfl zk) ?_
            show own_Go p e below G (T73.setTop (mkF m 89 #[.val (.ref d), .val (.int v1), .val (.int v9), .val (.int w9)] [(.int w9), (.ref aos)]))
            refine own_st (fun zw zk => own_zld X73 hx hZ e73 Fj6018_70 (j := w9) (v := (.int o9)) (i := w9.toInt.toNat) (own_nn (own_gn ho9)) (own_nat (own_gn ho9)) (own_gv ho9) (g := (mkF m 89 #[.val (.ref d), .val (.int v1), .val (.int v9), .val (.int w9)] [(.int w9), (.ref aos)])) rfl rfl (hb hby d14_89) _ zk) ?_
            by_cases hc90 : o9 = (0 : Int32)
            · refine own_st (fun zw zk => XS.ifYes X73.here hx rfl (pc0 := 90) (pc' := 114) rfl (hb hby d14_90) rfl ((if0 _ _).trans (teq hc90).1) (by decide) (by decide) zk) ?_
              rw [if_pos hc90] at hJ
              refine own_st (fun zw zk => XS.goto X73.here hx rfl (pc0 := 114) (pc' := 122) rfl (hb hby d14_114) (by decide) (by decide) zk) ?_
              show own_Go p e below G (T73.setTop (mkF m 122 #[.val (.ref d), .val (.int v1), .val (.int v9), .val (.int w9)] []))
              refine own_st (fun zw zk => XS.goto X73.here hx rfl (pc0 := 122) (pc' := 10) rfl (hb hby d14_122) (by decide) (by decide) zk) ?_
              show own_Go p e below G (T73.setTop (mkF m 10 #[.val (.ref d), .val (.int v1), .val (.int v9), .val (.int w9)] []))
              exact ih (.val (.int v9)) (.val (.int w9)) (kg) (((own_S.wedg Sx (ed1)) : own_S)) _ Z70 Kp70 Fj600_70 Fj601_70 Fj602_70 Fj603_70 Fj604_70 Fj605_70 Fj606_70 Fj607_70 Fj608_70 Fj609_70 Fj6010_70 Fj6011_70 Fj6012_70 Fj6013_70 Fj6014_70 Fj6015_70 Fj6016_70 Fj6017_70 Fj6018_70 Fj6019_70 Fj6020_70 Fj6021_70 Fj6022_70 _ _ X73 e73 N70 (Or.inr ⟨_, rfl, rfl⟩) (Or.inr ⟨_, rfl, rfl⟩) (hJ) (by omega)
            · refine own_st (fun zw zk => XS.ifNo X73.here hx rfl (hb hby d14_90) rfl ((if0 _ _).trans (feq hc90).1) zk) ?_
              rw [if_neg hc90] at hJ
              obtain ⟨a9, ha9, hJ⟩ := own_bd hJ
              obtain ⟨lo1, hlo1, hJ⟩ := own_bd hJ
              refine own_st (fun zw zk => XS.aloadN X73.here hx rfl (hb hby d14_93) rfl rfl zk) ?_
              obtain ⟨T74, X74, e74, st74⟩ := getF X73 hx hZ hown (host := "") (Or.inl (hw _ (List.mem_of_getElem? (i := 75) rfl))) Via.refl e73 Fj604_70 (g := (mkF m 94 #[.val (.ref d), .val (.int v1), .val (.int v9), .val (.int w9)] [(.ref d)])) rfl rfl (hb hby d14_94)
              refine own_st (fun zw zk => st74 zw zk) ?_
              refine own_st (fun zw zk => XS.iloadN X74.here hx rfl (hb hby d14_97) rfl zk) ?_
              refine own_st (fun zw zk => XS.aloadN X74.here hx rfl (hb hby d14_98) rfl rfl zk) ?_
              obtain ⟨T75, X75, e75, st75⟩ := getF X74 hx hZ hown (host := "") (Or.inl (hw _ (List.mem_of_getElem? (i := 75) rfl))) Via.refl e74 Fj604_70 (g := (mkF m 99 #[.val (.ref d), .val (.int v1), .val (.int v9), .val (.int w9)] [(.ref d), (.int v9), (.ref alo)])) rfl rfl (hb hby d14_99)
              refine own_st (fun zw zk => st75 zw zk) ?_
              refine own_st (fun zw zk => XS.iloadN X75.here hx rfl (hb hby d14_102) rfl zk) ?_
              show own_Go p e below G (T75.setTop (mkF m 103 #[.val (.ref d), .val (.int v1), .val (.int v9), .val (.int w9)] [(.int v9), (.ref alo), (.int v9), (.ref alo)]))
              refine own_st (fun zw zk => own_ild X75 hx hZ e75 Fj6015_70 (j := v9) (v := (.int a9)) (i := v9.toInt.toNat) (own_nn (own_gn ha9)) (own_nat (own_gn ha9)) (own_gv ha9) (g := (mkF m 103 #[.val (.ref d), .val (.int v1), .val (.int v9), .val (.int w9)] [(.int v9), (.ref alo), (.int v9), (.ref alo)])) rfl rfl (hb hby d14_103) _ zk) ?_
              refine own_st (fun zw zk => XS.aloadN X75.here hx rfl (hb hby d14_104) rfl rfl zk) ?_
              obtain ⟨T76, X76, e76, st76⟩ := getF X75 hx hZ hown (host := "") (Or.inl (hw _ (List.mem_of_getElem? (i := 73) rfl))) Via.refl e75 Fj603_70 (g := (mkF m 105 #[.val (.ref d), .val (.int v1), .val (.int v9), .val (.int w9)] [(.ref d), (.int a9), (.int v9), (.ref alo)])) rfl rfl (hb hby d14_105)
              refine own_st (fun zw zk => st76 zw zk) ?_
              refine own_st (fun zw zk => XS.iloadN X76.here hx rfl (hb hby d14_108) rfl zk) ?_
              refine own_st (fun zw zk => own_ild X76 hx hZ e76 Fj6014_70 (j := w9) (v := (.int i9)) (i := w9.toInt.toNat) (own_nn (own_gn hi9)) (own_nat (own_gn hi9)) (own_gv hi9) (g := (mkF m 109 #[.val (.ref d), .val (.int v1), .val (.int v9), .val (.int w9)] [(.int w9), (.ref aix), (.int a9), (.int v9), (.ref alo)])) rfl rfl (hb hby d14_109) _ zk) ?_
              obtain ⟨_, _, ⟨T77, L77, k77, n77⟩, -, X77, ⟨Lc77, hQ77, l77, y77, z77⟩, st77⟩ := Jvm.LawKit.callS X76 hx (y := (⟨"java/lang/Math", "min", "(II)I"⟩ : MethodName)) hown (mvT hZ (hw _ (List.mem_of_getElem? (i := 111) rfl))) (mvT hZ (hw _ (List.mem_of_getElem? (i := 52) rfl))) (mvT hZ (hw _ (List.mem_of_getElem? (i := 53) rfl))) (mvT hZ (hw _ (List.mem_of_getElem? (i := 54) rfl))) (by decide) (backOf (W := 2) (rm10 l Z a0 hw [] a9 i9 h70 n0 Z70) hZ (hw _ (List.mem_of_getElem? (i := 54) rfl)) (hw _ (List.mem_of_getElem? (i := 53) rfl)) (by decide) (by decide)) (g := (mkF m 110 #[.val (.ref d), .val (.int v1), .val (.int v9), .val (.int w9)] [(.int i9), (.int a9), (.int v9), (.ref alo)])) rfl (by rw [hml]; rfl) (argsL := [(.int a9), (.int i9)]) (rest := [(.int v9), (.ref alo)]) (lenOf pd_0 rfl) rfl (by show 2 * 0 + _ ≤ _; exact Nat.le_of_eq rfl) (hb hby d14_110) (fun _ _ => ⟨rfl, e76, (by decide : 0 + 0 ≤ _), (by decide : 0 + 0 ≤ _)⟩)
              dsimp only [Pt.U, Pt.locs, Pt.cells, Pt.slots] at X77 l77 y77 z77 st77 hQ77
              subst l77 y77 z77
              obtain ⟨rfl, N77q, e77⟩ := hQ77
              have N77 := Fr.app N70 N77q
              refine own_st (fun zw zk => st77 zw zk) ?_
              obtain ⟨T78, h78, X78, e78, W78, V78, st78⟩ := own_ist X77 hx hZ e77 Fj6015_70 (j := v9) (v9.toInt.toNat) (own_nn (own_sn hlo1)) (own_nat (own_sn hlo1)) (own_sl hlo1) (g := (mkF m 113 #[.val (.ref d), .val (.int v1), .val (.int v9), .val (.int w9)] [(.int (own_mn a9 i9)), (.int v9), (.ref alo)])) rfl rfl (hb hby d14_113)
              have Fj6015_78 : own_L Z h78 alo .int ((own_il lo1)) := (own_Lc (own_se hlo1) V78)
              have N78 := Fr.snoc X78 N77 ge_alo
              refine own_st (fun zw zk => st78 zw zk) ?_
              have Fj600_78 := Fj600_70.wr W78
              have Fj601_78 := Fj601_70.other W78 (Or.inl ne_d_alo)
              have Fj602_78 := Fj602_70.other W78 (Or.inl ne_d_alo)
              have Fj603_78 := Fj603_70.other W78 (Or.inl ne_d_alo)
              have Fj604_78 := Fj604_70.other W78 (Or.inl ne_d_alo)
              have Fj605_78 := Fj605_70.other W78 (Or.inl ne_d_alo)
              have Fj606_78 := Fj606_70.other W78 (Or.inl ne_d_alo)
              have Fj607_78 := Fj607_70.other W78 (Or.inl ne_d_alo)
              have Fj608_78 := Fj608_70.other W78 (Or.inl ne_d_alo)
              have Fj609_78 := Fj609_70.other W78 (Or.inl ne_d_alo)
              have Fj6010_78 := Fj6010_70.other W78 (Or.inl ne_d_alo)
              have Fj6011_78 := Fj6011_70.other W78 (Or.inl ne_d_alo)
              have Fj6012_78 := Fj6012_70.other W78 (Or.inl ne_d_alo)
              have Fj6013_78 := Fj6013_70.other W78 (Or.inl ne_d_alo)
              have Fj6014_78 := Fj6014_70.other W78 ne_aix_alo
              have Fj6016_78 := Fj6016_70.other W78 (Ne.symm ne_alo_anu)
              have Fj6017_78 := Fj6017_70.other W78 (Ne.symm ne_alo_ask)
              have Fj6018_78 := Fj6018_70.other W78 (Ne.symm ne_alo_aos)
              have Fj6019_78 := Fj6019_70.other W78 (Ne.symm ne_alo_apa)
              have Fj6021_78 := Fj6021_70.other W78 (Ne.symm ne_alo_ast)
              have Fj6022_78 := Fj6022_70.other W78 (Ne.symm ne_alo_anx)
              have Fj6020_78 := Fj6020_70.other W78 (Ne.symm ne_alo_aed)
              have Z78 : n0 ≤ h78.size := Nat.le_trans Z70 (Keep.of_wr W78).1
              have Kp78 := Kp70.wr W78 (Or.inl (List.mem_of_getElem? (i := 2) rfl))
              refine own_st (fun zw zk => XS.goto X78.here hx rfl (pc0 := 114) (pc' := 122) rfl (hb hby d14_114) (by decide) (by decide) zk) ?_
              show own_Go p e below G (T78.setTop (mkF m 122 #[.val (.ref d), .val (.int v1), .val (.int v9), .val (.int w9)] []))
              refine own_st (fun zw zk => XS.goto X78.here hx rfl (pc0 := 122) (pc' := 10) rfl (hb hby d14_122) (by decide) (by decide) zk) ?_
              show own_Go p e below G (T78.setTop (mkF m 10 #[.val (.ref d), .val (.int v1), .val (.int v9), .val (.int w9)] []))
              exact ih (.val (.int v9)) (.val (.int w9)) (kg) (((own_S.wlow (own_S.wedg Sx (ed1)) (lo1)) : own_S)) _ Z78 Kp78 Fj600_78 Fj601_78 Fj602_78 Fj603_78 Fj604_78 Fj605_78 Fj606_78 Fj607_78 Fj608_78 Fj609_78 Fj6010_78 Fj6011_78 Fj6012_78 Fj6013_78 Fj6014_78 Fj6015_78 Fj6016_78 Fj6017_78 Fj6018_78 Fj6019_78 Fj6020_78 Fj6021_78 Fj6022_78 _ _ X78 e78 N78 (Or.inr ⟨_, rfl, rfl⟩) (Or.inr ⟨_, rfl, rfl⟩) (hJ) (by omega)
        · refine own_st (fun zw zk => XS.icmpYes X66.here hx rfl (pc0 := 44) (pc' := 117) rfl (hb hby d14_44) rfl (flt hc44).2.1 (by decide) (by decide) zk) ?_
          rw [if_neg hc44] at hJ
          obtain ⟨S2, hlv, hJ⟩ := own_bd hJ
          refine own_st (fun zw zk => XS.aloadN X66.here hx rfl (hb hby d14_117) rfl rfl zk) ?_
          refine own_st (fun zw zk => XS.iloadN X66.here hx rfl (hb hby d14_118) rfl zk) ?_
          obtain ⟨cq79, q79, q79'⟩ := Fj60_0.cell
          obtain ⟨_, _, ⟨T79, L79, k79, n79⟩, -, X79, ⟨Lc79, hQ79, l79, y79, z79⟩, st79⟩ := X66.privateBack hx (y := (⟨"com/example/passau/passau/insertion/TwoSat$Components", "leave", "(I)V"⟩ : MethodName)) hown (mvT hZ (hw _ (List.mem_of_getElem? (i := 105) rfl))) (mvT hZ (hw _ (List.mem_of_getElem? (i := 106) rfl))) (own_selp hZ (hw _ (List.mem_of_getElem? (i := 64) rfl)) (hw _ (List.mem_of_getElem? (i := 107) rfl)) (hw _ (List.mem_of_getElem? (i := 106) rfl)) (by decide)) (Cond.privateMethod_at (mvP hZ (hw _ (List.mem_of_getElem? (i := 107) rfl)) (args := #[]))) (mvT hZ (hw _ (List.mem_of_getElem? (i := 108) rfl))) (by decide) (backOf (W := 0) (rm16 l Z a0 hw [] d v9 ast anx aix alo anu ask aos apa aed sl nl Sx S2 hj60 n0 Zj60 (Fj60_0) (Fj60_1) (Fj60_2) (Fj60_3) (Fj60_4) (Fj60_5) (Fj60_6) (Fj60_7) (Fj60_8) (Fj60_9) (Fj60_10) (Fj60_11) (Fj60_12) (Fj60_13) (Fj60_14) (Fj60_15) (Fj60_16) (Fj60_17) (Fj60_18) (Fj60_19) (Fj60_20) (Fj60_21) (Fj60_22) (ge_d) (ge_aix) (ge_alo) (ge_anu) (ge_ask) (ge_aos) (ge_apa) (ge_aed) (ne_d_aix) (ne_d_alo) (ne_d_anu) (ne_d_ask) (ne_d_aos) (ne_d_apa) (ne_d_aed) (ne_aix_alo) (ne_aix_anu) (ne_aix_ask) (ne_aix_aos) (ne_aix_apa) (ne_aix_aed) (ne_alo_anu) (ne_alo_ask) (ne_alo_aos) (ne_alo_apa) (ne_alo_aed) (ne_anu_ask) (ne_anu_aos) (ne_anu_apa) (ne_anu_aed) (ne_ask_aos) (ne_ask_apa) (ne_ask_aed) (ne_aos_apa) (ne_aos_aed) (ne_apa_aed) (ne_d_ast) (ne_d_anx) (ne_aix_ast) (ne_aix_anx) (ne_alo_ast) (ne_alo_anx) (ne_anu_ast) (ne_anu_anx) (ne_ask_ast) (ne_ask_anx) (ne_aos_ast) (ne_aos_anx) (ne_apa_ast) (ne_apa_anx) (ne_aed_ast) (ne_aed_anx) (hlv)) hZ (hw _ (List.mem_of_getElem? (i := 108) rfl)) (hw _ (List.mem_of_getElem? (i := 61) rfl)) (by decide) (by decide)) (g := (mkF m 119 #[.val (.ref d), .val (.int v1), .val (.int v9), sl3] [(.int v9), (.ref d)])) rfl (by rw [hml]; rfl) (Steps.refl _) (a := d) (by rw [e66]; exact q79) q79' (argsL := [(.int v9)]) (rest := []) (lenOf pd_1 rfl) rfl (by show 2 * 0 + _ ≤ _; exact Nat.le_of_eq rfl) (hb hby d14_119) (fun _ _ => ⟨rfl, e66, (by decide : 0 + 0 ≤ _), (by decide : 0 + 0 ≤ _)⟩)
          dsimp only [Pt.U, Pt.locs, Pt.cells, Pt.slots] at X79 l79 y79 z79 st79 hQ79
          subst l79 y79 z79
          obtain ⟨rfl, N79q, K79, O79_0, O79_1, O79_2, O79_3, O79_4, O79_5, O79_6, O79_7, O79_8, O79_9, O79_10, O79_11, O79_12, O79_13, O79_14, O79_15, O79_16, O79_17, O79_18, O79_19⟩ := hQ79
          have Fj600_79 := Fj60_0.keep K79
          have Fj6021_79 := Fj60_21.keep K79 (ninS (Ne.symm ne_d_ast) (ninS (Ne.symm ne_aix_ast) (ninS (Ne.symm ne_alo_ast) (ninS (Ne.symm ne_anu_ast) (ninS (Ne.symm ne_ask_ast) (ninS (Ne.symm ne_aos_ast) (ninS (Ne.symm ne_apa_ast) (ninS (Ne.symm ne_aed_ast) nin0))))))))
          have Fj6022_79 := Fj60_22.keep K79 (ninS (Ne.symm ne_d_anx) (ninS (Ne.symm ne_aix_anx) (ninS (Ne.symm ne_alo_anx) (ninS (Ne.symm ne_anu_anx) (ninS (Ne.symm ne_ask_anx) (ninS (Ne.symm ne_aos_anx) (ninS (Ne.symm ne_apa_anx) (ninS (Ne.symm ne_aed_anx) nin0))))))))
          have Z79 : n0 ≤ T79.heap.size := Nat.le_trans Zj60 K79.1
          have Kp79 := Kj60.trans K79 (allS (Or.inl (List.mem_of_getElem? (i := 0) rfl)) (allS (Or.inl (List.mem_of_getElem? (i := 1) rfl)) (allS (Or.inl (List.mem_of_getElem? (i := 2) rfl)) (allS (Or.inl (List.mem_of_getElem? (i := 3) rfl)) (allS (Or.inl (List.mem_of_getElem? (i := 4) rfl)) (allS (Or.inl (List.mem_of_getElem? (i := 5) rfl)) (allS (Or.inl (List.mem_of_getElem? (i := 6) rfl)) (allS (Or.inl (List.mem_of_getElem? (i := 7) rfl)) all0))))))))
          have N79 := Fr.app Nj60 N79q
          refine own_jp st79 ?_
          refine own_st (fun zw zk => XS.goto X79.here hx rfl (pc0 := 122) (pc' := 10) rfl (hb hby d14_122) (by decide) (by decide) zk) ?_
          show own_Go p e below G (T79.setTop (mkF m 10 #[.val (.ref d), .val (.int v1), .val (.int v9), sl3] []))
          exact ih (.val (.int v9)) (sl3) (kg) (S2) _ Z79 Kp79 Fj600_79 O79_0 O79_1 O79_2 O79_3 O79_4 O79_5 O79_6 O79_7 O79_8 O79_9 O79_10 O79_11 O79_12 O79_13 O79_14 O79_15 O79_16 O79_17 O79_18 O79_19 Fj6021_79 Fj6022_79 _ _ X79 rfl N79 (Or.inr ⟨_, rfl, rfl⟩) (hsl3) (hJ) (by omega)
  show own_Go p e below G (T59.setTop (mkF m 10 #[.val (.ref d), .val (.int v1), .unset, .unset] []))
  exact loop10_60 _ (.unset) (.unset) (64) (S1) _ Z59 Kp59 F0_59 O59_0 O59_1 O59_2 O59_3 O59_4 O59_5 O59_6 O59_7 O59_8 O59_9 O59_10 O59_11 O59_12 O59_13 O59_14 O59_15 O59_16 O59_17 O59_18 O59_19 F21_59 F22_59 _ _ X59 rfl N59 (Or.inl rfl) (Or.inl rfl) (hlp) (Nat.lt_succ_self _)
theorem pn_2 : plainName "java/util/Arrays" = true := by first | (simp [plainName, overriddenIn]; done) | decide +kernel
theorem d13_0 : decode jdk_65_method_103_code 0 = .ok (.iconst 0, 1) := by decide +kernel
theorem d13_1 : decode jdk_65_method_103_code 1 = .ok (.istore_n 2, 1) := by decide +kernel
theorem d13_2 : decode jdk_65_method_103_code 2 = .ok (.aload_n 0, 1) := by decide +kernel
theorem d13_3 : decode jdk_65_method_103_code 3 = .ok (.arraylength, 1) := by decide +kernel
theorem d13_4 : decode jdk_65_method_103_code 4 = .ok (.istore_n 3, 1) := by decide +kernel
theorem d13_5 : decode jdk_65_method_103_code 5 = .ok (.iload_n 2, 1) := by decide +kernel
theorem d13_6 : decode jdk_65_method_103_code 6 = .ok (.iload_n 3, 1) := by decide +kernel
theorem d13_7 : decode jdk_65_method_103_code 7 = .ok (.if_icmp .ge 13, 3) := by decide +kernel
theorem d13_10 : decode jdk_65_method_103_code 10 = .ok (.aload_n 0, 1) := by decide +kernel
theorem d13_11 : decode jdk_65_method_103_code 11 = .ok (.iload_n 2, 1) := by decide +kernel
theorem d13_12 : decode jdk_65_method_103_code 12 = .ok (.iload_n 1, 1) := by decide +kernel
theorem d13_13 : decode jdk_65_method_103_code 13 = .ok (.iastore, 1) := by decide +kernel
theorem d13_14 : decode jdk_65_method_103_code 14 = .ok (.iinc 2 1, 3) := by decide +kernel
theorem d13_17 : decode jdk_65_method_103_code 17 = .ok (.goto (-12), 3) := by decide +kernel
theorem d13_20 : decode jdk_65_method_103_code 20 = .ok (.return_, 1) := by decide +kernel
theorem ef_rm13 (m : MethodId) (b0 : Addr) (x1 : Int32) : entryFrame m #[(.ref b0), (.int x1)] 4 = mkF m 0 #[.val (.ref b0), .val (.int x1), .unset, .unset] [] := by first | (simp [entryFrame, mkF, argsToLocals, Value.category]; done) | rfl
def Q13 (Z : State) (b0 : Addr) (x1 : Int32) (la : List Int32) (lq : List Int32) (nz : Int32) (h0 : Heap) (n0 : Nat) (rv : Option Value) (hq : Heap) (Lq : List Loc) : Prop := rv = none ∧ Fr n0 Lq ∧ Keep h0 hq [b0] ∧ own_L Z hq b0 .int ((own_il lq))
set_option maxRecDepth 65536 in
set_option maxHeartbeats 40000000 in
theorem rm13 (l : Launch) (Z : State) (a0 : Array Value) (hw : ∀ d ∈ tables_1, d.before a0 Z = true) (ws : List Jvm.Cond) (b0 : Addr) (x1 : Int32) (la : List Int32) (lq : List Int32) (nz : Int32) (h0 : Heap) (n0 : Nat) (Z0 : n0 ≤ h0.size) (F0_ : own_L Z h0 b0 .int ((own_il la))) (ge_b0 : n0 ≤ b0) (hlz : (own_il la).length.toInt32 = nz) (hE : own_fill nz x1 17 0 la = some lq) :
    MetFree l (⟨"java/util/Arrays", "fill", "([II)V"⟩ : MethodName) (head1 (Jvm.Cond.code (⟨"java/util/Arrays", "fill", "([II)V"⟩ : MethodName) jdk_65_method_103_code 4 none :: ws) ({ frames := 0, cells := 0, slots := 0, locals := 0 } : Room)) (fun za U => za = #[(.ref b0), (.int x1)] ∧ Z.Warmed39 U.vm ∧ U.heap = h0) (fun _ _ _ _ _ => True) (fun _ U o U' => ∃ rv Lq, o = .returned rv ∧ Q13 Z b0 x1 la lq nz h0 n0 rv U'.heap Lq ∧ FrameEnd U o U' Lq ({ frames := 0, cells := 0, slots := 0, locals := 0 } : Room).cells ({ frames := 0, cells := 0, slots := 0, locals := 0 } : Room).slots) := by
  refine MetFree.of_bodySF (plainFor_of_name pn_2) hisR ?_
  intro p e s m args below meth c s₁ Bd hml0 hP hK
  obtain ⟨rfl, hZ, hh⟩ := hP
  have hx := Bd.exec
  have hby := Bd.bytes
  have hml : c.maxLocals = 4 := hml0
  have hown : s.vm.findClass "java/util/Arrays" = some m.cls := findClass_of_methodNamed Bd.named
  have hnm := (name_of_methodNamed Bd.named Bd.method).1
  have X0 : Stand p l e ({ frames := 0, cells := 0, slots := 0, locals := 0 } : Room) s m #[(.ref b0), (.int x1)] below meth c s₁ [] 0 0 := Stand.of_body Bd
  have e0 : s₁.heap = h0 := by rw [← hh, Bd.state]; rfl
  have N0 := Fr.nil n0
  refine own_out (own_nm fun G hG => own_st (fun zt zk => castTop (ef_rm13 m b0 x1) zk) ?_)
  show own_Go p e below G (s₁.setTop (mkF m 0 #[.val (.ref b0), .val (.int x1), .unset, .unset] []))
  refine own_st (fun zw zk => XS.iconst X0.here hx rfl (hb hby d13_0) zk) ?_
  refine own_st (fun zw zk => XS.istoreN X0.here hx rfl (hb hby d13_1) rfl rfl zk) ?_
  show own_Go p e below G (s₁.setTop (mkF m 2 #[.val (.ref b0), .val (.int x1), .val (.int (0 : Int32)), .unset] []))
  refine own_st (fun zw zk => XS.aloadN X0.here hx rfl (hb hby d13_2) rfl rfl zk) ?_
  refine own_st (fun zw zk => own_len X0 hx hZ e0 F0_ (z := nz) (hlz) (g := (mkF m 3 #[.val (.ref b0), .val (.int x1), .val (.int (0 : Int32)), .unset] [(.ref b0)])) rfl rfl (hb hby d13_3) _ zk) ?_
  refine own_st (fun zw zk => XS.istoreN X0.here hx rfl (hb hby d13_4) rfl rfl zk) ?_
  have loop5_80 : ∀ (bk : Nat) (ii : Int32) (kf : Nat) (lx : List Int32) (hj80 : Heap) (Zj80 : n0 ≤ hj80.size) (Kj80 : Keep h0 hj80 [b0]) (Fj80_0 : own_L Z hj80 b0 .int ((own_il lx))) (Tj80 : State) (Lj80 : List Loc) (Xj80 : Stand p l e ({ frames := 0, cells := 0, slots := 0, locals := 0 } : Room) s m #[(.ref b0), (.int x1)] below meth c Tj80 Lj80 0 0) (ej80 : Tj80.heap = hj80) (Nj80 : Fr n0 Lj80) (hI : own_fill nz x1 kf ii lx = some lq) (hbk : kf < bk), own_Go p e below G (Tj80.setTop (mkF m 5 #[.val (.ref b0), .val (.int x1), .val (.int ii), .val (.int nz)] [])) := by
    intro bk
    induction bk with
    | zero =>
      intro ii kf lx hj80 Zj80 Kj80 Fj80_0 Tj80 Lj80 Xj80 ej80 Nj80 hI hbk
      exact absurd hbk (Nat.not_lt_zero _)
    | succ bk ih =>
      intro ii kf lx hj80 Zj80 Kj80 Fj80_0 Tj80 Lj80 Xj80 ej80 Nj80 hI hbk
      show own_Go p e below G (Tj80.setTop (mkF m 5 #[.val (.ref b0), .val (.int x1), .val (.int ii), .val (.int nz)] []))
      refine own_st (fun zw zk => XS.iloadN Xj80.here hx rfl (hb hby d13_5) rfl zk) ?_
      refine own_st (fun zw zk => XS.iloadN Xj80.here hx rfl (hb hby d13_6) rfl zk) ?_
      by_cases hc7 : ii < nz
      · refine own_st (fun zw zk => XS.icmpNo Xj80.here hx rfl (hb hby d13_7) rfl (tlt hc7).2.1 zk) ?_
        obtain ⟨kg, l9, hkf, hl9, hJ⟩ := own_fill_inv hI hc7
        refine own_st (fun zw zk => XS.aloadN Xj80.here hx rfl (hb hby d13_10) rfl rfl zk) ?_
        refine own_st (fun zw zk => XS.iloadN Xj80.here hx rfl (hb hby d13_11) rfl zk) ?_
        refine own_st (fun zw zk => XS.iloadN Xj80.here hx rfl (hb hby d13_12) rfl zk) ?_
        obtain ⟨T81, h81, X81, e81, W81, V81, st81⟩ := own_ist Xj80 hx hZ ej80 Fj80_0 (j := ii) (ii.toInt.toNat) (own_nn (own_sn hl9)) (own_nat (own_sn hl9)) (own_sl hl9) (g := (mkF m 13 #[.val (.ref b0), .val (.int x1), .val (.int ii), .val (.int nz)] [(.int x1), (.int ii), (.ref b0)])) rfl rfl (hb hby d13_13)
        have Fj800_81 : own_L Z h81 b0 .int ((own_il l9)) := (own_Lc (own_se hl9) V81)
        have N81 := Fr.snoc X81 Nj80 ge_b0
        refine own_st (fun zw zk => st81 zw zk) ?_
        have Z81 : n0 ≤ h81.size := Nat.le_trans Zj80 (Keep.of_wr W81).1
        have Kp81 := Kj80.wr W81 (Or.inl (List.mem_of_getElem? (i := 0) rfl))
        refine own_st (fun zw zk => XS.iinc X81.here hx rfl (hb hby d13_14) rfl rfl zk) ?_
        show own_Go p e below G (T81.setTop (mkF m 17 #[.val (.ref b0), .val (.int x1), .val (.int (ii + (1 : Int32))), .val (.int nz)] []))
        refine own_st (fun zw zk => XS.goto X81.here hx rfl (pc0 := 17) (pc' := 5) rfl (hb hby d13_17) (by decide) (by decide) zk) ?_
        show own_Go p e below G (T81.setTop (mkF m 5 #[.val (.ref b0), .val (.int x1), .val (.int (ii + (1 : Int32))), .val (.int nz)] []))
        exact ih (ii + (1 : Int32)) (kg) (l9) _ Z81 Kp81 Fj800_81 _ _ X81 e81 N81 (hJ) (by omega)
      · refine own_st (fun zw zk => XS.icmpYes Xj80.here hx rfl (pc0 := 7) (pc' := 20) rfl (hb hby d13_7) rfl (flt hc7).2.1 (by decide) (by decide) zk) ?_
        have hSb := own_fill_end hI hc7
        subst hG
        obtain ⟨fs, hr, hrun, hended, hW, hsame⟩ := Xj80.leave (v := none) (hlocks := Bd.notSynchronized) (fun _ => rfl)
        refine ⟨_, Xj80.returnOut hx Bd.returns (hb hby d13_20) hr, _, hrun, hended, _, _, rfl, ?_, ⟨_, rfl⟩, hW, hsame.mono (by decide) (by decide)⟩
        show Q13 Z b0 x1 la lq nz h0 n0 _ Tj80.heap _
        rw [ej80]
        exact ⟨rfl, Nj80, Kj80, (own_Lc (congrArg own_il hSb) Fj80_0)⟩
  show own_Go p e below G (s₁.setTop (mkF m 5 #[.val (.ref b0), .val (.int x1), .val (.int (0 : Int32)), .val (.int nz)] []))
  exact loop5_80 _ (0 : Int32) (17) (la) _ Z0 (Keep.refl h0 [b0]) F0_ _ _ X0 e0 N0 (hE) (Nat.lt_succ_self _)
theorem pd_2 : parseMethodDescriptor "([II)V" = some ⟨[(.array .int), .int], none⟩ := by decide +kernel
theorem d12_0 : decode prog_54_method_2_code 0 = .ok (.aload_n 0, 1) := by decide +kernel
theorem d12_1 : decode prog_54_method_2_code 1 = .ok (.invokespecial 18, 3) := by decide +kernel
theorem d12_4 : decode prog_54_method_2_code 4 = .ok (.aload_n 0, 1) := by decide +kernel
theorem d12_5 : decode prog_54_method_2_code 5 = .ok (.aload_n 1, 1) := by decide +kernel
theorem d12_6 : decode prog_54_method_2_code 6 = .ok (.putfield 23, 3) := by decide +kernel
theorem d12_9 : decode prog_54_method_2_code 9 = .ok (.aload_n 0, 1) := by decide +kernel
theorem d12_10 : decode prog_54_method_2_code 10 = .ok (.aload_n 2, 1) := by decide +kernel
theorem d12_11 : decode prog_54_method_2_code 11 = .ok (.putfield 26, 3) := by decide +kernel
theorem d12_14 : decode prog_54_method_2_code 14 = .ok (.aload_n 0, 1) := by decide +kernel
theorem d12_15 : decode prog_54_method_2_code 15 = .ok (.iload_n 3, 1) := by decide +kernel
theorem d12_16 : decode prog_54_method_2_code 16 = .ok (.newarray .int, 2) := by decide +kernel
theorem d12_18 : decode prog_54_method_2_code 18 = .ok (.putfield 7, 3) := by decide +kernel
theorem d12_21 : decode prog_54_method_2_code 21 = .ok (.aload_n 0, 1) := by decide +kernel
theorem d12_22 : decode prog_54_method_2_code 22 = .ok (.iload_n 3, 1) := by decide +kernel
theorem d12_23 : decode prog_54_method_2_code 23 = .ok (.newarray .int, 2) := by decide +kernel
theorem d12_25 : decode prog_54_method_2_code 25 = .ok (.putfield 29, 3) := by decide +kernel
theorem d12_28 : decode prog_54_method_2_code 28 = .ok (.aload_n 0, 1) := by decide +kernel
theorem d12_29 : decode prog_54_method_2_code 29 = .ok (.iload_n 3, 1) := by decide +kernel
theorem d12_30 : decode prog_54_method_2_code 30 = .ok (.newarray .int, 2) := by decide +kernel
theorem d12_32 : decode prog_54_method_2_code 32 = .ok (.putfield 15, 3) := by decide +kernel
theorem d12_35 : decode prog_54_method_2_code 35 = .ok (.aload_n 0, 1) := by decide +kernel
theorem d12_36 : decode prog_54_method_2_code 36 = .ok (.iload_n 3, 1) := by decide +kernel
theorem d12_37 : decode prog_54_method_2_code 37 = .ok (.newarray .int, 2) := by decide +kernel
theorem d12_39 : decode prog_54_method_2_code 39 = .ok (.putfield 32, 3) := by decide +kernel
theorem d12_42 : decode prog_54_method_2_code 42 = .ok (.aload_n 0, 1) := by decide +kernel
theorem d12_43 : decode prog_54_method_2_code 43 = .ok (.iload_n 3, 1) := by decide +kernel
theorem d12_44 : decode prog_54_method_2_code 44 = .ok (.newarray .boolean, 2) := by decide +kernel
theorem d12_46 : decode prog_54_method_2_code 46 = .ok (.putfield 35, 3) := by decide +kernel
theorem d12_49 : decode prog_54_method_2_code 49 = .ok (.aload_n 0, 1) := by decide +kernel
theorem d12_50 : decode prog_54_method_2_code 50 = .ok (.iload_n 3, 1) := by decide +kernel
theorem d12_51 : decode prog_54_method_2_code 51 = .ok (.newarray .int, 2) := by decide +kernel
theorem d12_53 : decode prog_54_method_2_code 53 = .ok (.putfield 39, 3) := by decide +kernel
theorem d12_56 : decode prog_54_method_2_code 56 = .ok (.aload_n 0, 1) := by decide +kernel
theorem d12_57 : decode prog_54_method_2_code 57 = .ok (.iload_n 3, 1) := by decide +kernel
theorem d12_58 : decode prog_54_method_2_code 58 = .ok (.newarray .int, 2) := by decide +kernel
theorem d12_60 : decode prog_54_method_2_code 60 = .ok (.putfield 42, 3) := by decide +kernel
theorem d12_63 : decode prog_54_method_2_code 63 = .ok (.aload_n 0, 1) := by decide +kernel
theorem d12_64 : decode prog_54_method_2_code 64 = .ok (.getfield 7, 3) := by decide +kernel
theorem d12_67 : decode prog_54_method_2_code 67 = .ok (.iconst (-1), 1) := by decide +kernel
theorem d12_68 : decode prog_54_method_2_code 68 = .ok (.invokestatic 45, 3) := by decide +kernel
theorem d12_71 : decode prog_54_method_2_code 71 = .ok (.return_, 1) := by decide +kernel
theorem ef_rm12 (m : MethodId) (d : Addr) (ast : Addr) (anx : Addr) (n3 : Int32) : entryFrame m #[(.ref d), (.ref ast), (.ref anx), (.int n3)] 4 = mkF m 0 #[.val (.ref d), .val (.ref ast), .val (.ref anx), .val (.int n3)] [] := by first | (simp [entryFrame, mkF, argsToLocals, Value.category]; done) | rfl
def Q12 (Z : State) (d : Addr) (ast : Addr) (anx : Addr) (n3 : Int32) (nn : Nat) (fi : List Int32) (h0 : Heap) (n0 : Nat) (rv : Option Value) (hq : Heap) (Lq : List Loc) : Prop := rv = none ∧ Fr n0 Lq ∧ ∃ aix : Addr, ∃ alo : Addr, ∃ anu : Addr, ∃ ask : Addr, ∃ aos : Addr, ∃ apa : Addr, ∃ aed : Addr, h0.size ≤ aix ∧ h0.size ≤ alo ∧ h0.size ≤ anu ∧ h0.size ≤ ask ∧ h0.size ≤ aos ∧ h0.size ≤ apa ∧ h0.size ≤ aed ∧ Keep h0 hq [d] ∧ Fld Z hq d "com/example/passau/passau/insertion/TwoSat$Components" "start" "[I" (.ref ast) ∧ Fld Z hq d "com/example/passau/passau/insertion/TwoSat$Components" "next" "[I" (.ref anx) ∧ Fld Z hq d "com/example/passau/passau/insertion/TwoSat$Components" "index" "[I" (.ref aix) ∧ Fld Z hq d "com/example/passau/passau/insertion/TwoSat$Components" "low" "[I" (.ref alo) ∧ Fld Z hq d "com/example/passau/passau/insertion/TwoSat$Components" "number" "[I" (.ref anu) ∧ Fld Z hq d "com/example/passau/passau/insertion/TwoSat$Components" "stack" "[I" (.ref ask) ∧ Fld Z hq d "com/example/passau/passau/insertion/TwoSat$Components" "onStack" "[Z" (.ref aos) ∧ Fld Z hq d "com/example/passau/passau/insertion/TwoSat$Components" "path" "[I" (.ref apa) ∧ Fld Z hq d "com/example/passau/passau/insertion/TwoSat$Components" "edge" "[I" (.ref aed) ∧ Fld Z hq d "com/example/passau/passau/insertion/TwoSat$Components" "depth" "I" (.int (0 : Int32)) ∧ Fld Z hq d "com/example/passau/passau/insertion/TwoSat$Components" "counter" "I" (.int (0 : Int32)) ∧ Fld Z hq d "com/example/passau/passau/insertion/TwoSat$Components" "stacked" "I" (.int (0 : Int32)) ∧ Fld Z hq d "com/example/passau/passau/insertion/TwoSat$Components" "components" "I" (.int (0 : Int32)) ∧ own_L Z hq aix .int ((own_il fi)) ∧ own_L Z hq alo .int ((own_il (List.replicate nn 0))) ∧ own_L Z hq anu .int ((own_il (List.replicate nn 0))) ∧ own_L Z hq ask .int ((own_il (List.replicate nn 0))) ∧ own_L Z hq aos .boolean ((own_il (List.replicate nn 0))) ∧ own_L Z hq apa .int ((own_il (List.replicate nn 0))) ∧ own_L Z hq aed .int ((own_il (List.replicate nn 0))) ∧ aix ≠ alo ∧ aix ≠ anu ∧ aix ≠ ask ∧ aix ≠ aos ∧ aix ≠ apa ∧ aix ≠ aed ∧ alo ≠ anu ∧ alo ≠ ask ∧ alo ≠ aos ∧ alo ≠ apa ∧ alo ≠ aed ∧ anu ≠ ask ∧ anu ≠ aos ∧ anu ≠ apa ∧ anu ≠ aed ∧ ask ≠ aos ∧ ask ≠ apa ∧ ask ≠ aed ∧ aos ≠ apa ∧ aos ≠ aed ∧ apa ≠ aed
set_option maxRecDepth 65536 in
set_option maxHeartbeats 40000000 in
theorem rm12 (l : Launch) (Z : State) (a0 : Array Value) (hw : ∀ d ∈ tables_1, d.before a0 Z = true) (ws : List Jvm.Cond) (d : Addr) (ast : Addr) (anx : Addr) (n3 : Int32) (nn : Nat) (fi : List Int32) (h0 : Heap) (n0 : Nat) (Z0 : n0 ≤ h0.size) (F0_ : Exa Z h0 d "com/example/passau/passau/insertion/TwoSat$Components") (F1_ : Fld Z h0 d "com/example/passau/passau/insertion/TwoSat$Components" "start" "[I" .null) (F2_ : Fld Z h0 d "com/example/passau/passau/insertion/TwoSat$Components" "next" "[I" .null) (F3_ : Fld Z h0 d "com/example/passau/passau/insertion/TwoSat$Components" "index" "[I" .null) (F4_ : Fld Z h0 d "com/example/passau/passau/insertion/TwoSat$Components" "low" "[I" .null) (F5_ : Fld Z h0 d "com/example/passau/passau/insertion/TwoSat$Components" "number" "[I" .null) (F6_ : Fld Z h0 d "com/example/passau/passau/insertion/TwoSat$Components" "stack" "[I" .null) (F7_ : Fld Z h0 d "com/example/passau/passau/insertion/TwoSat$Components" "onStack" "[Z" .null) (F8_ : Fld Z h0 d "com/example/passau/passau/insertion/TwoSat$Components" "path" "[I" .null) (F9_ : Fld Z h0 d "com/example/passau/passau/insertion/TwoSat$Components" "edge" "[I" .null) (F10_ : Fld Z h0 d "com/example/passau/passau/insertion/TwoSat$Components" "depth" "I" (.int (0 : Int32))) (F11_ : Fld Z h0 d "com/example/passau/passau/insertion/TwoSat$Components" "counter" "I" (.int (0 : Int32))) (F12_ : Fld Z h0 d "com/example/passau/passau/insertion/TwoSat$Components" "stacked" "I" (.int (0 : Int32))) (F13_ : Fld Z h0 d "com/example/passau/passau/insertion/TwoSat$Components" "components" "I" (.int (0 : Int32))) (ge_d : n0 ≤ d) (hn : n3.toInt = nn) (hnb : nn ≤ 15) (hfi : own_fill n3 (-1) 17 0 (List.replicate nn 0) = some fi) :
    MetFree l (⟨"com/example/passau/passau/insertion/TwoSat$Components", "<init>", "([I[II)V"⟩ : MethodName) (head1 (Jvm.Cond.code (⟨"com/example/passau/passau/insertion/TwoSat$Components", "<init>", "([I[II)V"⟩ : MethodName) prog_54_method_2_code 4 none :: ws) ({ frames := 1, cells := 7, slots := 112, locals := 15 } : Room)) (fun za U => za = #[(.ref d), (.ref ast), (.ref anx), (.int n3)] ∧ Z.Warmed39 U.vm ∧ U.heap = h0) (fun _ _ _ _ _ => True) (fun _ U o U' => ∃ rv Lq, o = .returned rv ∧ Q12 Z d ast anx n3 nn fi h0 n0 rv U'.heap Lq ∧ FrameEnd U o U' Lq ({ frames := 1, cells := 7, slots := 112, locals := 15 } : Room).cells ({ frames := 1, cells := 7, slots := 112, locals := 15 } : Room).slots) := by
  refine MetFree.of_bodySF (plainFor_of_name pn_1) hisR ?_
  intro p e s m args below meth c s₁ Bd hml0 hP hK
  obtain ⟨rfl, hZ, hh⟩ := hP
  have hx := Bd.exec
  have hby := Bd.bytes
  have hml : c.maxLocals = 4 := hml0
  have hown : s.vm.findClass "com/example/passau/passau/insertion/TwoSat$Components" = some m.cls := findClass_of_methodNamed Bd.named
  have hnm := (name_of_methodNamed Bd.named Bd.method).1
  have X0 : Stand p l e ({ frames := 1, cells := 7, slots := 112, locals := 15 } : Room) s m #[(.ref d), (.ref ast), (.ref anx), (.int n3)] below meth c s₁ [] 0 0 := Stand.of_body Bd
  have e0 : s₁.heap = h0 := by rw [← hh, Bd.state]; rfl
  have N0 := Fr.nil n0
  refine own_out (own_nm fun G hG => own_st (fun zt zk => castTop (ef_rm12 m d ast anx n3) zk) ?_)
  show own_Go p e below G (s₁.setTop (mkF m 0 #[.val (.ref d), .val (.ref ast), .val (.ref anx), .val (.int n3)] []))
  refine own_st (fun zw zk => XS.aloadN X0.here hx rfl (hb hby d12_0) rfl rfl zk) ?_
  obtain ⟨T82, X82, e82, st82⟩ := initO X0 hx hZ hown (hw _ (List.mem_of_getElem? (i := 68) rfl)) (hw _ (List.mem_of_getElem? (i := 7) rfl)) (hw _ (List.mem_of_getElem? (i := 8) rfl)) e0 (g := (mkF m 1 #[.val (.ref d), .val (.ref ast), .val (.ref anx), .val (.int n3)] [(.ref d)])) rfl (by rw [hml]; rfl) rfl (hb hby d12_1) (by decide) (W := 0) (by show 2 * 0 + _ ≤ _; exact Nat.le_of_eq rfl) (by decide)
  refine own_st (fun zw zk => st82 zw zk) ?_
  refine own_st (fun zw zk => XS.aloadN X82.here hx rfl (hb hby d12_4) rfl rfl zk) ?_
  refine own_st (fun zw zk => XS.aloadN X82.here hx rfl (hb hby d12_5) rfl rfl zk) ?_
  obtain ⟨T83, h83, X83, e83, W83, st83⟩ := putF X82 hx hZ hown (host := "") (Or.inl (hw _ (List.mem_of_getElem? (i := 69) rfl))) Via.refl e82 F1_ F0_ (Or.inr ⟨(hw _ (List.mem_of_getElem? (i := 70) rfl)), rfl, hnm⟩) (hw _ (List.mem_of_getElem? (i := 64) rfl)) (ty := (.array .int)) (by decide) rfl rfl (g := (mkF m 6 #[.val (.ref d), .val (.ref ast), .val (.ref anx), .val (.int n3)] [(.ref ast), (.ref d)])) rfl rfl (hb hby d12_6)
  have F1_83 := F1_.same W83
  have N83 := Fr.snoc X83 N0 ge_d
  refine own_st (fun zw zk => st83 zw zk) ?_
  have F0_83 := F0_.wr W83
  have F2_83 := F2_.other W83 (Or.inr (slot_ne (Or.inr (hw _ (List.mem_of_getElem? (i := 72) rfl))) (Or.inr (hw _ (List.mem_of_getElem? (i := 70) rfl))) (by decide) (t := (.array .int)) (t' := (.array .int)) (by decide) (by decide)))
  have F3_83 := F3_.other W83 (Or.inr (slot_ne (Or.inr (hw _ (List.mem_of_getElem? (i := 74) rfl))) (Or.inr (hw _ (List.mem_of_getElem? (i := 70) rfl))) (by decide) (t := (.array .int)) (t' := (.array .int)) (by decide) (by decide)))
  have F4_83 := F4_.other W83 (Or.inr (slot_ne (Or.inr (hw _ (List.mem_of_getElem? (i := 76) rfl))) (Or.inr (hw _ (List.mem_of_getElem? (i := 70) rfl))) (by decide) (t := (.array .int)) (t' := (.array .int)) (by decide) (by decide)))
  have F5_83 := F5_.other W83 (Or.inr (slot_ne (Or.inr (hw _ (List.mem_of_getElem? (i := 78) rfl))) (Or.inr (hw _ (List.mem_of_getElem? (i := 70) rfl))) (by decide) (t := (.array .int)) (t' := (.array .int)) (by decide) (by decide)))
  have F6_83 := F6_.other W83 (Or.inr (slot_ne (Or.inr (hw _ (List.mem_of_getElem? (i := 80) rfl))) (Or.inr (hw _ (List.mem_of_getElem? (i := 70) rfl))) (by decide) (t := (.array .int)) (t' := (.array .int)) (by decide) (by decide)))
  have F7_83 := F7_.other W83 (Or.inr (slot_ne (Or.inr (hw _ (List.mem_of_getElem? (i := 83) rfl))) (Or.inr (hw _ (List.mem_of_getElem? (i := 70) rfl))) (by decide) (t := (.array .boolean)) (t' := (.array .int)) (by decide) (by decide)))
  have F8_83 := F8_.other W83 (Or.inr (slot_ne (Or.inr (hw _ (List.mem_of_getElem? (i := 85) rfl))) (Or.inr (hw _ (List.mem_of_getElem? (i := 70) rfl))) (by decide) (t := (.array .int)) (t' := (.array .int)) (by decide) (by decide)))
  have F9_83 := F9_.other W83 (Or.inr (slot_ne (Or.inr (hw _ (List.mem_of_getElem? (i := 87) rfl))) (Or.inr (hw _ (List.mem_of_getElem? (i := 70) rfl))) (by decide) (t := (.array .int)) (t' := (.array .int)) (by decide) (by decide)))
  have F10_83 := F10_.other W83 (Or.inr (slot_ne (Or.inl (hw _ (List.mem_of_getElem? (i := 96) rfl))) (Or.inr (hw _ (List.mem_of_getElem? (i := 70) rfl))) (by decide) (t := .int) (t' := (.array .int)) (by decide) (by decide)))
  have F11_83 := F11_.other W83 (Or.inr (slot_ne (Or.inl (hw _ (List.mem_of_getElem? (i := 102) rfl))) (Or.inr (hw _ (List.mem_of_getElem? (i := 70) rfl))) (by decide) (t := .int) (t' := (.array .int)) (by decide) (by decide)))
  have F12_83 := F12_.other W83 (Or.inr (slot_ne (Or.inl (hw _ (List.mem_of_getElem? (i := 104) rfl))) (Or.inr (hw _ (List.mem_of_getElem? (i := 70) rfl))) (by decide) (t := .int) (t' := (.array .int)) (by decide) (by decide)))
  have F13_83 := F13_.other W83 (Or.inr (slot_ne (Or.inl (hw _ (List.mem_of_getElem? (i := 110) rfl))) (Or.inr (hw _ (List.mem_of_getElem? (i := 70) rfl))) (by decide) (t := .int) (t' := (.array .int)) (by decide) (by decide)))
  have Z83 : n0 ≤ h83.size := Nat.le_trans Z0 (Keep.of_wr W83).1
  have Kp83 := (Keep.refl h0 [d]).wr W83 (Or.inl (List.mem_of_getElem? (i := 0) rfl))
  refine own_st (fun zw zk => XS.aloadN X83.here hx rfl (hb hby d12_9) rfl rfl zk) ?_
  refine own_st (fun zw zk => XS.aloadN X83.here hx rfl (hb hby d12_10) rfl rfl zk) ?_
  obtain ⟨T84, h84, X84, e84, W84, st84⟩ := putF X83 hx hZ hown (host := "") (Or.inl (hw _ (List.mem_of_getElem? (i := 71) rfl))) Via.refl e83 F2_83 F0_83 (Or.inr ⟨(hw _ (List.mem_of_getElem? (i := 72) rfl)), rfl, hnm⟩) (hw _ (List.mem_of_getElem? (i := 64) rfl)) (ty := (.array .int)) (by decide) rfl rfl (g := (mkF m 11 #[.val (.ref d), .val (.ref ast), .val (.ref anx), .val (.int n3)] [(.ref anx), (.ref d)])) rfl rfl (hb hby d12_11)
  have F2_84 := F2_83.same W84
  have N84 := Fr.snoc X84 N83 ge_d
  refine own_st (fun zw zk => st84 zw zk) ?_
  have F0_84 := F0_83.wr W84
  have F3_84 := F3_83.other W84 (Or.inr (slot_ne (Or.inr (hw _ (List.mem_of_getElem? (i := 74) rfl))) (Or.inr (hw _ (List.mem_of_getElem? (i := 72) rfl))) (by decide) (t := (.array .int)) (t' := (.array .int)) (by decide) (by decide)))
  have F4_84 := F4_83.other W84 (Or.inr (slot_ne (Or.inr (hw _ (List.mem_of_getElem? (i := 76) rfl))) (Or.inr (hw _ (List.mem_of_getElem? (i := 72) rfl))) (by decide) (t := (.array .int)) (t' := (.array .int)) (by decide) (by decide)))
  have F5_84 := F5_83.other W84 (Or.inr (slot_ne (Or.inr (hw _ (List.mem_of_getElem? (i := 78) rfl))) (Or.inr (hw _ (List.mem_of_getElem? (i := 72) rfl))) (by decide) (t := (.array .int)) (t' := (.array .int)) (by decide) (by decide)))
  have F6_84 := F6_83.other W84 (Or.inr (slot_ne (Or.inr (hw _ (List.mem_of_getElem? (i := 80) rfl))) (Or.inr (hw _ (List.mem_of_getElem? (i := 72) rfl))) (by decide) (t := (.array .int)) (t' := (.array .int)) (by decide) (by decide)))
  have F7_84 := F7_83.other W84 (Or.inr (slot_ne (Or.inr (hw _ (List.mem_of_getElem? (i := 83) rfl))) (Or.inr (hw _ (List.mem_of_getElem? (i := 72) rfl))) (by decide) (t := (.array .boolean)) (t' := (.array .int)) (by decide) (by decide)))
  have F8_84 := F8_83.other W84 (Or.inr (slot_ne (Or.inr (hw _ (List.mem_of_getElem? (i := 85) rfl))) (Or.inr (hw _ (List.mem_of_getElem? (i := 72) rfl))) (by decide) (t := (.array .int)) (t' := (.array .int)) (by decide) (by decide)))
  have F9_84 := F9_83.other W84 (Or.inr (slot_ne (Or.inr (hw _ (List.mem_of_getElem? (i := 87) rfl))) (Or.inr (hw _ (List.mem_of_getElem? (i := 72) rfl))) (by decide) (t := (.array .int)) (t' := (.array .int)) (by decide) (by decide)))
  have F10_84 := F10_83.other W84 (Or.inr (slot_ne (Or.inl (hw _ (List.mem_of_getElem? (i := 96) rfl))) (Or.inr (hw _ (List.mem_of_getElem? (i := 72) rfl))) (by decide) (t := .int) (t' := (.array .int)) (by decide) (by decide)))
  have F11_84 := F11_83.other W84 (Or.inr (slot_ne (Or.inl (hw _ (List.mem_of_getElem? (i := 102) rfl))) (Or.inr (hw _ (List.mem_of_getElem? (i := 72) rfl))) (by decide) (t := .int) (t' := (.array .int)) (by decide) (by decide)))
  have F12_84 := F12_83.other W84 (Or.inr (slot_ne (Or.inl (hw _ (List.mem_of_getElem? (i := 104) rfl))) (Or.inr (hw _ (List.mem_of_getElem? (i := 72) rfl))) (by decide) (t := .int) (t' := (.array .int)) (by decide) (by decide)))
  have F13_84 := F13_83.other W84 (Or.inr (slot_ne (Or.inl (hw _ (List.mem_of_getElem? (i := 110) rfl))) (Or.inr (hw _ (List.mem_of_getElem? (i := 72) rfl))) (by decide) (t := .int) (t' := (.array .int)) (by decide) (by decide)))
  have F1_84 := F1_83.other W84 (Or.inr (slot_ne (Or.inr (hw _ (List.mem_of_getElem? (i := 70) rfl))) (Or.inr (hw _ (List.mem_of_getElem? (i := 72) rfl))) (by decide) (t := (.array .int)) (t' := (.array .int)) (by decide) (by decide)))
  have Z84 : n0 ≤ h84.size := Nat.le_trans Z83 (Keep.of_wr W84).1
  have Kp84 := Kp83.wr W84 (Or.inl (List.mem_of_getElem? (i := 0) rfl))
  show own_Go p e below G (T84.setTop (mkF m 14 #[.val (.ref d), .val (.ref ast), .val (.ref anx), .val (.int n3)] []))
  refine own_st (fun zw zk => XS.aloadN X84.here hx rfl (hb hby d12_14) rfl rfl zk) ?_
  refine own_st (fun zw zk => XS.iloadN X84.here hx rfl (hb hby d12_15) rfl zk) ?_
  obtain ⟨T85, h85, k85, X85, e85, E85, A85, st85⟩ := newP X84 hx hZ (hw _ (List.mem_of_getElem? (i := 9) rfl)) e84 (g := (mkF m 16 #[.val (.ref d), .val (.ref ast), .val (.ref anx), .val (.int n3)] [(.int n3), (.ref d)])) rfl (hb hby d12_16) rfl (own_nn hn) (cap := 16) (by rw [own_nat hn]; omega) (by decide) (by decide) (by decide)
  obtain ⟨b85, g85⟩ : ∃ z, z = h84.size := ⟨_, rfl⟩
  rw [← g85] at A85 st85
  have G85 : n0 ≤ b85 := Nat.le_trans Z84 (Nat.le_of_eq g85.symm)
  have ne_d_b85 : d ≠ b85 := Nat.ne_of_lt (Nat.lt_of_lt_of_le F0_84.lt (Nat.le_of_eq g85.symm))
  have F0_85 := F0_84.ext E85
  have F3_85 := F3_84.ext E85
  have F4_85 := F4_84.ext E85
  have F5_85 := F5_84.ext E85
  have F6_85 := F6_84.ext E85
  have F7_85 := F7_84.ext E85
  have F8_85 := F8_84.ext E85
  have F9_85 := F9_84.ext E85
  have F10_85 := F10_84.ext E85
  have F11_85 := F11_84.ext E85
  have F12_85 := F12_84.ext E85
  have F13_85 := F13_84.ext E85
  have F1_85 := F1_84.ext E85
  have F2_85 := F2_84.ext E85
  have Z85 : n0 ≤ h85.size := Nat.le_trans Z84 E85.1
  have sz85 : h0.size ≤ b85 := Nat.le_trans Kp84.1 (Nat.le_of_eq g85.symm)
  have Kp85 := Kp84.ext E85
  have V85 : own_L Z h85 b85 .int ((own_il (List.replicate (nn) 0))) := (own_newc hn (own_L.new A85))
  refine own_st (fun zw zk => st85 zw zk) ?_
  obtain ⟨T86, h86, X86, e86, W86, st86⟩ := putF X85 hx hZ hown (host := "") (Or.inl (hw _ (List.mem_of_getElem? (i := 73) rfl))) Via.refl e85 F3_85 F0_85 (Or.inr ⟨(hw _ (List.mem_of_getElem? (i := 74) rfl)), rfl, hnm⟩) (hw _ (List.mem_of_getElem? (i := 64) rfl)) (ty := (.array .int)) (by decide) rfl rfl (g := (mkF m 18 #[.val (.ref d), .val (.ref ast), .val (.ref anx), .val (.int n3)] [(.ref b85), (.ref d)])) rfl rfl (hb hby d12_18)
  have F3_86 := F3_85.same W86
  have N86 := Fr.snoc X86 N84 ge_d
  refine own_st (fun zw zk => st86 zw zk) ?_
  have F0_86 := F0_85.wr W86
  have F4_86 := F4_85.other W86 (Or.inr (slot_ne (Or.inr (hw _ (List.mem_of_getElem? (i := 76) rfl))) (Or.inr (hw _ (List.mem_of_getElem? (i := 74) rfl))) (by decide) (t := (.array .int)) (t' := (.array .int)) (by decide) (by decide)))
  have F5_86 := F5_85.other W86 (Or.inr (slot_ne (Or.inr (hw _ (List.mem_of_getElem? (i := 78) rfl))) (Or.inr (hw _ (List.mem_of_getElem? (i := 74) rfl))) (by decide) (t := (.array .int)) (t' := (.array .int)) (by decide) (by decide)))
  have F6_86 := F6_85.other W86 (Or.inr (slot_ne (Or.inr (hw _ (List.mem_of_getElem? (i := 80) rfl))) (Or.inr (hw _ (List.mem_of_getElem? (i := 74) rfl))) (by decide) (t := (.array .int)) (t' := (.array .int)) (by decide) (by decide)))
  have F7_86 := F7_85.other W86 (Or.inr (slot_ne (Or.inr (hw _ (List.mem_of_getElem? (i := 83) rfl))) (Or.inr (hw _ (List.mem_of_getElem? (i := 74) rfl))) (by decide) (t := (.array .boolean)) (t' := (.array .int)) (by decide) (by decide)))
  have F8_86 := F8_85.other W86 (Or.inr (slot_ne (Or.inr (hw _ (List.mem_of_getElem? (i := 85) rfl))) (Or.inr (hw _ (List.mem_of_getElem? (i := 74) rfl))) (by decide) (t := (.array .int)) (t' := (.array .int)) (by decide) (by decide)))
  have F9_86 := F9_85.other W86 (Or.inr (slot_ne (Or.inr (hw _ (List.mem_of_getElem? (i := 87) rfl))) (Or.inr (hw _ (List.mem_of_getElem? (i := 74) rfl))) (by decide) (t := (.array .int)) (t' := (.array .int)) (by decide) (by decide)))
  have F10_86 := F10_85.other W86 (Or.inr (slot_ne (Or.inl (hw _ (List.mem_of_getElem? (i := 96) rfl))) (Or.inr (hw _ (List.mem_of_getElem? (i := 74) rfl))) (by decide) (t := .int) (t' := (.array .int)) (by decide) (by decide)))
  have F11_86 := F11_85.other W86 (Or.inr (slot_ne (Or.inl (hw _ (List.mem_of_getElem? (i := 102) rfl))) (Or.inr (hw _ (List.mem_of_getElem? (i := 74) rfl))) (by decide) (t := .int) (t' := (.array .int)) (by decide) (by decide)))
  have F12_86 := F12_85.other W86 (Or.inr (slot_ne (Or.inl (hw _ (List.mem_of_getElem? (i := 104) rfl))) (Or.inr (hw _ (List.mem_of_getElem? (i := 74) rfl))) (by decide) (t := .int) (t' := (.array .int)) (by decide) (by decide)))
  have F13_86 := F13_85.other W86 (Or.inr (slot_ne (Or.inl (hw _ (List.mem_of_getElem? (i := 110) rfl))) (Or.inr (hw _ (List.mem_of_getElem? (i := 74) rfl))) (by decide) (t := .int) (t' := (.array .int)) (by decide) (by decide)))
  have F1_86 := F1_85.other W86 (Or.inr (slot_ne (Or.inr (hw _ (List.mem_of_getElem? (i := 70) rfl))) (Or.inr (hw _ (List.mem_of_getElem? (i := 74) rfl))) (by decide) (t := (.array .int)) (t' := (.array .int)) (by decide) (by decide)))
  have F2_86 := F2_85.other W86 (Or.inr (slot_ne (Or.inr (hw _ (List.mem_of_getElem? (i := 72) rfl))) (Or.inr (hw _ (List.mem_of_getElem? (i := 74) rfl))) (by decide) (t := (.array .int)) (t' := (.array .int)) (by decide) (by decide)))
  have Vb85_86 := V85.other W86 (Ne.symm ne_d_b85)
  have Z86 : n0 ≤ h86.size := Nat.le_trans Z85 (Keep.of_wr W86).1
  have Kp86 := Kp85.wr W86 (Or.inl (List.mem_of_getElem? (i := 0) rfl))
  refine own_st (fun zw zk => XS.aloadN X86.here hx rfl (hb hby d12_21) rfl rfl zk) ?_
  refine own_st (fun zw zk => XS.iloadN X86.here hx rfl (hb hby d12_22) rfl zk) ?_
  obtain ⟨T87, h87, k87, X87, e87, E87, A87, st87⟩ := newP X86 hx hZ (hw _ (List.mem_of_getElem? (i := 9) rfl)) e86 (g := (mkF m 23 #[.val (.ref d), .val (.ref ast), .val (.ref anx), .val (.int n3)] [(.int n3), (.ref d)])) rfl (hb hby d12_23) rfl (own_nn hn) (cap := 16) (by rw [own_nat hn]; omega) (by decide) (by decide) (by decide)
  obtain ⟨b87, g87⟩ : ∃ z, z = h86.size := ⟨_, rfl⟩
  rw [← g87] at A87 st87
  have G87 : n0 ≤ b87 := Nat.le_trans Z86 (Nat.le_of_eq g87.symm)
  have ne_d_b87 : d ≠ b87 := Nat.ne_of_lt (Nat.lt_of_lt_of_le F0_86.lt (Nat.le_of_eq g87.symm))
  have ne_b85_b87 : b85 ≠ b87 := Nat.ne_of_lt (Nat.lt_of_lt_of_le Vb85_86.lt (Nat.le_of_eq g87.symm))
  have F0_87 := F0_86.ext E87
  have F4_87 := F4_86.ext E87
  have F5_87 := F5_86.ext E87
  have F6_87 := F6_86.ext E87
  have F7_87 := F7_86.ext E87
  have F8_87 := F8_86.ext E87
  have F9_87 := F9_86.ext E87
  have F10_87 := F10_86.ext E87
  have F11_87 := F11_86.ext E87
  have F12_87 := F12_86.ext E87
  have F13_87 := F13_86.ext E87
  have F1_87 := F1_86.ext E87
  have F2_87 := F2_86.ext E87
  have Vb85_87 := Vb85_86.ext E87
  have F3_87 := F3_86.ext E87
  have Z87 : n0 ≤ h87.size := Nat.le_trans Z86 E87.1
  have sz87 : h0.size ≤ b87 := Nat.le_trans Kp86.1 (Nat.le_of_eq g87.symm)
  have Kp87 := Kp86.ext E87
  have V87 : own_L Z h87 b87 .int ((own_il (List.replicate (nn) 0))) := (own_newc hn (own_L.new A87))
  refine own_st (fun zw zk => st87 zw zk) ?_
  obtain ⟨T88, h88, X88, e88, W88, st88⟩ := putF X87 hx hZ hown (host := "") (Or.inl (hw _ (List.mem_of_getElem? (i := 75) rfl))) Via.refl e87 F4_87 F0_87 (Or.inr ⟨(hw _ (List.mem_of_getElem? (i := 76) rfl)), rfl, hnm⟩) (hw _ (List.mem_of_getElem? (i := 64) rfl)) (ty := (.array .int)) (by decide) rfl rfl (g := (mkF m 25 #[.val (.ref d), .val (.ref ast), .val (.ref anx), .val (.int n3)] [(.ref b87), (.ref d)])) rfl rfl (hb hby d12_25)
  have F4_88 := F4_87.same W88
  have N88 := Fr.snoc X88 N86 ge_d
  refine own_st (fun zw zk => st88 zw zk) ?_
  have F0_88 := F0_87.wr W88
  have F5_88 := F5_87.other W88 (Or.inr (slot_ne (Or.inr (hw _ (List.mem_of_getElem? (i := 78) rfl))) (Or.inr (hw _ (List.mem_of_getElem? (i := 76) rfl))) (by decide) (t := (.array .int)) (t' := (.array .int)) (by decide) (by decide)))
  have F6_88 := F6_87.other W88 (Or.inr (slot_ne (Or.inr (hw _ (List.mem_of_getElem? (i := 80) rfl))) (Or.inr (hw _ (List.mem_of_getElem? (i := 76) rfl))) (by decide) (t := (.array .int)) (t' := (.array .int)) (by decide) (by decide)))
  have F7_88 := F7_87.other W88 (Or.inr (slot_ne (Or.inr (hw _ (List.mem_of_getElem? (i := 83) rfl))) (Or.inr (hw _ (List.mem_of_getElem? (i := 76) rfl))) (by decide) (t := (.array .boolean)) (t' := (.array .int)) (by decide) (by decide)))
  have F8_88 := F8_87.other W88 (Or.inr (slot_ne (Or.inr (hw _ (List.mem_of_getElem? (i := 85) rfl))) (Or.inr (hw _ (List.mem_of_getElem? (i := 76) rfl))) (by decide) (t := (.array .int)) (t' := (.array .int)) (by decide) (by decide)))
  have F9_88 := F9_87.other W88 (Or.inr (slot_ne (Or.inr (hw _ (List.mem_of_getElem? (i := 87) rfl))) (Or.inr (hw _ (List.mem_of_getElem? (i := 76) rfl))) (by decide) (t := (.array .int)) (t' := (.array .int)) (by decide) (by decide)))
  have F10_88 := F10_87.other W88 (Or.inr (slot_ne (Or.inl (hw _ (List.mem_of_getElem? (i := 96) rfl))) (Or.inr (hw _ (List.mem_of_getElem? (i := 76) rfl))) (by decide) (t := .int) (t' := (.array .int)) (by decide) (by decide)))
  have F11_88 := F11_87.other W88 (Or.inr (slot_ne (Or.inl (hw _ (List.mem_of_getElem? (i := 102) rfl))) (Or.inr (hw _ (List.mem_of_getElem? (i := 76) rfl))) (by decide) (t := .int) (t' := (.array .int)) (by decide) (by decide)))
  have F12_88 := F12_87.other W88 (Or.inr (slot_ne (Or.inl (hw _ (List.mem_of_getElem? (i := 104) rfl))) (Or.inr (hw _ (List.mem_of_getElem? (i := 76) rfl))) (by decide) (t := .int) (t' := (.array .int)) (by decide) (by decide)))
  have F13_88 := F13_87.other W88 (Or.inr (slot_ne (Or.inl (hw _ (List.mem_of_getElem? (i := 110) rfl))) (Or.inr (hw _ (List.mem_of_getElem? (i := 76) rfl))) (by decide) (t := .int) (t' := (.array .int)) (by decide) (by decide)))
  have F1_88 := F1_87.other W88 (Or.inr (slot_ne (Or.inr (hw _ (List.mem_of_getElem? (i := 70) rfl))) (Or.inr (hw _ (List.mem_of_getElem? (i := 76) rfl))) (by decide) (t := (.array .int)) (t' := (.array .int)) (by decide) (by decide)))
  have F2_88 := F2_87.other W88 (Or.inr (slot_ne (Or.inr (hw _ (List.mem_of_getElem? (i := 72) rfl))) (Or.inr (hw _ (List.mem_of_getElem? (i := 76) rfl))) (by decide) (t := (.array .int)) (t' := (.array .int)) (by decide) (by decide)))
  have Vb85_88 := Vb85_87.other W88 (Ne.symm ne_d_b85)
  have F3_88 := F3_87.other W88 (Or.inr (slot_ne (Or.inr (hw _ (List.mem_of_getElem? (i := 74) rfl))) (Or.inr (hw _ (List.mem_of_getElem? (i := 76) rfl))) (by decide) (t := (.array .int)) (t' := (.array .int)) (by decide) (by decide)))
  have Vb87_88 := V87.other W88 (Ne.symm ne_d_b87)
  have Z88 : n0 ≤ h88.size := Nat.le_trans Z87 (Keep.of_wr W88).1
  have Kp88 := Kp87.wr W88 (Or.inl (List.mem_of_getElem? (i := 0) rfl))
  show own_Go p e below G (T88.setTop (mkF m 28 #[.val (.ref d), .val (.ref ast), .val (.ref anx), .val (.int n3)] []))
  refine own_st (fun zw zk => XS.aloadN X88.here hx rfl (hb hby d12_28) rfl rfl zk) ?_
  refine own_st (fun zw zk => XS.iloadN X88.here hx rfl (hb hby d12_29) rfl zk) ?_
  obtain ⟨T89, h89, k89, X89, e89, E89, A89, st89⟩ := newP X88 hx hZ (hw _ (List.mem_of_getElem? (i := 9) rfl)) e88 (g := (mkF m 30 #[.val (.ref d), .val (.ref ast), .val (.ref anx), .val (.int n3)] [(.int n3), (.ref d)])) rfl (hb hby d12_30) rfl (own_nn hn) (cap := 16) (by rw [own_nat hn]; omega) (by decide) (by decide) (by decide)
  obtain ⟨b89, g89⟩ : ∃ z, z = h88.size := ⟨_, rfl⟩
  rw [← g89] at A89 st89
  have G89 : n0 ≤ b89 := Nat.le_trans Z88 (Nat.le_of_eq g89.symm)
  have ne_d_b89 : d ≠ b89 := Nat.ne_of_lt (Nat.lt_of_lt_of_le F0_88.lt (Nat.le_of_eq g89.symm))
  have ne_b85_b89 : b85 ≠ b89 := Nat.ne_of_lt (Nat.lt_of_lt_of_le Vb85_88.lt (Nat.le_of_eq g89.symm))
  have ne_b87_b89 : b87 ≠ b89 := Nat.ne_of_lt (Nat.lt_of_lt_of_le Vb87_88.lt (Nat.le_of_eq g89.symm))
  have F0_89 := F0_88.ext E89
  have F5_89 := F5_88.ext E89
  have F6_89 := F6_88.ext E89
  have F7_89 := F7_88.ext E89
  have F8_89 := F8_88.ext E89
  have F9_89 := F9_88.ext E89
  have F10_89 := F10_88.ext E89
  have F11_89 := F11_88.ext E89
  have F12_89 := F12_88.ext E89
  have F13_89 := F13_88.ext E89
  have F1_89 := F1_88.ext E89
  have F2_89 := F2_88.ext E89
  have Vb85_89 := Vb85_88.ext E89
  have F3_89 := F3_88.ext E89
  have Vb87_89 := Vb87_88.ext E89
  have F4_89 := F4_88.ext E89
  have Z89 : n0 ≤ h89.size := Nat.le_trans Z88 E89.1
  have sz89 : h0.size ≤ b89 := Nat.le_trans Kp88.1 (Nat.le_of_eq g89.symm)
  have Kp89 := Kp88.ext E89
  have V89 : own_L Z h89 b89 .int ((own_il (List.replicate (nn) 0))) := (own_newc hn (own_L.new A89))
  refine own_st (fun zw zk => st89 zw zk) ?_
  obtain ⟨T90, h90, X90, e90, W90, st90⟩ := putF X89 hx hZ hown (host := "") (Or.inl (hw _ (List.mem_of_getElem? (i := 77) rfl))) Via.refl e89 F5_89 F0_89 (Or.inr ⟨(hw _ (List.mem_of_getElem? (i := 78) rfl)), rfl, hnm⟩) (hw _ (List.mem_of_getElem? (i := 64) rfl)) (ty := (.array .int)) (by decide) rfl rfl (g := (mkF m 32 #[.val (.ref d), .val (.ref ast), .val (.ref anx), .val (.int n3)] [(.ref b89), (.ref d)])) rfl rfl (hb hby d12_32)
  have F5_90 := F5_89.same W90
  have N90 := Fr.snoc X90 N88 ge_d
  refine own_st (fun zw zk => st90 zw zk) ?_
  have F0_90 := F0_89.wr W90
  have F6_90 := F6_89.other W90 (Or.inr (slot_ne (Or.inr (hw _ (List.mem_of_getElem? (i := 80) rfl))) (Or.inr (hw _ (List.mem_of_getElem? (i := 78) rfl))) (by decide) (t := (.array .int)) (t' := (.array .int)) (by decide) (by decide)))
  have F7_90 := F7_89.other W90 (Or.inr (slot_ne (Or.inr (hw _ (List.mem_of_getElem? (i := 83) rfl))) (Or.inr (hw _ (List.mem_of_getElem? (i := 78) rfl))) (by decide) (t := (.array .boolean)) (t' := (.array .int)) (by decide) (by decide)))
  have F8_90 := F8_89.other W90 (Or.inr (slot_ne (Or.inr (hw _ (List.mem_of_getElem? (i := 85) rfl))) (Or.inr (hw _ (List.mem_of_getElem? (i := 78) rfl))) (by decide) (t := (.array .int)) (t' := (.array .int)) (by decide) (by decide)))
  have F9_90 := F9_89.other W90 (Or.inr (slot_ne (Or.inr (hw _ (List.mem_of_getElem? (i := 87) rfl))) (Or.inr (hw _ (List.mem_of_getElem? (i := 78) rfl))) (by decide) (t := (.array .int)) (t' := (.array .int)) (by decide) (by decide)))
  have F10_90 := F10_89.other W90 (Or.inr (slot_ne (Or.inl (hw _ (List.mem_of_getElem? (i := 96) rfl))) (Or.inr (hw _ (List.mem_of_getElem? (i := 78) rfl))) (by decide) (t := .int) (t' := (.array .int)) (by decide) (by decide)))
  have F11_90 := F11_89.other W90 (Or.inr (slot_ne (Or.inl (hw _ (List.mem_of_getElem? (i := 102) rfl))) (Or.inr (hw _ (List.mem_of_getElem? (i := 78) rfl))) (by decide) (t := .int) (t' := (.array .int)) (by decide) (by decide)))
  have F12_90 := F12_89.other W90 (Or.inr (slot_ne (Or.inl (hw _ (List.mem_of_getElem? (i := 104) rfl))) (Or.inr (hw _ (List.mem_of_getElem? (i := 78) rfl))) (by decide) (t := .int) (t' := (.array .int)) (by decide) (by decide)))
  have F13_90 := F13_89.other W90 (Or.inr (slot_ne (Or.inl (hw _ (List.mem_of_getElem? (i := 110) rfl))) (Or.inr (hw _ (List.mem_of_getElem? (i := 78) rfl))) (by decide) (t := .int) (t' := (.array .int)) (by decide) (by decide)))
  have F1_90 := F1_89.other W90 (Or.inr (slot_ne (Or.inr (hw _ (List.mem_of_getElem? (i := 70) rfl))) (Or.inr (hw _ (List.mem_of_getElem? (i := 78) rfl))) (by decide) (t := (.array .int)) (t' := (.array .int)) (by decide) (by decide)))
  have F2_90 := F2_89.other W90 (Or.inr (slot_ne (Or.inr (hw _ (List.mem_of_getElem? (i := 72) rfl))) (Or.inr (hw _ (List.mem_of_getElem? (i := 78) rfl))) (by decide) (t := (.array .int)) (t' := (.array .int)) (by decide) (by decide)))
  have Vb85_90 := Vb85_89.other W90 (Ne.symm ne_d_b85)
  have F3_90 := F3_89.other W90 (Or.inr (slot_ne (Or.inr (hw _ (List.mem_of_getElem? (i := 74) rfl))) (Or.inr (hw _ (List.mem_of_getElem? (i := 78) rfl))) (by decide) (t := (.array .int)) (t' := (.array .int)) (by decide) (by decide)))
  have Vb87_90 := Vb87_89.other W90 (Ne.symm ne_d_b87)
  have F4_90 := F4_89.other W90 (Or.inr (slot_ne (Or.inr (hw _ (List.mem_of_getElem? (i := 76) rfl))) (Or.inr (hw _ (List.mem_of_getElem? (i := 78) rfl))) (by decide) (t := (.array .int)) (t' := (.array .int)) (by decide) (by decide)))
  have Vb89_90 := V89.other W90 (Ne.symm ne_d_b89)
  have Z90 : n0 ≤ h90.size := Nat.le_trans Z89 (Keep.of_wr W90).1
  have Kp90 := Kp89.wr W90 (Or.inl (List.mem_of_getElem? (i := 0) rfl))
  refine own_st (fun zw zk => XS.aloadN X90.here hx rfl (hb hby d12_35) rfl rfl zk) ?_
  refine own_st (fun zw zk => XS.iloadN X90.here hx rfl (hb hby d12_36) rfl zk) ?_
  obtain ⟨T91, h91, k91, X91, e91, E91, A91, st91⟩ := newP X90 hx hZ (hw _ (List.mem_of_getElem? (i := 9) rfl)) e90 (g := (mkF m 37 #[.val (.ref d), .val (.ref ast), .val (.ref anx), .val (.int n3)] [(.int n3), (.ref d)])) rfl (hb hby d12_37) rfl (own_nn hn) (cap := 16) (by rw [own_nat hn]; omega) (by decide) (by decide) (by decide)
  obtain ⟨b91, g91⟩ : ∃ z, z = h90.size := ⟨_, rfl⟩
  rw [← g91] at A91 st91
  have G91 : n0 ≤ b91 := Nat.le_trans Z90 (Nat.le_of_eq g91.symm)
  have ne_d_b91 : d ≠ b91 := Nat.ne_of_lt (Nat.lt_of_lt_of_le F0_90.lt (Nat.le_of_eq g91.symm))
  have ne_b85_b91 : b85 ≠ b91 := Nat.ne_of_lt (Nat.lt_of_lt_of_le Vb85_90.lt (Nat.le_of_eq g91.symm))
  have ne_b87_b91 : b87 ≠ b91 := Nat.ne_of_lt (Nat.lt_of_lt_of_le Vb87_90.lt (Nat.le_of_eq g91.symm))
  have ne_b89_b91 : b89 ≠ b91 := Nat.ne_of_lt (Nat.lt_of_lt_of_le Vb89_90.lt (Nat.le_of_eq g91.symm))
  have F0_91 := F0_90.ext E91
  have F6_91 := F6_90.ext E91
  have F7_91 := F7_90.ext E91
  have F8_91 := F8_90.ext E91
  have F9_91 := F9_90.ext E91
  have F10_91 := F10_90.ext E91
  have F11_91 := F11_90.ext E91
  have F12_91 := F12_90.ext E91
  have F13_91 := F13_90.ext E91
  have F1_91 := F1_90.ext E91
  have F2_91 := F2_90.ext E91
  have Vb85_91 := Vb85_90.ext E91
  have F3_91 := F3_90.ext E91
  have Vb87_91 := Vb87_90.ext E91
  have F4_91 := F4_90.ext E91
  have Vb89_91 := Vb89_90.ext E91
  have F5_91 := F5_90.ext E91
  have Z91 : n0 ≤ h91.size := Nat.le_trans Z90 E91.1
  have sz91 : h0.size ≤ b91 := Nat.le_trans Kp90.1 (Nat.le_of_eq g91.symm)
  have Kp91 := Kp90.ext E91
  have V91 : own_L Z h91 b91 .int ((own_il (List.replicate (nn) 0))) := (own_newc hn (own_L.new A91))
  refine own_st (fun zw zk => st91 zw zk) ?_
  obtain ⟨T92, h92, X92, e92, W92, st92⟩ := putF X91 hx hZ hown (host := "") (Or.inl (hw _ (List.mem_of_getElem? (i := 79) rfl))) Via.refl e91 F6_91 F0_91 (Or.inr ⟨(hw _ (List.mem_of_getElem? (i := 80) rfl)), rfl, hnm⟩) (hw _ (List.mem_of_getElem? (i := 64) rfl)) (ty := (.array .int)) (by decide) rfl rfl (g := (mkF m 39 #[.val (.ref d), .val (.ref ast), .val (.ref anx), .val (.int n3)] [(.ref b91), (.ref d)])) rfl rfl (hb hby d12_39)
  have F6_92 := F6_91.same W92
  have N92 := Fr.snoc X92 N90 ge_d
  refine own_st (fun zw zk => st92 zw zk) ?_
  have F0_92 := F0_91.wr W92
  have F7_92 := F7_91.other W92 (Or.inr (slot_ne (Or.inr (hw _ (List.mem_of_getElem? (i := 83) rfl))) (Or.inr (hw _ (List.mem_of_getElem? (i := 80) rfl))) (by decide) (t := (.array .boolean)) (t' := (.array .int)) (by decide) (by decide)))
  have F8_92 := F8_91.other W92 (Or.inr (slot_ne (Or.inr (hw _ (List.mem_of_getElem? (i := 85) rfl))) (Or.inr (hw _ (List.mem_of_getElem? (i := 80) rfl))) (by decide) (t := (.array .int)) (t' := (.array .int)) (by decide) (by decide)))
  have F9_92 := F9_91.other W92 (Or.inr (slot_ne (Or.inr (hw _ (List.mem_of_getElem? (i := 87) rfl))) (Or.inr (hw _ (List.mem_of_getElem? (i := 80) rfl))) (by decide) (t := (.array .int)) (t' := (.array .int)) (by decide) (by decide)))
  have F10_92 := F10_91.other W92 (Or.inr (slot_ne (Or.inl (hw _ (List.mem_of_getElem? (i := 96) rfl))) (Or.inr (hw _ (List.mem_of_getElem? (i := 80) rfl))) (by decide) (t := .int) (t' := (.array .int)) (by decide) (by decide)))
  have F11_92 := F11_91.other W92 (Or.inr (slot_ne (Or.inl (hw _ (List.mem_of_getElem? (i := 102) rfl))) (Or.inr (hw _ (List.mem_of_getElem? (i := 80) rfl))) (by decide) (t := .int) (t' := (.array .int)) (by decide) (by decide)))
  have F12_92 := F12_91.other W92 (Or.inr (slot_ne (Or.inl (hw _ (List.mem_of_getElem? (i := 104) rfl))) (Or.inr (hw _ (List.mem_of_getElem? (i := 80) rfl))) (by decide) (t := .int) (t' := (.array .int)) (by decide) (by decide)))
  have F13_92 := F13_91.other W92 (Or.inr (slot_ne (Or.inl (hw _ (List.mem_of_getElem? (i := 110) rfl))) (Or.inr (hw _ (List.mem_of_getElem? (i := 80) rfl))) (by decide) (t := .int) (t' := (.array .int)) (by decide) (by decide)))
  have F1_92 := F1_91.other W92 (Or.inr (slot_ne (Or.inr (hw _ (List.mem_of_getElem? (i := 70) rfl))) (Or.inr (hw _ (List.mem_of_getElem? (i := 80) rfl))) (by decide) (t := (.array .int)) (t' := (.array .int)) (by decide) (by decide)))
  have F2_92 := F2_91.other W92 (Or.inr (slot_ne (Or.inr (hw _ (List.mem_of_getElem? (i := 72) rfl))) (Or.inr (hw _ (List.mem_of_getElem? (i := 80) rfl))) (by decide) (t := (.array .int)) (t' := (.array .int)) (by decide) (by decide)))
  have Vb85_92 := Vb85_91.other W92 (Ne.symm ne_d_b85)
  have F3_92 := F3_91.other W92 (Or.inr (slot_ne (Or.inr (hw _ (List.mem_of_getElem? (i := 74) rfl))) (Or.inr (hw _ (List.mem_of_getElem? (i := 80) rfl))) (by decide) (t := (.array .int)) (t' := (.array .int)) (by decide) (by decide)))
  have Vb87_92 := Vb87_91.other W92 (Ne.symm ne_d_b87)
  have F4_92 := F4_91.other W92 (Or.inr (slot_ne (Or.inr (hw _ (List.mem_of_getElem? (i := 76) rfl))) (Or.inr (hw _ (List.mem_of_getElem? (i := 80) rfl))) (by decide) (t := (.array .int)) (t' := (.array .int)) (by decide) (by decide)))
  have Vb89_92 := Vb89_91.other W92 (Ne.symm ne_d_b89)
  have F5_92 := F5_91.other W92 (Or.inr (slot_ne (Or.inr (hw _ (List.mem_of_getElem? (i := 78) rfl))) (Or.inr (hw _ (List.mem_of_getElem? (i := 80) rfl))) (by decide) (t := (.array .int)) (t' := (.array .int)) (by decide) (by decide)))
  have Vb91_92 := V91.other W92 (Ne.symm ne_d_b91)
  have Z92 : n0 ≤ h92.size := Nat.le_trans Z91 (Keep.of_wr W92).1
  have Kp92 := Kp91.wr W92 (Or.inl (List.mem_of_getElem? (i := 0) rfl))
  show own_Go p e below G (T92.setTop (mkF m 42 #[.val (.ref d), .val (.ref ast), .val (.ref anx), .val (.int n3)] []))
  refine own_st (fun zw zk => XS.aloadN X92.here hx rfl (hb hby d12_42) rfl rfl zk) ?_
  refine own_st (fun zw zk => XS.iloadN X92.here hx rfl (hb hby d12_43) rfl zk) ?_
  obtain ⟨T93, h93, k93, X93, e93, E93, A93, st93⟩ := newP X92 hx hZ (hw _ (List.mem_of_getElem? (i := 81) rfl)) e92 (g := (mkF m 44 #[.val (.ref d), .val (.ref ast), .val (.ref anx), .val (.int n3)] [(.int n3), (.ref d)])) rfl (hb hby d12_44) rfl (own_nn hn) (cap := 16) (by rw [own_nat hn]; omega) (by decide) (by decide) (by decide)
  obtain ⟨b93, g93⟩ : ∃ z, z = h92.size := ⟨_, rfl⟩
  rw [← g93] at A93 st93
  have G93 : n0 ≤ b93 := Nat.le_trans Z92 (Nat.le_of_eq g93.symm)
  have ne_d_b93 : d ≠ b93 := Nat.ne_of_lt (Nat.lt_of_lt_of_le F0_92.lt (Nat.le_of_eq g93.symm))
  have ne_b85_b93 : b85 ≠ b93 := Nat.ne_of_lt (Nat.lt_of_lt_of_le Vb85_92.lt (Nat.le_of_eq g93.symm))
  have ne_b87_b93 : b87 ≠ b93 := Nat.ne_of_lt (Nat.lt_of_lt_of_le Vb87_92.lt (Nat.le_of_eq g93.symm))
  have ne_b89_b93 : b89 ≠ b93 := Nat.ne_of_lt (Nat.lt_of_lt_of_le Vb89_92.lt (Nat.le_of_eq g93.symm))
  have ne_b91_b93 : b91 ≠ b93 := Nat.ne_of_lt (Nat.lt_of_lt_of_le Vb91_92.lt (Nat.le_of_eq g93.symm))
  have F0_93 := F0_92.ext E93
  have F7_93 := F7_92.ext E93
  have F8_93 := F8_92.ext E93
  have F9_93 := F9_92.ext E93
  have F10_93 := F10_92.ext E93
  have F11_93 := F11_92.ext E93
  have F12_93 := F12_92.ext E93
  have F13_93 := F13_92.ext E93
  have F1_93 := F1_92.ext E93
  have F2_93 := F2_92.ext E93
  have Vb85_93 := Vb85_92.ext E93
  have F3_93 := F3_92.ext E93
  have Vb87_93 := Vb87_92.ext E93
  have F4_93 := F4_92.ext E93
  have Vb89_93 := Vb89_92.ext E93
  have F5_93 := F5_92.ext E93
  have Vb91_93 := Vb91_92.ext E93
  have F6_93 := F6_92.ext E93
  have Z93 : n0 ≤ h93.size := Nat.le_trans Z92 E93.1
  have sz93 : h0.size ≤ b93 := Nat.le_trans Kp92.1 (Nat.le_of_eq g93.symm)
  have Kp93 := Kp92.ext E93
  have V93 : own_L Z h93 b93 .boolean ((own_il (List.replicate (nn) 0))) := (own_newc hn (own_L.new A93))
  refine own_st (fun zw zk => st93 zw zk) ?_
  obtain ⟨T94, h94, X94, e94, W94, st94⟩ := putF X93 hx hZ hown (host := "") (Or.inl (hw _ (List.mem_of_getElem? (i := 82) rfl))) Via.refl e93 F7_93 F0_93 (Or.inr ⟨(hw _ (List.mem_of_getElem? (i := 83) rfl)), rfl, hnm⟩) (hw _ (List.mem_of_getElem? (i := 64) rfl)) (ty := (.array .boolean)) (by decide) rfl rfl (g := (mkF m 46 #[.val (.ref d), .val (.ref ast), .val (.ref anx), .val (.int n3)] [(.ref b93), (.ref d)])) rfl rfl (hb hby d12_46)
  have F7_94 := F7_93.same W94
  have N94 := Fr.snoc X94 N92 ge_d
  refine own_st (fun zw zk => st94 zw zk) ?_
  have F0_94 := F0_93.wr W94
  have F8_94 := F8_93.other W94 (Or.inr (slot_ne (Or.inr (hw _ (List.mem_of_getElem? (i := 85) rfl))) (Or.inr (hw _ (List.mem_of_getElem? (i := 83) rfl))) (by decide) (t := (.array .int)) (t' := (.array .boolean)) (by decide) (by decide)))
  have F9_94 := F9_93.other W94 (Or.inr (slot_ne (Or.inr (hw _ (List.mem_of_getElem? (i := 87) rfl))) (Or.inr (hw _ (List.mem_of_getElem? (i := 83) rfl))) (by decide) (t := (.array .int)) (t' := (.array .boolean)) (by decide) (by decide)))
  have F10_94 := F10_93.other W94 (Or.inr (slot_ne (Or.inl (hw _ (List.mem_of_getElem? (i := 96) rfl))) (Or.inr (hw _ (List.mem_of_getElem? (i := 83) rfl))) (by decide) (t := .int) (t' := (.array .boolean)) (by decide) (by decide)))
  have F11_94 := F11_93.other W94 (Or.inr (slot_ne (Or.inl (hw _ (List.mem_of_getElem? (i := 102) rfl))) (Or.inr (hw _ (List.mem_of_getElem? (i := 83) rfl))) (by decide) (t := .int) (t' := (.array .boolean)) (by decide) (by decide)))
  have F12_94 := F12_93.other W94 (Or.inr (slot_ne (Or.inl (hw _ (List.mem_of_getElem? (i := 104) rfl))) (Or.inr (hw _ (List.mem_of_getElem? (i := 83) rfl))) (by decide) (t := .int) (t' := (.array .boolean)) (by decide) (by decide)))
  have F13_94 := F13_93.other W94 (Or.inr (slot_ne (Or.inl (hw _ (List.mem_of_getElem? (i := 110) rfl))) (Or.inr (hw _ (List.mem_of_getElem? (i := 83) rfl))) (by decide) (t := .int) (t' := (.array .boolean)) (by decide) (by decide)))
  have F1_94 := F1_93.other W94 (Or.inr (slot_ne (Or.inr (hw _ (List.mem_of_getElem? (i := 70) rfl))) (Or.inr (hw _ (List.mem_of_getElem? (i := 83) rfl))) (by decide) (t := (.array .int)) (t' := (.array .boolean)) (by decide) (by decide)))
  have F2_94 := F2_93.other W94 (Or.inr (slot_ne (Or.inr (hw _ (List.mem_of_getElem? (i := 72) rfl))) (Or.inr (hw _ (List.mem_of_getElem? (i := 83) rfl))) (by decide) (t := (.array .int)) (t' := (.array .boolean)) (by decide) (by decide)))
  have Vb85_94 := Vb85_93.other W94 (Ne.symm ne_d_b85)
  have F3_94 := F3_93.other W94 (Or.inr (slot_ne (Or.inr (hw _ (List.mem_of_getElem? (i := 74) rfl))) (Or.inr (hw _ (List.mem_of_getElem? (i := 83) rfl))) (by decide) (t := (.array .int)) (t' := (.array .boolean)) (by decide) (by decide)))
  have Vb87_94 := Vb87_93.other W94 (Ne.symm ne_d_b87)
  have F4_94 := F4_93.other W94 (Or.inr (slot_ne (Or.inr (hw _ (List.mem_of_getElem? (i := 76) rfl))) (Or.inr (hw _ (List.mem_of_getElem? (i := 83) rfl))) (by decide) (t := (.array .int)) (t' := (.array .boolean)) (by decide) (by decide)))
  have Vb89_94 := Vb89_93.other W94 (Ne.symm ne_d_b89)
  have F5_94 := F5_93.other W94 (Or.inr (slot_ne (Or.inr (hw _ (List.mem_of_getElem? (i := 78) rfl))) (Or.inr (hw _ (List.mem_of_getElem? (i := 83) rfl))) (by decide) (t := (.array .int)) (t' := (.array .boolean)) (by decide) (by decide)))
  have Vb91_94 := Vb91_93.other W94 (Ne.symm ne_d_b91)
  have F6_94 := F6_93.other W94 (Or.inr (slot_ne (Or.inr (hw _ (List.mem_of_getElem? (i := 80) rfl))) (Or.inr (hw _ (List.mem_of_getElem? (i := 83) rfl))) (by decide) (t := (.array .int)) (t' := (.array .boolean)) (by decide) (by decide)))
  have Vb93_94 := V93.other W94 (Ne.symm ne_d_b93)
  have Z94 : n0 ≤ h94.size := Nat.le_trans Z93 (Keep.of_wr W94).1
  have Kp94 := Kp93.wr W94 (Or.inl (List.mem_of_getElem? (i := 0) rfl))
  refine own_st (fun zw zk => XS.aloadN X94.here hx rfl (hb hby d12_49) rfl rfl zk) ?_
  refine own_st (fun zw zk => XS.iloadN X94.here hx rfl (hb hby d12_50) rfl zk) ?_
  obtain ⟨T95, h95, k95, X95, e95, E95, A95, st95⟩ := newP X94 hx hZ (hw _ (List.mem_of_getElem? (i := 9) rfl)) e94 (g := (mkF m 51 #[.val (.ref d), .val (.ref ast), .val (.ref anx), .val (.int n3)] [(.int n3), (.ref d)])) rfl (hb hby d12_51) rfl (own_nn hn) (cap := 16) (by rw [own_nat hn]; omega) (by decide) (by decide) (by decide)
  obtain ⟨b95, g95⟩ : ∃ z, z = h94.size := ⟨_, rfl⟩
  rw [← g95] at A95 st95
  have G95 : n0 ≤ b95 := Nat.le_trans Z94 (Nat.le_of_eq g95.symm)
  have ne_d_b95 : d ≠ b95 := Nat.ne_of_lt (Nat.lt_of_lt_of_le F0_94.lt (Nat.le_of_eq g95.symm))
  have ne_b85_b95 : b85 ≠ b95 := Nat.ne_of_lt (Nat.lt_of_lt_of_le Vb85_94.lt (Nat.le_of_eq g95.symm))
  have ne_b87_b95 : b87 ≠ b95 := Nat.ne_of_lt (Nat.lt_of_lt_of_le Vb87_94.lt (Nat.le_of_eq g95.symm))
  have ne_b89_b95 : b89 ≠ b95 := Nat.ne_of_lt (Nat.lt_of_lt_of_le Vb89_94.lt (Nat.le_of_eq g95.symm))
  have ne_b91_b95 : b91 ≠ b95 := Nat.ne_of_lt (Nat.lt_of_lt_of_le Vb91_94.lt (Nat.le_of_eq g95.symm))
  have ne_b93_b95 : b93 ≠ b95 := Nat.ne_of_lt (Nat.lt_of_lt_of_le Vb93_94.lt (Nat.le_of_eq g95.symm))
  have F0_95 := F0_94.ext E95
  have F8_95 := F8_94.ext E95
  have F9_95 := F9_94.ext E95
  have F10_95 := F10_94.ext E95
  have F11_95 := F11_94.ext E95
  have F12_95 := F12_94.ext E95
  have F13_95 := F13_94.ext E95
  have F1_95 := F1_94.ext E95
  have F2_95 := F2_94.ext E95
  have Vb85_95 := Vb85_94.ext E95
  have F3_95 := F3_94.ext E95
  have Vb87_95 := Vb87_94.ext E95
  have F4_95 := F4_94.ext E95
  have Vb89_95 := Vb89_94.ext E95
  have F5_95 := F5_94.ext E95
  have Vb91_95 := Vb91_94.ext E95
  have F6_95 := F6_94.ext E95
  have Vb93_95 := Vb93_94.ext E95
  have F7_95 := F7_94.ext E95
  have Z95 : n0 ≤ h95.size := Nat.le_trans Z94 E95.1
  have sz95 : h0.size ≤ b95 := Nat.le_trans Kp94.1 (Nat.le_of_eq g95.symm)
  have Kp95 := Kp94.ext E95
  have V95 : own_L Z h95 b95 .int ((own_il (List.replicate (nn) 0))) := (own_newc hn (own_L.new A95))
  refine own_st (fun zw zk => st95 zw zk) ?_
  obtain ⟨T96, h96, X96, e96, W96, st96⟩ := putF X95 hx hZ hown (host := "") (Or.inl (hw _ (List.mem_of_getElem? (i := 84) rfl))) Via.refl e95 F8_95 F0_95 (Or.inr ⟨(hw _ (List.mem_of_getElem? (i := 85) rfl)), rfl, hnm⟩) (hw _ (List.mem_of_getElem? (i := 64) rfl)) (ty := (.array .int)) (by decide) rfl rfl (g := (mkF m 53 #[.val (.ref d), .val (.ref ast), .val (.ref anx), .val (.int n3)] [(.ref b95), (.ref d)])) rfl rfl (hb hby d12_53)
  have F8_96 := F8_95.same W96
  have N96 := Fr.snoc X96 N94 ge_d
  refine own_st (fun zw zk => st96 zw zk) ?_
  have F0_96 := F0_95.wr W96
  have F9_96 := F9_95.other W96 (Or.inr (slot_ne (Or.inr (hw _ (List.mem_of_getElem? (i := 87) rfl))) (Or.inr (hw _ (List.mem_of_getElem? (i := 85) rfl))) (by decide) (t := (.array .int)) (t' := (.array .int)) (by decide) (by decide)))
  have F10_96 := F10_95.other W96 (Or.inr (slot_ne (Or.inl (hw _ (List.mem_of_getElem? (i := 96) rfl))) (Or.inr (hw _ (List.mem_of_getElem? (i := 85) rfl))) (by decide) (t := .int) (t' := (.array .int)) (by decide) (by decide)))
  have F11_96 := F11_95.other W96 (Or.inr (slot_ne (Or.inl (hw _ (List.mem_of_getElem? (i := 102) rfl))) (Or.inr (hw _ (List.mem_of_getElem? (i := 85) rfl))) (by decide) (t := .int) (t' := (.array .int)) (by decide) (by decide)))
  have F12_96 := F12_95.other W96 (Or.inr (slot_ne (Or.inl (hw _ (List.mem_of_getElem? (i := 104) rfl))) (Or.inr (hw _ (List.mem_of_getElem? (i := 85) rfl))) (by decide) (t := .int) (t' := (.array .int)) (by decide) (by decide)))
  have F13_96 := F13_95.other W96 (Or.inr (slot_ne (Or.inl (hw _ (List.mem_of_getElem? (i := 110) rfl))) (Or.inr (hw _ (List.mem_of_getElem? (i := 85) rfl))) (by decide) (t := .int) (t' := (.array .int)) (by decide) (by decide)))
  have F1_96 := F1_95.other W96 (Or.inr (slot_ne (Or.inr (hw _ (List.mem_of_getElem? (i := 70) rfl))) (Or.inr (hw _ (List.mem_of_getElem? (i := 85) rfl))) (by decide) (t := (.array .int)) (t' := (.array .int)) (by decide) (by decide)))
  have F2_96 := F2_95.other W96 (Or.inr (slot_ne (Or.inr (hw _ (List.mem_of_getElem? (i := 72) rfl))) (Or.inr (hw _ (List.mem_of_getElem? (i := 85) rfl))) (by decide) (t := (.array .int)) (t' := (.array .int)) (by decide) (by decide)))
  have Vb85_96 := Vb85_95.other W96 (Ne.symm ne_d_b85)
  have F3_96 := F3_95.other W96 (Or.inr (slot_ne (Or.inr (hw _ (List.mem_of_getElem? (i := 74) rfl))) (Or.inr (hw _ (List.mem_of_getElem? (i := 85) rfl))) (by decide) (t := (.array .int)) (t' := (.array .int)) (by decide) (by decide)))
  have Vb87_96 := Vb87_95.other W96 (Ne.symm ne_d_b87)
  have F4_96 := F4_95.other W96 (Or.inr (slot_ne (Or.inr (hw _ (List.mem_of_getElem? (i := 76) rfl))) (Or.inr (hw _ (List.mem_of_getElem? (i := 85) rfl))) (by decide) (t := (.array .int)) (t' := (.array .int)) (by decide) (by decide)))
  have Vb89_96 := Vb89_95.other W96 (Ne.symm ne_d_b89)
  have F5_96 := F5_95.other W96 (Or.inr (slot_ne (Or.inr (hw _ (List.mem_of_getElem? (i := 78) rfl))) (Or.inr (hw _ (List.mem_of_getElem? (i := 85) rfl))) (by decide) (t := (.array .int)) (t' := (.array .int)) (by decide) (by decide)))
  have Vb91_96 := Vb91_95.other W96 (Ne.symm ne_d_b91)
  have F6_96 := F6_95.other W96 (Or.inr (slot_ne (Or.inr (hw _ (List.mem_of_getElem? (i := 80) rfl))) (Or.inr (hw _ (List.mem_of_getElem? (i := 85) rfl))) (by decide) (t := (.array .int)) (t' := (.array .int)) (by decide) (by decide)))
  have Vb93_96 := Vb93_95.other W96 (Ne.symm ne_d_b93)
  have F7_96 := F7_95.other W96 (Or.inr (slot_ne (Or.inr (hw _ (List.mem_of_getElem? (i := 83) rfl))) (Or.inr (hw _ (List.mem_of_getElem? (i := 85) rfl))) (by decide) (t := (.array .boolean)) (t' := (.array .int)) (by decide) (by decide)))
  have Vb95_96 := V95.other W96 (Ne.symm ne_d_b95)
  have Z96 : n0 ≤ h96.size := Nat.le_trans Z95 (Keep.of_wr W96).1
  have Kp96 := Kp95.wr W96 (Or.inl (List.mem_of_getElem? (i := 0) rfl))
  show own_Go p e below G (T96.setTop (mkF m 56 #[.val (.ref d), .val (.ref ast), .val (.ref anx), .val (.int n3)] []))
  refine own_st (fun zw zk => XS.aloadN X96.here hx rfl (hb hby d12_56) rfl rfl zk) ?_
  refine own_st (fun zw zk => XS.iloadN X96.here hx rfl (hb hby d12_57) rfl zk) ?_
  obtain ⟨T97, h97, k97, X97, e97, E97, A97, st97⟩ := newP X96 hx hZ (hw _ (List.mem_of_getElem? (i := 9) rfl)) e96 (g := (mkF m 58 #[.val (.ref d), .val (.ref ast), .val (.ref anx), .val (.int n3)] [(.int n3), (.ref d)])) rfl (hb hby d12_58) rfl (own_nn hn) (cap := 16) (by rw [own_nat hn]; omega) (by decide) (by decide) (by decide)
  obtain ⟨b97, g97⟩ : ∃ z, z = h96.size := ⟨_, rfl⟩
  rw [← g97] at A97 st97
  have G97 : n0 ≤ b97 := Nat.le_trans Z96 (Nat.le_of_eq g97.symm)
  have ne_d_b97 : d ≠ b97 := Nat.ne_of_lt (Nat.lt_of_lt_of_le F0_96.lt (Nat.le_of_eq g97.symm))
  have ne_b85_b97 : b85 ≠ b97 := Nat.ne_of_lt (Nat.lt_of_lt_of_le Vb85_96.lt (Nat.le_of_eq g97.symm))
  have ne_b87_b97 : b87 ≠ b97 := Nat.ne_of_lt (Nat.lt_of_lt_of_le Vb87_96.lt (Nat.le_of_eq g97.symm))
  have ne_b89_b97 : b89 ≠ b97 := Nat.ne_of_lt (Nat.lt_of_lt_of_le Vb89_96.lt (Nat.le_of_eq g97.symm))
  have ne_b91_b97 : b91 ≠ b97 := Nat.ne_of_lt (Nat.lt_of_lt_of_le Vb91_96.lt (Nat.le_of_eq g97.symm))
  have ne_b93_b97 : b93 ≠ b97 := Nat.ne_of_lt (Nat.lt_of_lt_of_le Vb93_96.lt (Nat.le_of_eq g97.symm))
  have ne_b95_b97 : b95 ≠ b97 := Nat.ne_of_lt (Nat.lt_of_lt_of_le Vb95_96.lt (Nat.le_of_eq g97.symm))
  have F0_97 := F0_96.ext E97
  have F9_97 := F9_96.ext E97
  have F10_97 := F10_96.ext E97
  have F11_97 := F11_96.ext E97
  have F12_97 := F12_96.ext E97
  have F13_97 := F13_96.ext E97
  have F1_97 := F1_96.ext E97
  have F2_97 := F2_96.ext E97
  have Vb85_97 := Vb85_96.ext E97
  have F3_97 := F3_96.ext E97
  have Vb87_97 := Vb87_96.ext E97
  have F4_97 := F4_96.ext E97
  have Vb89_97 := Vb89_96.ext E97
  have F5_97 := F5_96.ext E97
  have Vb91_97 := Vb91_96.ext E97
  have F6_97 := F6_96.ext E97
  have Vb93_97 := Vb93_96.ext E97
  have F7_97 := F7_96.ext E97
  have Vb95_97 := Vb95_96.ext E97
  have F8_97 := F8_96.ext E97
  have Z97 : n0 ≤ h97.size := Nat.le_trans Z96 E97.1
  have sz97 : h0.size ≤ b97 := Nat.le_trans Kp96.1 (Nat.le_of_eq g97.symm)
  have Kp97 := Kp96.ext E97
  have V97 : own_L Z h97 b97 .int ((own_il (List.replicate (nn) 0))) := (own_newc hn (own_L.new A97))
  refine own_st (fun zw zk => st97 zw zk) ?_
  obtain ⟨T98, h98, X98, e98, W98, st98⟩ := putF X97 hx hZ hown (host := "") (Or.inl (hw _ (List.mem_of_getElem? (i := 86) rfl))) Via.refl e97 F9_97 F0_97 (Or.inr ⟨(hw _ (List.mem_of_getElem? (i := 87) rfl)), rfl, hnm⟩) (hw _ (List.mem_of_getElem? (i := 64) rfl)) (ty := (.array .int)) (by decide) rfl rfl (g := (mkF m 60 #[.val (.ref d), .val (.ref ast), .val (.ref anx), .val (.int n3)] [(.ref b97), (.ref d)])) rfl rfl (hb hby d12_60)
  have F9_98 := F9_97.same W98
  have N98 := Fr.snoc X98 N96 ge_d
  refine own_st (fun zw zk => st98 zw zk) ?_
  have F0_98 := F0_97.wr W98
  have F10_98 := F10_97.other W98 (Or.inr (slot_ne (Or.inl (hw _ (List.mem_of_getElem? (i := 96) rfl))) (Or.inr (hw _ (List.mem_of_getElem? (i := 87) rfl))) (by decide) (t := .int) (t' := (.array .int)) (by decide) (by decide)))
  have F11_98 := F11_97.other W98 (Or.inr (slot_ne (Or.inl (hw _ (List.mem_of_getElem? (i := 102) rfl))) (Or.inr (hw _ (List.mem_of_getElem? (i := 87) rfl))) (by decide) (t := .int) (t' := (.array .int)) (by decide) (by decide)))
  have F12_98 := F12_97.other W98 (Or.inr (slot_ne (Or.inl (hw _ (List.mem_of_getElem? (i := 104) rfl))) (Or.inr (hw _ (List.mem_of_getElem? (i := 87) rfl))) (by decide) (t := .int) (t' := (.array .int)) (by decide) (by decide)))
  have F13_98 := F13_97.other W98 (Or.inr (slot_ne (Or.inl (hw _ (List.mem_of_getElem? (i := 110) rfl))) (Or.inr (hw _ (List.mem_of_getElem? (i := 87) rfl))) (by decide) (t := .int) (t' := (.array .int)) (by decide) (by decide)))
  have F1_98 := F1_97.other W98 (Or.inr (slot_ne (Or.inr (hw _ (List.mem_of_getElem? (i := 70) rfl))) (Or.inr (hw _ (List.mem_of_getElem? (i := 87) rfl))) (by decide) (t := (.array .int)) (t' := (.array .int)) (by decide) (by decide)))
  have F2_98 := F2_97.other W98 (Or.inr (slot_ne (Or.inr (hw _ (List.mem_of_getElem? (i := 72) rfl))) (Or.inr (hw _ (List.mem_of_getElem? (i := 87) rfl))) (by decide) (t := (.array .int)) (t' := (.array .int)) (by decide) (by decide)))
  have Vb85_98 := Vb85_97.other W98 (Ne.symm ne_d_b85)
  have F3_98 := F3_97.other W98 (Or.inr (slot_ne (Or.inr (hw _ (List.mem_of_getElem? (i := 74) rfl))) (Or.inr (hw _ (List.mem_of_getElem? (i := 87) rfl))) (by decide) (t := (.array .int)) (t' := (.array .int)) (by decide) (by decide)))
  have Vb87_98 := Vb87_97.other W98 (Ne.symm ne_d_b87)
  have F4_98 := F4_97.other W98 (Or.inr (slot_ne (Or.inr (hw _ (List.mem_of_getElem? (i := 76) rfl))) (Or.inr (hw _ (List.mem_of_getElem? (i := 87) rfl))) (by decide) (t := (.array .int)) (t' := (.array .int)) (by decide) (by decide)))
  have Vb89_98 := Vb89_97.other W98 (Ne.symm ne_d_b89)
  have F5_98 := F5_97.other W98 (Or.inr (slot_ne (Or.inr (hw _ (List.mem_of_getElem? (i := 78) rfl))) (Or.inr (hw _ (List.mem_of_getElem? (i := 87) rfl))) (by decide) (t := (.array .int)) (t' := (.array .int)) (by decide) (by decide)))
  have Vb91_98 := Vb91_97.other W98 (Ne.symm ne_d_b91)
  have F6_98 := F6_97.other W98 (Or.inr (slot_ne (Or.inr (hw _ (List.mem_of_getElem? (i := 80) rfl))) (Or.inr (hw _ (List.mem_of_getElem? (i := 87) rfl))) (by decide) (t := (.array .int)) (t' := (.array .int)) (by decide) (by decide)))
  have Vb93_98 := Vb93_97.other W98 (Ne.symm ne_d_b93)
  have F7_98 := F7_97.other W98 (Or.inr (slot_ne (Or.inr (hw _ (List.mem_of_getElem? (i := 83) rfl))) (Or.inr (hw _ (List.mem_of_getElem? (i := 87) rfl))) (by decide) (t := (.array .boolean)) (t' := (.array .int)) (by decide) (by decide)))
  have Vb95_98 := Vb95_97.other W98 (Ne.symm ne_d_b95)
  have F8_98 := F8_97.other W98 (Or.inr (slot_ne (Or.inr (hw _ (List.mem_of_getElem? (i := 85) rfl))) (Or.inr (hw _ (List.mem_of_getElem? (i := 87) rfl))) (by decide) (t := (.array .int)) (t' := (.array .int)) (by decide) (by decide)))
  have Vb97_98 := V97.other W98 (Ne.symm ne_d_b97)
  have Z98 : n0 ≤ h98.size := Nat.le_trans Z97 (Keep.of_wr W98).1
  have Kp98 := Kp97.wr W98 (Or.inl (List.mem_of_getElem? (i := 0) rfl))
  refine own_st (fun zw zk => XS.aloadN X98.here hx rfl (hb hby d12_63) rfl rfl zk) ?_
  obtain ⟨T99, X99, e99, st99⟩ := getF X98 hx hZ hown (host := "") (Or.inl (hw _ (List.mem_of_getElem? (i := 73) rfl))) Via.refl e98 F3_98 (g := (mkF m 64 #[.val (.ref d), .val (.ref ast), .val (.ref anx), .val (.int n3)] [(.ref d)])) rfl rfl (hb hby d12_64)
  refine own_st (fun zw zk => st99 zw zk) ?_
  refine own_st (fun zw zk => XS.iconst X99.here hx rfl (hb hby d12_67) zk) ?_
  obtain ⟨_, _, ⟨T100, L100, k100, n100⟩, -, X100, ⟨Lc100, hQ100, l100, y100, z100⟩, st100⟩ := Jvm.LawKit.callS X99 hx (y := (⟨"java/util/Arrays", "fill", "([II)V"⟩ : MethodName)) hown (mvT hZ (hw _ (List.mem_of_getElem? (i := 88) rfl))) (mvT hZ (hw _ (List.mem_of_getElem? (i := 89) rfl))) (mvT hZ (hw _ (List.mem_of_getElem? (i := 49) rfl))) (mvT hZ (hw _ (List.mem_of_getElem? (i := 90) rfl))) (by decide) (backOf (W := 0) (rm13 l Z a0 hw [] b85 (-1 : Int32) (List.replicate nn 0) fi n3 h98 n0 Z98 (Vb85_98) (G85) (own_ilz hn (List.length_replicate)) (hfi)) hZ (hw _ (List.mem_of_getElem? (i := 90) rfl)) (hw _ (List.mem_of_getElem? (i := 49) rfl)) (by decide) (by decide)) (g := (mkF m 68 #[.val (.ref d), .val (.ref ast), .val (.ref anx), .val (.int n3)] [(.int (-1 : Int32)), (.ref b85)])) rfl (by rw [hml]; rfl) (argsL := [(.ref b85), (.int (-1 : Int32))]) (rest := []) (lenOf pd_2 rfl) rfl (by show 2 * 0 + _ ≤ _; exact Nat.le_of_eq rfl) (hb hby d12_68) (fun _ _ => ⟨rfl, e99, (by decide : 7 + 0 ≤ _), (by decide : 112 + 0 ≤ _)⟩)
  dsimp only [Pt.U, Pt.locs, Pt.cells, Pt.slots] at X100 l100 y100 z100 st100 hQ100
  subst l100 y100 z100
  obtain ⟨rfl, N100q, K100, O100_0⟩ := hQ100
  have F0_100 := F0_98.keep K100
  have F10_100 := F10_98.keep K100 (ninS ne_d_b85 nin0)
  have F11_100 := F11_98.keep K100 (ninS ne_d_b85 nin0)
  have F12_100 := F12_98.keep K100 (ninS ne_d_b85 nin0)
  have F13_100 := F13_98.keep K100 (ninS ne_d_b85 nin0)
  have F1_100 := F1_98.keep K100 (ninS ne_d_b85 nin0)
  have F2_100 := F2_98.keep K100 (ninS ne_d_b85 nin0)
  have F3_100 := F3_98.keep K100 (ninS ne_d_b85 nin0)
  have Vb87_100 := Vb87_98.keep K100 (ninS (Ne.symm ne_b85_b87) nin0)
  have F4_100 := F4_98.keep K100 (ninS ne_d_b85 nin0)
  have Vb89_100 := Vb89_98.keep K100 (ninS (Ne.symm ne_b85_b89) nin0)
  have F5_100 := F5_98.keep K100 (ninS ne_d_b85 nin0)
  have Vb91_100 := Vb91_98.keep K100 (ninS (Ne.symm ne_b85_b91) nin0)
  have F6_100 := F6_98.keep K100 (ninS ne_d_b85 nin0)
  have Vb93_100 := Vb93_98.keep K100 (ninS (Ne.symm ne_b85_b93) nin0)
  have F7_100 := F7_98.keep K100 (ninS ne_d_b85 nin0)
  have Vb95_100 := Vb95_98.keep K100 (ninS (Ne.symm ne_b85_b95) nin0)
  have F8_100 := F8_98.keep K100 (ninS ne_d_b85 nin0)
  have Vb97_100 := Vb97_98.keep K100 (ninS (Ne.symm ne_b85_b97) nin0)
  have F9_100 := F9_98.keep K100 (ninS ne_d_b85 nin0)
  have Z100 : n0 ≤ T100.heap.size := Nat.le_trans Z98 K100.1
  have Kp100 := Kp98.trans K100 (allS (Or.inr sz85) all0)
  have N100 := Fr.app N98 N100q
  refine own_st (fun zw zk => st100 zw zk) ?_
  show own_Go p e below G (T100.setTop (mkF m 71 #[.val (.ref d), .val (.ref ast), .val (.ref anx), .val (.int n3)] []))
  subst hG
  obtain ⟨fs, hr, hrun, hended, hW, hsame⟩ := X100.leave (v := none) (hlocks := Bd.notSynchronized) (fun _ => rfl)
  refine ⟨_, X100.returnOut hx Bd.returns (hb hby d12_71) hr, _, hrun, hended, _, _, rfl, ?_, ⟨_, rfl⟩, hW, hsame.mono (by decide) (by decide)⟩
  show Q12 Z d ast anx n3 nn fi h0 n0 _ T100.heap _
  exact ⟨rfl, N100, b85, b87, b89, b91, b93, b95, b97, sz85, sz87, sz89, sz91, sz93, sz95, sz97, Kp100, F1_100, F2_100, F3_100, F4_100, F5_100, F6_100, F7_100, F8_100, F9_100, F10_100, F11_100, F12_100, F13_100, O100_0, Vb87_100, Vb89_100, Vb91_100, Vb93_100, Vb95_100, Vb97_100, ne_b85_b87, ne_b85_b89, ne_b85_b91, ne_b85_b93, ne_b85_b95, ne_b85_b97, ne_b87_b89, ne_b87_b91, ne_b87_b93, ne_b87_b95, ne_b87_b97, ne_b89_b91, ne_b89_b93, ne_b89_b95, ne_b89_b97, ne_b91_b93, ne_b91_b95, ne_b91_b97, ne_b93_b95, ne_b93_b97, ne_b95_b97⟩
theorem pd_3 : parseMethodDescriptor "([I[II)V" = some ⟨[(.array .int), (.array .int), .int], none⟩ := by decide +kernel
theorem d11_0 : decode prog_54_method_1_code 0 = .ok (.new 1, 3) := by decide +kernel
theorem d11_3 : decode prog_54_method_1_code 3 = .ok (.dup, 1) := by decide +kernel
theorem d11_4 : decode prog_54_method_1_code 4 = .ok (.aload_n 0, 1) := by decide +kernel
theorem d11_5 : decode prog_54_method_1_code 5 = .ok (.aload_n 1, 1) := by decide +kernel
theorem d11_6 : decode prog_54_method_1_code 6 = .ok (.iload_n 2, 1) := by decide +kernel
theorem d11_7 : decode prog_54_method_1_code 7 = .ok (.invokespecial 3, 3) := by decide +kernel
theorem d11_10 : decode prog_54_method_1_code 10 = .ok (.astore_n 3, 1) := by decide +kernel
theorem d11_11 : decode prog_54_method_1_code 11 = .ok (.iconst 0, 1) := by decide +kernel
theorem d11_12 : decode prog_54_method_1_code 12 = .ok (.istore 4, 2) := by decide +kernel
theorem d11_14 : decode prog_54_method_1_code 14 = .ok (.iload 4, 2) := by decide +kernel
theorem d11_16 : decode prog_54_method_1_code 16 = .ok (.iload_n 2, 1) := by decide +kernel
theorem d11_17 : decode prog_54_method_1_code 17 = .ok (.if_icmp .ge 25, 3) := by decide +kernel
theorem d11_20 : decode prog_54_method_1_code 20 = .ok (.aload_n 3, 1) := by decide +kernel
theorem d11_21 : decode prog_54_method_1_code 21 = .ok (.getfield 7, 3) := by decide +kernel
theorem d11_24 : decode prog_54_method_1_code 24 = .ok (.iload 4, 2) := by decide +kernel
theorem d11_26 : decode prog_54_method_1_code 26 = .ok (.iaload, 1) := by decide +kernel
theorem d11_27 : decode prog_54_method_1_code 27 = .ok (.ifCond .ge 9, 3) := by decide +kernel
theorem d11_30 : decode prog_54_method_1_code 30 = .ok (.aload_n 3, 1) := by decide +kernel
theorem d11_31 : decode prog_54_method_1_code 31 = .ok (.iload 4, 2) := by decide +kernel
theorem d11_33 : decode prog_54_method_1_code 33 = .ok (.invokevirtual 11, 3) := by decide +kernel
theorem d11_36 : decode prog_54_method_1_code 36 = .ok (.iinc 4 1, 3) := by decide +kernel
theorem d11_39 : decode prog_54_method_1_code 39 = .ok (.goto (-25), 3) := by decide +kernel
theorem d11_42 : decode prog_54_method_1_code 42 = .ok (.aload_n 3, 1) := by decide +kernel
theorem d11_43 : decode prog_54_method_1_code 43 = .ok (.getfield 15, 3) := by decide +kernel
theorem d11_46 : decode prog_54_method_1_code 46 = .ok (.areturn, 1) := by decide +kernel
theorem ef_rm11 (m : MethodId) (ast : Addr) (anx : Addr) (n2 : Int32) : entryFrame m #[(.ref ast), (.ref anx), (.int n2)] 5 = mkF m 0 #[.val (.ref ast), .val (.ref anx), .val (.int n2), .unset, .unset] [] := by first | (simp [entryFrame, mkF, argsToLocals, Value.category]; done) | rfl
def Q11 (Z : State) (ast : Addr) (anx : Addr) (n2 : Int32) (sl : List Int32) (nl : List Int32) (nn : Nat) (res : List Int32) (h0 : Heap) (n0 : Nat) (rv : Option Value) (hq : Heap) (Lq : List Loc) : Prop := ∃ bb : Addr, rv = some (.ref bb) ∧ Fr n0 Lq ∧ h0.size ≤ bb ∧ Keep h0 hq [] ∧ own_L Z hq bb .int ((own_il res))
set_option maxRecDepth 65536 in
set_option maxHeartbeats 40000000 in
theorem rm11 (l : Launch) (Z : State) (a0 : Array Value) (hw : ∀ d ∈ tables_1, d.before a0 Z = true) (ws : List Jvm.Cond) (ast : Addr) (anx : Addr) (n2 : Int32) (sl : List Int32) (nl : List Int32) (nn : Nat) (res : List Int32) (h0 : Heap) (n0 : Nat) (Z0 : n0 ≤ h0.size) (F0_ : own_L Z h0 ast .int ((own_il sl))) (F1_ : own_L Z h0 anx .int ((own_il nl))) (hn : n2.toInt = nn) (hnb : nn ≤ 15) (hE : own_comp sl nl n2 nn = some res) :
    MetFree l (⟨"com/example/passau/passau/insertion/TwoSat$Components", "of", "([I[II)[I"⟩ : MethodName) (head1 (Jvm.Cond.code (⟨"com/example/passau/passau/insertion/TwoSat$Components", "of", "([I[II)[I"⟩ : MethodName) prog_54_method_1_code 5 (some (.array .int)) :: ws) ({ frames := 3, cells := 8, slots := 125, locals := 44 } : Room)) (fun za U => za = #[(.ref ast), (.ref anx), (.int n2)] ∧ Z.Warmed39 U.vm ∧ U.heap = h0) (fun _ _ _ _ _ => True) (fun _ U o U' => ∃ rv Lq, o = .returned rv ∧ Q11 Z ast anx n2 sl nl nn res h0 n0 rv U'.heap Lq ∧ FrameEnd U o U' Lq ({ frames := 3, cells := 8, slots := 125, locals := 44 } : Room).cells ({ frames := 3, cells := 8, slots := 125, locals := 44 } : Room).slots) := by
  refine MetFree.of_bodySF (plainFor_of_name pn_1) hisR ?_
  intro p e s m args below meth c s₁ Bd hml0 hP hK
  obtain ⟨rfl, hZ, hh⟩ := hP
  have hx := Bd.exec
  have hby := Bd.bytes
  have hml : c.maxLocals = 5 := hml0
  have hown : s.vm.findClass "com/example/passau/passau/insertion/TwoSat$Components" = some m.cls := findClass_of_methodNamed Bd.named
  have hnm := (name_of_methodNamed Bd.named Bd.method).1
  have X0 : Stand p l e ({ frames := 3, cells := 8, slots := 125, locals := 44 } : Room) s m #[(.ref ast), (.ref anx), (.int n2)] below meth c s₁ [] 0 0 := Stand.of_body Bd
  have e0 : s₁.heap = h0 := by rw [← hh, Bd.state]; rfl
  have N0 := Fr.nil n0
  refine own_out (own_nm fun G hG => own_st (fun zt zk => castTop (ef_rm11 m ast anx n2) zk) ?_)
  have hE' := hE
  unfold own_comp at hE'
  obtain ⟨fi, hfi, hE'⟩ := own_bd hE'
  obtain ⟨SF, hrt, hE'⟩ := own_bd hE'
  have hres : res = SF.num := (Option.some.inj hE').symm
  show own_Go p e below G (s₁.setTop (mkF m 0 #[.val (.ref ast), .val (.ref anx), .val (.int n2), .unset, .unset] []))
  obtain ⟨T101, h101, X101, e101, E101, A101, D101, -, st101⟩ := newO X0 hx hZ hown (hw _ (List.mem_of_getElem? (i := 63) rfl)) (hw _ (List.mem_of_getElem? (i := 64) rfl)) (hw _ (List.mem_of_getElem? (i := 61) rfl)) e0 (g := (mkF m 0 #[.val (.ref ast), .val (.ref anx), .val (.int n2), .unset, .unset] [])) rfl (hb hby d11_0) (by decide) (by decide)
  obtain ⟨b101, g101⟩ : ∃ z, z = h0.size := ⟨_, rfl⟩
  rw [← g101] at A101 D101 st101
  have G101 : n0 ≤ b101 := Nat.le_trans Z0 (Nat.le_of_eq g101.symm)
  have ne_ast_b101 : ast ≠ b101 := Nat.ne_of_lt (Nat.lt_of_lt_of_le F0_.lt (Nat.le_of_eq g101.symm))
  have ne_anx_b101 : anx ≠ b101 := Nat.ne_of_lt (Nat.lt_of_lt_of_le F1_.lt (Nat.le_of_eq g101.symm))
  have F0_101 := F0_.ext E101
  have F1_101 := F1_.ext E101
  have Z101 : n0 ≤ h101.size := Nat.le_trans Z0 E101.1
  have sz101 : h0.size ≤ b101 := Nat.le_trans (Keep.refl h0 []).1 (Nat.le_of_eq g101.symm)
  have Kp101 := (Keep.refl h0 []).ext E101
  have Fb101start : Fld Z h101 b101 "com/example/passau/passau/insertion/TwoSat$Components" "start" "[I" .null := D101 (Or.inr (hw _ (List.mem_of_getElem? (i := 70) rfl))) (ty := (.array .int)) (by decide)
  have Fb101next : Fld Z h101 b101 "com/example/passau/passau/insertion/TwoSat$Components" "next" "[I" .null := D101 (Or.inr (hw _ (List.mem_of_getElem? (i := 72) rfl))) (ty := (.array .int)) (by decide)
  have Fb101index : Fld Z h101 b101 "com/example/passau/passau/insertion/TwoSat$Components" "index" "[I" .null := D101 (Or.inr (hw _ (List.mem_of_getElem? (i := 74) rfl))) (ty := (.array .int)) (by decide)
  have Fb101low : Fld Z h101 b101 "com/example/passau/passau/insertion/TwoSat$Components" "low" "[I" .null := D101 (Or.inr (hw _ (List.mem_of_getElem? (i := 76) rfl))) (ty := (.array .int)) (by decide)
  have Fb101number : Fld Z h101 b101 "com/example/passau/passau/insertion/TwoSat$Components" "number" "[I" .null := D101 (Or.inr (hw _ (List.mem_of_getElem? (i := 78) rfl))) (ty := (.array .int)) (by decide)
  have Fb101stack : Fld Z h101 b101 "com/example/passau/passau/insertion/TwoSat$Components" "stack" "[I" .null := D101 (Or.inr (hw _ (List.mem_of_getElem? (i := 80) rfl))) (ty := (.array .int)) (by decide)
  have Fb101onStack : Fld Z h101 b101 "com/example/passau/passau/insertion/TwoSat$Components" "onStack" "[Z" .null := D101 (Or.inr (hw _ (List.mem_of_getElem? (i := 83) rfl))) (ty := (.array .boolean)) (by decide)
  have Fb101path : Fld Z h101 b101 "com/example/passau/passau/insertion/TwoSat$Components" "path" "[I" .null := D101 (Or.inr (hw _ (List.mem_of_getElem? (i := 85) rfl))) (ty := (.array .int)) (by decide)
  have Fb101edge : Fld Z h101 b101 "com/example/passau/passau/insertion/TwoSat$Components" "edge" "[I" .null := D101 (Or.inr (hw _ (List.mem_of_getElem? (i := 87) rfl))) (ty := (.array .int)) (by decide)
  have Fb101depth : Fld Z h101 b101 "com/example/passau/passau/insertion/TwoSat$Components" "depth" "I" (.int (0 : Int32)) := D101 (Or.inl (hw _ (List.mem_of_getElem? (i := 96) rfl))) (ty := .int) (by decide)
  have Fb101counter : Fld Z h101 b101 "com/example/passau/passau/insertion/TwoSat$Components" "counter" "I" (.int (0 : Int32)) := D101 (Or.inl (hw _ (List.mem_of_getElem? (i := 102) rfl))) (ty := .int) (by decide)
  have Fb101stacked : Fld Z h101 b101 "com/example/passau/passau/insertion/TwoSat$Components" "stacked" "I" (.int (0 : Int32)) := D101 (Or.inl (hw _ (List.mem_of_getElem? (i := 104) rfl))) (ty := .int) (by decide)
  have Fb101components : Fld Z h101 b101 "com/example/passau/passau/insertion/TwoSat$Components" "components" "I" (.int (0 : Int32)) := D101 (Or.inl (hw _ (List.mem_of_getElem? (i := 110) rfl))) (ty := .int) (by decide)
  refine own_st (fun zw zk => st101 zw zk) ?_
  refine own_st (fun zw zk => XS.dup X101.here hx rfl (hb hby d11_3) rfl rfl zk) ?_
  refine own_st (fun zw zk => XS.aloadN X101.here hx rfl (hb hby d11_4) rfl rfl zk) ?_
  refine own_st (fun zw zk => XS.aloadN X101.here hx rfl (hb hby d11_5) rfl rfl zk) ?_
  refine own_st (fun zw zk => XS.iloadN X101.here hx rfl (hb hby d11_6) rfl zk) ?_
  obtain ⟨_, _, ⟨T102, L102, k102, n102⟩, -, X102, ⟨Lc102, hQ102, l102, y102, z102⟩, st102⟩ := X101.specialBack hx (y := (⟨"com/example/passau/passau/insertion/TwoSat$Components", "<init>", "([I[II)V"⟩ : MethodName)) rfl hown (mvT hZ (hw _ (List.mem_of_getElem? (i := 65) rfl))) (mvT hZ (hw _ (List.mem_of_getElem? (i := 66) rfl))) (mvT hZ (hw _ (List.mem_of_getElem? (i := 67) rfl))) (by decide) (backOf (W := 1) (rm12 l Z a0 hw [] b101 ast anx n2 nn fi h101 n0 Z101 (A101) (Fb101start) (Fb101next) (Fb101index) (Fb101low) (Fb101number) (Fb101stack) (Fb101onStack) (Fb101path) (Fb101edge) (Fb101depth) (Fb101counter) (Fb101stacked) (Fb101components) (G101) (hn) (hnb) (hfi)) hZ (hw _ (List.mem_of_getElem? (i := 67) rfl)) (hw _ (List.mem_of_getElem? (i := 61) rfl)) (by decide) (by decide)) (g := (mkF m 7 #[.val (.ref ast), .val (.ref anx), .val (.int n2), .unset, .unset] [(.int n2), (.ref anx), (.ref ast), (.ref b101), (.ref b101)])) rfl (by rw [hml]; rfl) (Steps.refl _) (a := b101) (argsL := [(.ref ast), (.ref anx), (.int n2)]) (rest := [(.ref b101)]) (lenOf pd_3 rfl) rfl (by show 2 * 0 + _ ≤ _; exact Nat.le_of_eq rfl) (hb hby d11_7) (fun _ _ => ⟨rfl, e101, (by decide : 1 + 7 ≤ _), (by decide : 13 + 112 ≤ _)⟩)
  dsimp only [Pt.U, Pt.locs, Pt.cells, Pt.slots] at X102 l102 y102 z102 st102 hQ102
  subst l102 y102 z102
  obtain ⟨rfl, N102q, aix102, alo102, anu102, ask102, aos102, apa102, aed102, szaix102, szalo102, szanu102, szask102, szaos102, szapa102, szaed102, K102, O102_0, O102_1, O102_2, O102_3, O102_4, O102_5, O102_6, O102_7, O102_8, O102_9, O102_10, O102_11, O102_12, O102_13, O102_14, O102_15, O102_16, O102_17, O102_18, O102_19, P102_0, P102_1, P102_2, P102_3, P102_4, P102_5, P102_6, P102_7, P102_8, P102_9, P102_10, P102_11, P102_12, P102_13, P102_14, P102_15, P102_16, P102_17, P102_18, P102_19, P102_20⟩ := hQ102
  have ne_ast_aix102 : ast ≠ aix102 := Nat.ne_of_lt (Nat.lt_of_lt_of_le F0_101.lt szaix102)
  have ne_anx_aix102 : anx ≠ aix102 := Nat.ne_of_lt (Nat.lt_of_lt_of_le F1_101.lt szaix102)
  have ne_b101_aix102 : b101 ≠ aix102 := Nat.ne_of_lt (Nat.lt_of_lt_of_le Fb101start.lt szaix102)
  have Gaix102 : n0 ≤ aix102 := Nat.le_trans Z101 szaix102
  have Szaix102 : h0.size ≤ aix102 := Nat.le_trans Kp101.1 szaix102
  have ne_ast_alo102 : ast ≠ alo102 := Nat.ne_of_lt (Nat.lt_of_lt_of_le F0_101.lt szalo102)
  have ne_anx_alo102 : anx ≠ alo102 := Nat.ne_of_lt (Nat.lt_of_lt_of_le F1_101.lt szalo102)
  have ne_b101_alo102 : b101 ≠ alo102 := Nat.ne_of_lt (Nat.lt_of_lt_of_le Fb101start.lt szalo102)
  have Galo102 : n0 ≤ alo102 := Nat.le_trans Z101 szalo102
  have Szalo102 : h0.size ≤ alo102 := Nat.le_trans Kp101.1 szalo102
  have ne_ast_anu102 : ast ≠ anu102 := Nat.ne_of_lt (Nat.lt_of_lt_of_le F0_101.lt szanu102)
  have ne_anx_anu102 : anx ≠ anu102 := Nat.ne_of_lt (Nat.lt_of_lt_of_le F1_101.lt szanu102)
  have ne_b101_anu102 : b101 ≠ anu102 := Nat.ne_of_lt (Nat.lt_of_lt_of_le Fb101start.lt szanu102)
  have Ganu102 : n0 ≤ anu102 := Nat.le_trans Z101 szanu102
  have Szanu102 : h0.size ≤ anu102 := Nat.le_trans Kp101.1 szanu102
  have ne_ast_ask102 : ast ≠ ask102 := Nat.ne_of_lt (Nat.lt_of_lt_of_le F0_101.lt szask102)
  have ne_anx_ask102 : anx ≠ ask102 := Nat.ne_of_lt (Nat.lt_of_lt_of_le F1_101.lt szask102)
  have ne_b101_ask102 : b101 ≠ ask102 := Nat.ne_of_lt (Nat.lt_of_lt_of_le Fb101start.lt szask102)
  have Gask102 : n0 ≤ ask102 := Nat.le_trans Z101 szask102
  have Szask102 : h0.size ≤ ask102 := Nat.le_trans Kp101.1 szask102
  have ne_ast_aos102 : ast ≠ aos102 := Nat.ne_of_lt (Nat.lt_of_lt_of_le F0_101.lt szaos102)
  have ne_anx_aos102 : anx ≠ aos102 := Nat.ne_of_lt (Nat.lt_of_lt_of_le F1_101.lt szaos102)
  have ne_b101_aos102 : b101 ≠ aos102 := Nat.ne_of_lt (Nat.lt_of_lt_of_le Fb101start.lt szaos102)
  have Gaos102 : n0 ≤ aos102 := Nat.le_trans Z101 szaos102
  have Szaos102 : h0.size ≤ aos102 := Nat.le_trans Kp101.1 szaos102
  have ne_ast_apa102 : ast ≠ apa102 := Nat.ne_of_lt (Nat.lt_of_lt_of_le F0_101.lt szapa102)
  have ne_anx_apa102 : anx ≠ apa102 := Nat.ne_of_lt (Nat.lt_of_lt_of_le F1_101.lt szapa102)
  have ne_b101_apa102 : b101 ≠ apa102 := Nat.ne_of_lt (Nat.lt_of_lt_of_le Fb101start.lt szapa102)
  have Gapa102 : n0 ≤ apa102 := Nat.le_trans Z101 szapa102
  have Szapa102 : h0.size ≤ apa102 := Nat.le_trans Kp101.1 szapa102
  have ne_ast_aed102 : ast ≠ aed102 := Nat.ne_of_lt (Nat.lt_of_lt_of_le F0_101.lt szaed102)
  have ne_anx_aed102 : anx ≠ aed102 := Nat.ne_of_lt (Nat.lt_of_lt_of_le F1_101.lt szaed102)
  have ne_b101_aed102 : b101 ≠ aed102 := Nat.ne_of_lt (Nat.lt_of_lt_of_le Fb101start.lt szaed102)
  have Gaed102 : n0 ≤ aed102 := Nat.le_trans Z101 szaed102
  have Szaed102 : h0.size ≤ aed102 := Nat.le_trans Kp101.1 szaed102
  have F0_102 := F0_101.keep K102 (ninS ne_ast_b101 nin0)
  have F1_102 := F1_101.keep K102 (ninS ne_anx_b101 nin0)
  have Ab101_102 := A101.keep K102
  have Z102 : n0 ≤ T102.heap.size := Nat.le_trans Z101 K102.1
  have Kp102 := Kp101.trans K102 (allS (Or.inr sz101) all0)
  have N102 := Fr.app N0 N102q
  refine own_jp st102 ?_
  refine own_st (fun zw zk => XS.astoreN X102.here hx rfl (hb hby d11_10) rfl rfl rfl zk) ?_
  show own_Go p e below G (T102.setTop (mkF m 11 #[.val (.ref ast), .val (.ref anx), .val (.int n2), .val (.ref b101), .unset] []))
  refine own_st (fun zw zk => XS.iconst X102.here hx rfl (hb hby d11_11) zk) ?_
  refine own_st (fun zw zk => XS.istore X102.here hx rfl (hb hby d11_12) rfl rfl zk) ?_
  have loop14_103 : ∀ (bk : Nat) (ii : Int32) (kf : Nat) (Sx : own_S) (hj103 : Heap) (Zj103 : n0 ≤ hj103.size) (Kj103 : Keep h0 hj103 []) (Fj103_0 : Exa Z hj103 b101 "com/example/passau/passau/insertion/TwoSat$Components") (Fj103_1 : Fld Z hj103 b101 "com/example/passau/passau/insertion/TwoSat$Components" "start" "[I" (.ref ast)) (Fj103_2 : Fld Z hj103 b101 "com/example/passau/passau/insertion/TwoSat$Components" "next" "[I" (.ref anx)) (Fj103_3 : Fld Z hj103 b101 "com/example/passau/passau/insertion/TwoSat$Components" "index" "[I" (.ref aix102)) (Fj103_4 : Fld Z hj103 b101 "com/example/passau/passau/insertion/TwoSat$Components" "low" "[I" (.ref alo102)) (Fj103_5 : Fld Z hj103 b101 "com/example/passau/passau/insertion/TwoSat$Components" "number" "[I" (.ref anu102)) (Fj103_6 : Fld Z hj103 b101 "com/example/passau/passau/insertion/TwoSat$Components" "stack" "[I" (.ref ask102)) (Fj103_7 : Fld Z hj103 b101 "com/example/passau/passau/insertion/TwoSat$Components" "onStack" "[Z" (.ref aos102)) (Fj103_8 : Fld Z hj103 b101 "com/example/passau/passau/insertion/TwoSat$Components" "path" "[I" (.ref apa102)) (Fj103_9 : Fld Z hj103 b101 "com/example/passau/passau/insertion/TwoSat$Components" "edge" "[I" (.ref aed102)) (Fj103_10 : Fld Z hj103 b101 "com/example/passau/passau/insertion/TwoSat$Components" "depth" "I" (.int Sx.dep)) (Fj103_11 : Fld Z hj103 b101 "com/example/passau/passau/insertion/TwoSat$Components" "counter" "I" (.int Sx.cnt)) (Fj103_12 : Fld Z hj103 b101 "com/example/passau/passau/insertion/TwoSat$Components" "stacked" "I" (.int Sx.stk)) (Fj103_13 : Fld Z hj103 b101 "com/example/passau/passau/insertion/TwoSat$Components" "components" "I" (.int Sx.cmp)) (Fj103_14 : own_L Z hj103 aix102 .int ((own_il Sx.idx))) (Fj103_15 : own_L Z hj103 alo102 .int ((own_il Sx.low))) (Fj103_16 : own_L Z hj103 anu102 .int ((own_il Sx.num))) (Fj103_17 : own_L Z hj103 ask102 .int ((own_il Sx.sta))) (Fj103_18 : own_L Z hj103 aos102 .boolean ((own_il Sx.ons))) (Fj103_19 : own_L Z hj103 apa102 .int ((own_il Sx.pth))) (Fj103_20 : own_L Z hj103 aed102 .int ((own_il Sx.edg))) (Fj103_21 : own_L Z hj103 ast .int ((own_il sl))) (Fj103_22 : own_L Z hj103 anx .int ((own_il nl))) (Tj103 : State) (Lj103 : List Loc) (Xj103 : Stand p l e ({ frames := 3, cells := 8, slots := 125, locals := 44 } : Room) s m #[(.ref ast), (.ref anx), (.int n2)] below meth c Tj103 Lj103 8 125) (ej103 : Tj103.heap = hj103) (Nj103 : Fr n0 Lj103) (hI : own_roots sl nl n2 kf ii Sx = some SF) (hbk : kf < bk), own_Go p e below G (Tj103.setTop (mkF m 14 #[.val (.ref ast), .val (.ref anx), .val (.int n2), .val (.ref b101), .val (.int ii)] [])) := by
    intro bk
    induction bk with
    | zero =>
      intro ii kf Sx hj103 Zj103 Kj103 Fj103_0 Fj103_1 Fj103_2 Fj103_3 Fj103_4 Fj103_5 Fj103_6 Fj103_7 Fj103_8 Fj103_9 Fj103_10 Fj103_11 Fj103_12 Fj103_13 Fj103_14 Fj103_15 Fj103_16 Fj103_17 Fj103_18 Fj103_19 Fj103_20 Fj103_21 Fj103_22 Tj103 Lj103 Xj103 ej103 Nj103 hI hbk
      exact absurd hbk (Nat.not_lt_zero _)
    | succ bk ih =>
      intro ii kf Sx hj103 Zj103 Kj103 Fj103_0 Fj103_1 Fj103_2 Fj103_3 Fj103_4 Fj103_5 Fj103_6 Fj103_7 Fj103_8 Fj103_9 Fj103_10 Fj103_11 Fj103_12 Fj103_13 Fj103_14 Fj103_15 Fj103_16 Fj103_17 Fj103_18 Fj103_19 Fj103_20 Fj103_21 Fj103_22 Tj103 Lj103 Xj103 ej103 Nj103 hI hbk
      show own_Go p e below G (Tj103.setTop (mkF m 14 #[.val (.ref ast), .val (.ref anx), .val (.int n2), .val (.ref b101), .val (.int ii)] []))
      refine own_st (fun zw zk => XS.iload Xj103.here hx rfl (hb hby d11_14) rfl zk) ?_
      refine own_st (fun zw zk => XS.iloadN Xj103.here hx rfl (hb hby d11_16) rfl zk) ?_
      by_cases hc17 : ii < n2
      · refine own_st (fun zw zk => XS.icmpNo Xj103.here hx rfl (hb hby d11_17) rfl (tlt hc17).2.1 zk) ?_
        obtain ⟨kg, x9, hkf, hx9, hJ⟩ := own_roots_inv hI hc17
        refine own_st (fun zw zk => XS.aloadN Xj103.here hx rfl (hb hby d11_20) rfl rfl zk) ?_
        obtain ⟨T104, X104, e104, st104⟩ := getF Xj103 hx hZ hown (host := "") (Or.inl (hw _ (List.mem_of_getElem? (i := 73) rfl))) Via.refl ej103 Fj103_3 (g := (mkF m 21 #[.val (.ref ast), .val (.ref anx), .val (.int n2), .val (.ref b101), .val (.int ii)] [(.ref b101)])) rfl rfl (hb hby d11_21)
        refine own_st (fun zw zk => st104 zw zk) ?_
        refine own_st (fun zw zk => XS.iload X104.here hx rfl (hb hby d11_24) rfl zk) ?_
        refine own_st (fun zw zk => own_ild X104 hx hZ e104 Fj103_14 (j := ii) (v := (.int x9)) (i := ii.toInt.toNat) (own_nn (own_gn hx9)) (own_nat (own_gn hx9)) (own_gv hx9) (g := (mkF m 26 #[.val (.ref ast), .val (.ref anx), .val (.int n2), .val (.ref b101), .val (.int ii)] [(.int ii), (.ref aix102)])) rfl rfl (hb hby d11_26) _ zk) ?_
        by_cases hc27 : x9 < (0 : Int32)
        · refine own_st (fun zw zk => XS.ifNo X104.here hx rfl (hb hby d11_27) rfl ((if0 _ _).trans (tlt hc27).2.1) zk) ?_
          rw [if_pos hc27] at hJ
          obtain ⟨S2, hwk, hJ⟩ := own_bd hJ
          show own_Go p e below G (T104.setTop (mkF m 30 #[.val (.ref ast), .val (.ref anx), .val (.int n2), .val (.ref b101), .val (.int ii)] []))
          refine own_st (fun zw zk => XS.aloadN X104.here hx rfl (hb hby d11_30) rfl rfl zk) ?_
          refine own_st (fun zw zk => XS.iload X104.here hx rfl (hb hby d11_31) rfl zk) ?_
          obtain ⟨cq105, q105, q105'⟩ := Fj103_0.cell
          obtain ⟨_, _, ⟨T105, L105, k105, n105⟩, -, X105, ⟨Lc105, hQ105, l105, y105, z105⟩, st105⟩ := X104.privateBack hx (y := (⟨"com/example/passau/passau/insertion/TwoSat$Components", "walkFrom", "(I)V"⟩ : MethodName)) hown (mvT hZ (hw _ (List.mem_of_getElem? (i := 91) rfl))) (mvT hZ (hw _ (List.mem_of_getElem? (i := 92) rfl))) (own_selp hZ (hw _ (List.mem_of_getElem? (i := 64) rfl)) (hw _ (List.mem_of_getElem? (i := 93) rfl)) (hw _ (List.mem_of_getElem? (i := 92) rfl)) (by decide)) (Cond.privateMethod_at (mvP hZ (hw _ (List.mem_of_getElem? (i := 93) rfl)) (args := #[]))) (mvT hZ (hw _ (List.mem_of_getElem? (i := 94) rfl))) (by decide) (backOf (W := 0) (rm14 l Z a0 hw [] b101 ii ast anx aix102 alo102 anu102 ask102 aos102 apa102 aed102 sl nl Sx S2 hj103 n0 Zj103 (Fj103_0) (Fj103_1) (Fj103_2) (Fj103_3) (Fj103_4) (Fj103_5) (Fj103_6) (Fj103_7) (Fj103_8) (Fj103_9) (Fj103_10) (Fj103_11) (Fj103_12) (Fj103_13) (Fj103_14) (Fj103_15) (Fj103_16) (Fj103_17) (Fj103_18) (Fj103_19) (Fj103_20) (Fj103_21) (Fj103_22) (G101) (Gaix102) (Galo102) (Ganu102) (Gask102) (Gaos102) (Gapa102) (Gaed102) (ne_b101_aix102) (ne_b101_alo102) (ne_b101_anu102) (ne_b101_ask102) (ne_b101_aos102) (ne_b101_apa102) (ne_b101_aed102) (P102_0) (P102_1) (P102_2) (P102_3) (P102_4) (P102_5) (P102_6) (P102_7) (P102_8) (P102_9) (P102_10) (P102_11) (P102_12) (P102_13) (P102_14) (P102_15) (P102_16) (P102_17) (P102_18) (P102_19) (P102_20) ((Ne.symm ne_ast_b101)) ((Ne.symm ne_anx_b101)) ((Ne.symm ne_ast_aix102)) ((Ne.symm ne_anx_aix102)) ((Ne.symm ne_ast_alo102)) ((Ne.symm ne_anx_alo102)) ((Ne.symm ne_ast_anu102)) ((Ne.symm ne_anx_anu102)) ((Ne.symm ne_ast_ask102)) ((Ne.symm ne_anx_ask102)) ((Ne.symm ne_ast_aos102)) ((Ne.symm ne_anx_aos102)) ((Ne.symm ne_ast_apa102)) ((Ne.symm ne_anx_apa102)) ((Ne.symm ne_ast_aed102)) ((Ne.symm ne_anx_aed102)) (hwk)) hZ (hw _ (List.mem_of_getElem? (i := 94) rfl)) (hw _ (List.mem_of_getElem? (i := 61) rfl)) (by decide) (by decide)) (g := (mkF m 33 #[.val (.ref ast), .val (.ref anx), .val (.int n2), .val (.ref b101), .val (.int ii)] [(.int ii), (.ref b101)])) rfl (by rw [hml]; rfl) (Steps.refl _) (a := b101) (by rw [e104]; exact q105) q105' (argsL := [(.int ii)]) (rest := []) (lenOf pd_1 rfl) rfl (by show 2 * 0 + _ ≤ _; exact Nat.le_of_eq rfl) (hb hby d11_33) (fun _ _ => ⟨rfl, e104, (by decide : 8 + 0 ≤ _), (by decide : 125 + 0 ≤ _)⟩)
          dsimp only [Pt.U, Pt.locs, Pt.cells, Pt.slots] at X105 l105 y105 z105 st105 hQ105
          subst l105 y105 z105
          obtain ⟨rfl, N105q, K105, O105_0, O105_1, O105_2, O105_3, O105_4, O105_5, O105_6, O105_7, O105_8, O105_9, O105_10, O105_11, O105_12, O105_13, O105_14, O105_15, O105_16, O105_17, O105_18, O105_19⟩ := hQ105
          have Fj1030_105 := Fj103_0.keep K105
          have Fj10321_105 := Fj103_21.keep K105 (ninS ne_ast_b101 (ninS ne_ast_aix102 (ninS ne_ast_alo102 (ninS ne_ast_anu102 (ninS ne_ast_ask102 (ninS ne_ast_aos102 (ninS ne_ast_apa102 (ninS ne_ast_aed102 nin0))))))))
          have Fj10322_105 := Fj103_22.keep K105 (ninS ne_anx_b101 (ninS ne_anx_aix102 (ninS ne_anx_alo102 (ninS ne_anx_anu102 (ninS ne_anx_ask102 (ninS ne_anx_aos102 (ninS ne_anx_apa102 (ninS ne_anx_aed102 nin0))))))))
          have Z105 : n0 ≤ T105.heap.size := Nat.le_trans Zj103 K105.1
          have Kp105 := Kj103.trans K105 (allS (Or.inr sz101) (allS (Or.inr Szaix102) (allS (Or.inr Szalo102) (allS (Or.inr Szanu102) (allS (Or.inr Szask102) (allS (Or.inr Szaos102) (allS (Or.inr Szapa102) (allS (Or.inr Szaed102) all0))))))))
          have N105 := Fr.app Nj103 N105q
          refine own_jp st105 ?_
          refine own_st (fun zw zk => XS.iinc X105.here hx rfl (hb hby d11_36) rfl rfl zk) ?_
          show own_Go p e below G (T105.setTop (mkF m 39 #[.val (.ref ast), .val (.ref anx), .val (.int n2), .val (.ref b101), .val (.int (ii + (1 : Int32)))] []))
          refine own_st (fun zw zk => XS.goto X105.here hx rfl (pc0 := 39) (pc' := 14) rfl (hb hby d11_39) (by decide) (by decide) zk) ?_
          show own_Go p e below G (T105.setTop (mkF m 14 #[.val (.ref ast), .val (.ref anx), .val (.int n2), .val (.ref b101), .val (.int (ii + (1 : Int32)))] []))
          exact ih (ii + (1 : Int32)) (kg) (S2) _ Z105 Kp105 Fj1030_105 O105_0 O105_1 O105_2 O105_3 O105_4 O105_5 O105_6 O105_7 O105_8 O105_9 O105_10 O105_11 O105_12 O105_13 O105_14 O105_15 O105_16 O105_17 O105_18 O105_19 Fj10321_105 Fj10322_105 _ _ X105 rfl N105 (hJ) (by omega)
        · refine own_st (fun zw zk => XS.ifYes X104.here hx rfl (pc0 := 27) (pc' := 36) rfl (hb hby d11_27) rfl ((if0 _ _).trans (flt hc27).2.1) (by decide) (by decide) zk) ?_
          rw [if_neg hc27] at hJ
          show own_Go p e below G (T104.setTop (mkF m 36 #[.val (.ref ast), .val (.ref anx), .val (.int n2), .val (.ref b101), .val (.int ii)] []))
          refine own_st (fun zw zk => XS.iinc X104.here hx rfl (hb hby d11_36) rfl rfl zk) ?_
          show own_Go p e below G (T104.setTop (mkF m 39 #[.val (.ref ast), .val (.ref anx), .val (.int n2), .val (.ref b101), .val (.int (ii + (1 : Int32)))] []))
          refine own_st (fun zw zk => XS.goto X104.here hx rfl (pc0 := 39) (pc' := 14) rfl (hb hby d11_39) (by decide) (by decide) zk) ?_
          show own_Go p e below G (T104.setTop (mkF m 14 #[.val (.ref ast), .val (.ref anx), .val (.int n2), .val (.ref b101), .val (.int (ii + (1 : Int32)))] []))
          exact ih (ii + (1 : Int32)) (kg) (Sx) _ Zj103 Kj103 Fj103_0 Fj103_1 Fj103_2 Fj103_3 Fj103_4 Fj103_5 Fj103_6 Fj103_7 Fj103_8 Fj103_9 Fj103_10 Fj103_11 Fj103_12 Fj103_13 Fj103_14 Fj103_15 Fj103_16 Fj103_17 Fj103_18 Fj103_19 Fj103_20 Fj103_21 Fj103_22 _ _ X104 e104 Nj103 (hJ) (by omega)
      · refine own_st (fun zw zk => XS.icmpYes Xj103.here hx rfl (pc0 := 17) (pc' := 42) rfl (hb hby d11_17) rfl (flt hc17).2.1 (by decide) (by decide) zk) ?_
        have hSF := own_roots_end hI hc17
        have hres' : res = Sx.num := by rw [← hSF]; exact hres
        refine own_st (fun zw zk => XS.aloadN Xj103.here hx rfl (hb hby d11_42) rfl rfl zk) ?_
        obtain ⟨T106, X106, e106, st106⟩ := getF Xj103 hx hZ hown (host := "") (Or.inl (hw _ (List.mem_of_getElem? (i := 77) rfl))) Via.refl ej103 Fj103_5 (g := (mkF m 43 #[.val (.ref ast), .val (.ref anx), .val (.int n2), .val (.ref b101), .val (.int ii)] [(.ref b101)])) rfl rfl (hb hby d11_43)
        refine own_st (fun zw zk => st106 zw zk) ?_
        subst hG
        obtain ⟨fs, hr, hrun, hended, hW, hsame⟩ := X106.leave (v := some (.ref anu102)) (hlocks := Bd.notSynchronized) (fun h => by rw [Bd.returns] at h; cases h)
        refine ⟨_, X106.areturnOut hx rfl Bd.returns rfl (hb hby d11_46) hr, _, hrun, hended, _, _, rfl, ?_, ⟨_, rfl⟩, hW, hsame.mono (by decide) (by decide)⟩
        show Q11 Z ast anx n2 sl nl nn res h0 n0 _ T106.heap _
        rw [e106]
        exact ⟨anu102, rfl, Nj103, Szanu102, Kj103, (own_Lc (congrArg own_il hres') Fj103_16)⟩
  show own_Go p e below G (T102.setTop (mkF m 14 #[.val (.ref ast), .val (.ref anx), .val (.int n2), .val (.ref b101), .val (.int (0 : Int32))] []))
  exact loop14_103 _ (0 : Int32) (17) ((own_init nn fi)) _ Z102 Kp102 Ab101_102 O102_0 O102_1 O102_2 O102_3 O102_4 O102_5 O102_6 O102_7 O102_8 O102_9 O102_10 O102_11 O102_12 O102_13 O102_14 O102_15 O102_16 O102_17 O102_18 O102_19 F0_102 F1_102 _ _ X102 rfl N102 (hrt) (Nat.lt_succ_self _)
theorem d9_0 : decode jdk_65_method_123_code 0 = .ok (.iload_n 1, 1) := by decide +kernel
theorem d9_1 : decode jdk_65_method_123_code 1 = .ok (.aload_n 0, 1) := by decide +kernel
theorem d9_2 : decode jdk_65_method_123_code 2 = .ok (.arraylength, 1) := by decide +kernel
theorem d9_3 : decode jdk_65_method_123_code 3 = .ok (.if_icmp .ne 11, 3) := by decide +kernel
theorem d9_14 : decode jdk_65_method_123_code 14 = .ok (.iload_n 1, 1) := by decide +kernel
theorem d9_15 : decode jdk_65_method_123_code 15 = .ok (.newarray .int, 2) := by decide +kernel
theorem d9_17 : decode jdk_65_method_123_code 17 = .ok (.astore_n 2, 1) := by decide +kernel
theorem d9_18 : decode jdk_65_method_123_code 18 = .ok (.aload_n 0, 1) := by decide +kernel
theorem d9_19 : decode jdk_65_method_123_code 19 = .ok (.iconst 0, 1) := by decide +kernel
theorem d9_20 : decode jdk_65_method_123_code 20 = .ok (.aload_n 2, 1) := by decide +kernel
theorem d9_21 : decode jdk_65_method_123_code 21 = .ok (.iconst 0, 1) := by decide +kernel
theorem d9_22 : decode jdk_65_method_123_code 22 = .ok (.aload_n 0, 1) := by decide +kernel
theorem d9_23 : decode jdk_65_method_123_code 23 = .ok (.arraylength, 1) := by decide +kernel
theorem d9_24 : decode jdk_65_method_123_code 24 = .ok (.iload_n 1, 1) := by decide +kernel
theorem d9_25 : decode jdk_65_method_123_code 25 = .ok (.invokestatic 304, 3) := by decide +kernel
theorem d9_28 : decode jdk_65_method_123_code 28 = .ok (.invokestatic 150, 3) := by decide +kernel
theorem d9_31 : decode jdk_65_method_123_code 31 = .ok (.aload_n 2, 1) := by decide +kernel
theorem d9_32 : decode jdk_65_method_123_code 32 = .ok (.areturn, 1) := by decide +kernel
theorem ef_rm9 (m : MethodId) (b0 : Addr) (n1 : Int32) : entryFrame m #[(.ref b0), (.int n1)] 3 = mkF m 0 #[.val (.ref b0), .val (.int n1), .unset] [] := by first | (simp [entryFrame, mkF, argsToLocals, Value.category]; done) | rfl
def Q9 (Z : State) (b0 : Addr) (n1 : Int32) (la : List Int32) (nn : Nat) (h0 : Heap) (n0 : Nat) (rv : Option Value) (hq : Heap) (Lq : List Loc) : Prop := ∃ bb : Addr, rv = some (.ref bb) ∧ Fr n0 Lq ∧ h0.size ≤ bb ∧ Keep h0 hq [] ∧ own_L Z hq bb .int ((own_il (la.take nn)))
set_option maxRecDepth 65536 in
set_option maxHeartbeats 40000000 in
theorem rm9 (l : Launch) (Z : State) (a0 : Array Value) (hw : ∀ d ∈ tables_1, d.before a0 Z = true) (ws : List Jvm.Cond) (b0 : Addr) (n1 : Int32) (la : List Int32) (nn : Nat) (h0 : Heap) (n0 : Nat) (Z0 : n0 ≤ h0.size) (F0_ : own_L Z h0 b0 .int ((own_il la))) (hn : n1.toInt = nn) (hnb : nn ≤ 15) (hla : la.length = nn + 1) :
    MetFree l (⟨"java/util/Arrays", "copyOf", "([II)[I"⟩ : MethodName) (head1 (Jvm.Cond.code (⟨"java/util/Arrays", "copyOf", "([II)[I"⟩ : MethodName) jdk_65_method_123_code 3 (some (.array .int)) :: ws) ({ frames := 1, cells := 1, slots := 16, locals := 18 } : Room)) (fun za U => za = #[(.ref b0), (.int n1)] ∧ Z.Warmed39 U.vm ∧ U.heap = h0) (fun _ _ _ _ _ => True) (fun _ U o U' => ∃ rv Lq, o = .returned rv ∧ Q9 Z b0 n1 la nn h0 n0 rv U'.heap Lq ∧ FrameEnd U o U' Lq ({ frames := 1, cells := 1, slots := 16, locals := 18 } : Room).cells ({ frames := 1, cells := 1, slots := 16, locals := 18 } : Room).slots) := by
  refine MetFree.of_bodySF (plainFor_of_name pn_2) hisR ?_
  intro p e s m args below meth c s₁ Bd hml0 hP hK
  obtain ⟨rfl, hZ, hh⟩ := hP
  have hx := Bd.exec
  have hby := Bd.bytes
  have hml : c.maxLocals = 3 := hml0
  have hown : s.vm.findClass "java/util/Arrays" = some m.cls := findClass_of_methodNamed Bd.named
  have hnm := (name_of_methodNamed Bd.named Bd.method).1
  have X0 : Stand p l e ({ frames := 1, cells := 1, slots := 16, locals := 18 } : Room) s m #[(.ref b0), (.int n1)] below meth c s₁ [] 0 0 := Stand.of_body Bd
  have e0 : s₁.heap = h0 := by rw [← hh, Bd.state]; rfl
  have N0 := Fr.nil n0
  refine own_out (own_nm fun G hG => own_st (fun zt zk => castTop (ef_rm9 m b0 n1) zk) ?_)
  show own_Go p e below G (s₁.setTop (mkF m 0 #[.val (.ref b0), .val (.int n1), .unset] []))
  refine own_st (fun zw zk => XS.iloadN X0.here hx rfl (hb hby d9_0) rfl zk) ?_
  refine own_st (fun zw zk => XS.aloadN X0.here hx rfl (hb hby d9_1) rfl rfl zk) ?_
  refine own_st (fun zw zk => own_len X0 hx hZ e0 F0_ (z := ((own_il la).length.toInt32)) (rfl) (g := (mkF m 2 #[.val (.ref b0), .val (.int n1), .unset] [(.ref b0), (.int n1)])) rfl rfl (hb hby d9_2) _ zk) ?_
  have hc3 : ¬ (n1 = ((own_il la).length.toInt32)) := own_ne1 hn (own_l32 hla hnb)
  refine own_st (fun zw zk => XS.icmpYes X0.here hx rfl (pc0 := 3) (pc' := 14) rfl (hb hby d9_3) rfl (feq hc3).2 (by decide) (by decide) zk) ?_
  refine own_st (fun zw zk => XS.iloadN X0.here hx rfl (hb hby d9_14) rfl zk) ?_
  obtain ⟨T107, h107, k107, X107, e107, E107, A107, st107⟩ := newP X0 hx hZ (hw _ (List.mem_of_getElem? (i := 9) rfl)) e0 (g := (mkF m 15 #[.val (.ref b0), .val (.int n1), .unset] [(.int n1)])) rfl (hb hby d9_15) rfl (own_nn hn) (cap := 16) (by rw [own_nat hn]; omega) (by decide) (by decide) (by decide)
  obtain ⟨b107, g107⟩ : ∃ z, z = h0.size := ⟨_, rfl⟩
  rw [← g107] at A107 st107
  have G107 : n0 ≤ b107 := Nat.le_trans Z0 (Nat.le_of_eq g107.symm)
  have ne_b0_b107 : b0 ≠ b107 := Nat.ne_of_lt (Nat.lt_of_lt_of_le F0_.lt (Nat.le_of_eq g107.symm))
  have F0_107 := F0_.ext E107
  have Z107 : n0 ≤ h107.size := Nat.le_trans Z0 E107.1
  have sz107 : h0.size ≤ b107 := Nat.le_trans (Keep.refl h0 []).1 (Nat.le_of_eq g107.symm)
  have Kp107 := (Keep.refl h0 []).ext E107
  have V107 : own_L Z h107 b107 .int ((own_il (List.replicate (nn) 0))) := (own_newc hn (own_L.new A107))
  refine own_st (fun zw zk => st107 zw zk) ?_
  refine own_st (fun zw zk => XS.astoreN X107.here hx rfl (hb hby d9_17) rfl rfl rfl zk) ?_
  show own_Go p e below G (T107.setTop (mkF m 18 #[.val (.ref b0), .val (.int n1), .val (.ref b107)] []))
  refine own_st (fun zw zk => XS.aloadN X107.here hx rfl (hb hby d9_18) rfl rfl zk) ?_
  refine own_st (fun zw zk => XS.iconst X107.here hx rfl (hb hby d9_19) zk) ?_
  refine own_st (fun zw zk => XS.aloadN X107.here hx rfl (hb hby d9_20) rfl rfl zk) ?_
  refine own_st (fun zw zk => XS.iconst X107.here hx rfl (hb hby d9_21) zk) ?_
  refine own_st (fun zw zk => XS.aloadN X107.here hx rfl (hb hby d9_22) rfl rfl zk) ?_
  refine own_st (fun zw zk => own_len X107 hx hZ e107 F0_107 (z := ((own_il la).length.toInt32)) (rfl) (g := (mkF m 23 #[.val (.ref b0), .val (.int n1), .val (.ref b107)] [(.ref b0), (.int (0 : Int32)), (.ref b107), (.int (0 : Int32)), (.ref b0)])) rfl rfl (hb hby d9_23) _ zk) ?_
  refine own_st (fun zw zk => XS.iloadN X107.here hx rfl (hb hby d9_24) rfl zk) ?_
  obtain ⟨_, _, ⟨T108, L108, k108, n108⟩, -, X108, ⟨Lc108, hQ108, l108, y108, z108⟩, st108⟩ := Jvm.LawKit.callS X107 hx (y := (⟨"java/lang/Math", "min", "(II)I"⟩ : MethodName)) hown (mvT hZ (hw _ (List.mem_of_getElem? (i := 51) rfl))) (mvT hZ (hw _ (List.mem_of_getElem? (i := 52) rfl))) (mvT hZ (hw _ (List.mem_of_getElem? (i := 53) rfl))) (mvT hZ (hw _ (List.mem_of_getElem? (i := 54) rfl))) (by decide) (backOf (W := 4) (rm10 l Z a0 hw [] ((own_il la).length.toInt32) n1 h107 n0 Z107) hZ (hw _ (List.mem_of_getElem? (i := 54) rfl)) (hw _ (List.mem_of_getElem? (i := 53) rfl)) (by decide) (by decide)) (g := (mkF m 25 #[.val (.ref b0), .val (.int n1), .val (.ref b107)] [(.int n1), (.int ((own_il la).length.toInt32)), (.int (0 : Int32)), (.ref b107), (.int (0 : Int32)), (.ref b0)])) rfl (by rw [hml]; rfl) (argsL := [(.int ((own_il la).length.toInt32)), (.int n1)]) (rest := [(.int (0 : Int32)), (.ref b107), (.int (0 : Int32)), (.ref b0)]) (lenOf pd_0 rfl) rfl (by show 2 * 0 + _ ≤ _; exact Nat.le_of_eq rfl) (hb hby d9_25) (fun _ _ => ⟨rfl, e107, (by decide : 1 + 0 ≤ _), (by decide : 16 + 0 ≤ _)⟩)
  dsimp only [Pt.U, Pt.locs, Pt.cells, Pt.slots] at X108 l108 y108 z108 st108 hQ108
  subst l108 y108 z108
  obtain ⟨rfl, N108q, e108⟩ := hQ108
  have N108 := Fr.app N0 N108q
  refine own_st (fun zw zk => st108 zw zk) ?_
  show own_Go p e below G (T108.setTop (mkF m 28 #[.val (.ref b0), .val (.int n1), .val (.ref b107)] [(.int (own_mn ((own_il la).length.toInt32) n1)), (.int (0 : Int32)), (.ref b107), (.int (0 : Int32)), (.ref b0)]))
  rw [show (own_mn ((own_il la).length.toInt32) n1) = n1 from own_mn2 hn (own_l32 hla hnb)]
  obtain ⟨T109, h109, L109, X109, e109, N109, K109, V109, st109⟩ := own_cp X108 hx hZ hown (hw _ (List.mem_of_getElem? (i := 55) rfl)) (hw _ (List.mem_of_getElem? (i := 58) rfl)) (hw _ (List.mem_of_getElem? (i := 56) rfl)) (hw _ (List.mem_of_getElem? (i := 57) rfl)) e108 F0_107 V107 rfl (own_il_fit _) (own_il_fit _) (by rw [own_il_len]; omega) (by rw [own_il_len, List.length_replicate]; omega) (sp := (0 : Int32)) (dp := (0 : Int32)) (nn := n1) (0) (0) (nn) (by decide) (by decide) (by decide) (by decide) (own_nn hn) (own_nat hn) (by rw [own_il_len]; omega) (by rw [own_il_len, List.length_replicate]; omega) N108 G107 (g := (mkF m 28 #[.val (.ref b0), .val (.int n1), .val (.ref b107)] [(.int n1), (.int (0 : Int32)), (.ref b107), (.int (0 : Int32)), (.ref b0)])) rfl (by rw [hml]; rfl) rfl (hb hby d9_28) (by decide) (W := 0) (by show 2 * 0 + _ ≤ _; exact Nat.le_of_eq rfl) (by decide)
  have Vb107_109 : own_L Z h109 b107 .int (((own_il (List.replicate (nn) 0)).take 0 ++ ((own_il la).drop 0).take nn ++ (own_il (List.replicate (nn) 0)).drop (0 + nn))) := V109
  refine own_st (fun zw zk => st109 zw zk) ?_
  have F0_109 := F0_107.keep K109 (ninS ne_b0_b107 nin0)
  have Z109 : n0 ≤ h109.size := Nat.le_trans Z107 K109.1
  have Kp109 := Kp107.trans K109 (allS (Or.inr sz107) all0)
  have V31 := own_Lc (own_cpres hla) Vb107_109
  refine own_st (fun zw zk => XS.aloadN X109.here hx rfl (hb hby d9_31) rfl rfl zk) ?_
  subst hG
  obtain ⟨fs, hr, hrun, hended, hW, hsame⟩ := X109.leave (v := some (.ref b107)) (hlocks := Bd.notSynchronized) (fun h => by rw [Bd.returns] at h; cases h)
  refine ⟨_, X109.areturnOut hx rfl Bd.returns rfl (hb hby d9_32) hr, _, hrun, hended, _, _, rfl, ?_, ⟨_, rfl⟩, hW, hsame.mono (by decide) (by decide)⟩
  show Q9 Z b0 n1 la nn h0 n0 _ T109.heap _
  rw [e109]
  exact ⟨b107, rfl, N109, sz107, Kp109, V31⟩
theorem d6_0 : decode prog_53_method_9_code 0 = .ok (.aload_n 0, 1) := by decide +kernel
theorem d6_1 : decode prog_53_method_9_code 1 = .ok (.getfield 63, 3) := by decide +kernel
theorem d6_4 : decode prog_53_method_9_code 4 = .ok (.aload_n 0, 1) := by decide +kernel
theorem d6_5 : decode prog_53_method_9_code 5 = .ok (.getfield 7, 3) := by decide +kernel
theorem d6_8 : decode prog_53_method_9_code 8 = .ok (.arraylength, 1) := by decide +kernel
theorem d6_9 : decode prog_53_method_9_code 9 = .ok (.if_icmp .ne 37, 3) := by decide +kernel
theorem d6_46 : decode prog_53_method_9_code 46 = .ok (.aload_n 0, 1) := by decide +kernel
theorem d6_47 : decode prog_53_method_9_code 47 = .ok (.getfield 7, 3) := by decide +kernel
theorem d6_50 : decode prog_53_method_9_code 50 = .ok (.aload_n 0, 1) := by decide +kernel
theorem d6_51 : decode prog_53_method_9_code 51 = .ok (.getfield 63, 3) := by decide +kernel
theorem d6_54 : decode prog_53_method_9_code 54 = .ok (.iload_n 1, 1) := by decide +kernel
theorem d6_55 : decode prog_53_method_9_code 55 = .ok (.iastore, 1) := by decide +kernel
theorem d6_56 : decode prog_53_method_9_code 56 = .ok (.aload_n 0, 1) := by decide +kernel
theorem d6_57 : decode prog_53_method_9_code 57 = .ok (.getfield 13, 3) := by decide +kernel
theorem d6_60 : decode prog_53_method_9_code 60 = .ok (.aload_n 0, 1) := by decide +kernel
theorem d6_61 : decode prog_53_method_9_code 61 = .ok (.getfield 63, 3) := by decide +kernel
theorem d6_64 : decode prog_53_method_9_code 64 = .ok (.iload_n 2, 1) := by decide +kernel
theorem d6_65 : decode prog_53_method_9_code 65 = .ok (.iastore, 1) := by decide +kernel
theorem d6_66 : decode prog_53_method_9_code 66 = .ok (.aload_n 0, 1) := by decide +kernel
theorem d6_67 : decode prog_53_method_9_code 67 = .ok (.dup, 1) := by decide +kernel
theorem d6_68 : decode prog_53_method_9_code 68 = .ok (.getfield 63, 3) := by decide +kernel
theorem d6_71 : decode prog_53_method_9_code 71 = .ok (.iconst 1, 1) := by decide +kernel
theorem d6_72 : decode prog_53_method_9_code 72 = .ok (.iadd, 1) := by decide +kernel
theorem d6_73 : decode prog_53_method_9_code 73 = .ok (.putfield 63, 3) := by decide +kernel
theorem d6_76 : decode prog_53_method_9_code 76 = .ok (.return_, 1) := by decide +kernel
theorem ef_rm6 (m : MethodId) (d : Addr) (x1 : Int32) (x2 : Int32) : entryFrame m #[(.ref d), (.int x1), (.int x2)] 3 = mkF m 0 #[.val (.ref d), .val (.int x1), .val (.int x2)] [] := by first | (simp [entryFrame, mkF, argsToLocals, Value.category]; done) | rfl
def Q6 (Z : State) (d : Addr) (x1 : Int32) (x2 : Int32) (afr : Addr) (ato : Addr) (im : Int32) (va : Int32) (lf : List Int32) (lt : List Int32) (lf1 : List Int32) (lt1 : List Int32) (h0 : Heap) (n0 : Nat) (rv : Option Value) (hq : Heap) (Lq : List Loc) : Prop := rv = none ∧ Fr n0 Lq ∧ Keep h0 hq [d, afr, ato] ∧ Fld Z hq d "com/example/passau/passau/insertion/TwoSat" "from" "[I" (.ref afr) ∧ Fld Z hq d "com/example/passau/passau/insertion/TwoSat" "to" "[I" (.ref ato) ∧ Fld Z hq d "com/example/passau/passau/insertion/TwoSat" "variables" "I" (.int va) ∧ Fld Z hq d "com/example/passau/passau/insertion/TwoSat" "implications" "I" (.int (im + (1 : Int32))) ∧ own_L Z hq afr .int ((own_il lf1)) ∧ own_L Z hq ato .int ((own_il lt1))
set_option maxRecDepth 65536 in
set_option maxHeartbeats 40000000 in
theorem rm6 (l : Launch) (Z : State) (a0 : Array Value) (hw : ∀ d ∈ tables_1, d.before a0 Z = true) (ws : List Jvm.Cond) (d : Addr) (x1 : Int32) (x2 : Int32) (afr : Addr) (ato : Addr) (im : Int32) (va : Int32) (lf : List Int32) (lt : List Int32) (lf1 : List Int32) (lt1 : List Int32) (h0 : Heap) (n0 : Nat) (Z0 : n0 ≤ h0.size) (F0_ : Exa Z h0 d "com/example/passau/passau/insertion/TwoSat") (F1_ : Fld Z h0 d "com/example/passau/passau/insertion/TwoSat" "from" "[I" (.ref afr)) (F2_ : Fld Z h0 d "com/example/passau/passau/insertion/TwoSat" "to" "[I" (.ref ato)) (F3_ : Fld Z h0 d "com/example/passau/passau/insertion/TwoSat" "variables" "I" (.int va)) (F4_ : Fld Z h0 d "com/example/passau/passau/insertion/TwoSat" "implications" "I" (.int im)) (F5_ : own_L Z h0 afr .int ((own_il lf))) (F6_ : own_L Z h0 ato .int ((own_il lt))) (ge_d : n0 ≤ d) (ge_afr : n0 ≤ afr) (ge_ato : n0 ≤ ato) (ne_d_afr : d ≠ afr) (ne_d_ato : d ≠ ato) (ne_afr_ato : afr ≠ ato) (hs1 : own_set lf im x1 = some lf1) (hs2 : own_set lt im x2 = some lt1) (hni : ¬ im = (16 : Int32)) (hll : lf.length = 16) :
    MetFree l (⟨"com/example/passau/passau/insertion/TwoSat", "arc", "(II)V"⟩ : MethodName) (head1 (Jvm.Cond.code (⟨"com/example/passau/passau/insertion/TwoSat", "arc", "(II)V"⟩ : MethodName) prog_53_method_9_code 3 none :: ws) ({ frames := 0, cells := 0, slots := 0, locals := 0 } : Room)) (fun za U => za = #[(.ref d), (.int x1), (.int x2)] ∧ Z.Warmed39 U.vm ∧ U.heap = h0) (fun _ _ _ _ _ => True) (fun _ U o U' => ∃ rv Lq, o = .returned rv ∧ Q6 Z d x1 x2 afr ato im va lf lt lf1 lt1 h0 n0 rv U'.heap Lq ∧ FrameEnd U o U' Lq ({ frames := 0, cells := 0, slots := 0, locals := 0 } : Room).cells ({ frames := 0, cells := 0, slots := 0, locals := 0 } : Room).slots) := by
  refine MetFree.of_bodySF (plainFor_of_name pn_0) hisR ?_
  intro p e s m args below meth c s₁ Bd hml0 hP hK
  obtain ⟨rfl, hZ, hh⟩ := hP
  have hx := Bd.exec
  have hby := Bd.bytes
  have hml : c.maxLocals = 3 := hml0
  have hown : s.vm.findClass "com/example/passau/passau/insertion/TwoSat" = some m.cls := findClass_of_methodNamed Bd.named
  have hnm := (name_of_methodNamed Bd.named Bd.method).1
  have X0 : Stand p l e ({ frames := 0, cells := 0, slots := 0, locals := 0 } : Room) s m #[(.ref d), (.int x1), (.int x2)] below meth c s₁ [] 0 0 := Stand.of_body Bd
  have e0 : s₁.heap = h0 := by rw [← hh, Bd.state]; rfl
  have N0 := Fr.nil n0
  refine own_out (own_nm fun G hG => own_st (fun zt zk => castTop (ef_rm6 m d x1 x2) zk) ?_)
  show own_Go p e below G (s₁.setTop (mkF m 0 #[.val (.ref d), .val (.int x1), .val (.int x2)] []))
  refine own_st (fun zw zk => XS.aloadN X0.here hx rfl (hb hby d6_0) rfl rfl zk) ?_
  obtain ⟨T110, X110, e110, st110⟩ := getF X0 hx hZ hown (host := "") (Or.inl (hw _ (List.mem_of_getElem? (i := 33) rfl))) Via.refl e0 F4_ (g := (mkF m 1 #[.val (.ref d), .val (.int x1), .val (.int x2)] [(.ref d)])) rfl rfl (hb hby d6_1)
  refine own_st (fun zw zk => st110 zw zk) ?_
  refine own_st (fun zw zk => XS.aloadN X110.here hx rfl (hb hby d6_4) rfl rfl zk) ?_
  obtain ⟨T111, X111, e111, st111⟩ := getF X110 hx hZ hown (host := "") (Or.inl (hw _ (List.mem_of_getElem? (i := 10) rfl))) Via.refl e110 F1_ (g := (mkF m 5 #[.val (.ref d), .val (.int x1), .val (.int x2)] [(.ref d), (.int im)])) rfl rfl (hb hby d6_5)
  refine own_st (fun zw zk => st111 zw zk) ?_
  refine own_st (fun zw zk => own_len X111 hx hZ e111 F5_ (z := (16 : Int32)) (own_ilz (by decide) hll) (g := (mkF m 8 #[.val (.ref d), .val (.int x1), .val (.int x2)] [(.ref afr), (.int im)])) rfl rfl (hb hby d6_8) _ zk) ?_
  have hc9 : ¬ (im = (16 : Int32)) := hni
  refine own_st (fun zw zk => XS.icmpYes X111.here hx rfl (pc0 := 9) (pc' := 46) rfl (hb hby d6_9) rfl (feq hc9).2 (by decide) (by decide) zk) ?_
  refine own_st (fun zw zk => XS.aloadN X111.here hx rfl (hb hby d6_46) rfl rfl zk) ?_
  obtain ⟨T112, X112, e112, st112⟩ := getF X111 hx hZ hown (host := "") (Or.inl (hw _ (List.mem_of_getElem? (i := 10) rfl))) Via.refl e111 F1_ (g := (mkF m 47 #[.val (.ref d), .val (.int x1), .val (.int x2)] [(.ref d)])) rfl rfl (hb hby d6_47)
  refine own_st (fun zw zk => st112 zw zk) ?_
  show own_Go p e below G (T112.setTop (mkF m 50 #[.val (.ref d), .val (.int x1), .val (.int x2)] [(.ref afr)]))
  refine own_st (fun zw zk => XS.aloadN X112.here hx rfl (hb hby d6_50) rfl rfl zk) ?_
  obtain ⟨T113, X113, e113, st113⟩ := getF X112 hx hZ hown (host := "") (Or.inl (hw _ (List.mem_of_getElem? (i := 33) rfl))) Via.refl e112 F4_ (g := (mkF m 51 #[.val (.ref d), .val (.int x1), .val (.int x2)] [(.ref d), (.ref afr)])) rfl rfl (hb hby d6_51)
  refine own_st (fun zw zk => st113 zw zk) ?_
  refine own_st (fun zw zk => XS.iloadN X113.here hx rfl (hb hby d6_54) rfl zk) ?_
  obtain ⟨T114, h114, X114, e114, W114, V114, st114⟩ := own_ist X113 hx hZ e113 F5_ (j := im) (im.toInt.toNat) (own_nn (own_sn hs1)) (own_nat (own_sn hs1)) (own_sl hs1) (g := (mkF m 55 #[.val (.ref d), .val (.int x1), .val (.int x2)] [(.int x1), (.int im), (.ref afr)])) rfl rfl (hb hby d6_55)
  have F5_114 : own_L Z h114 afr .int ((own_il lf1)) := (own_Lc (own_se hs1) V114)
  have N114 := Fr.snoc X114 N0 ge_afr
  refine own_st (fun zw zk => st114 zw zk) ?_
  have F0_114 := F0_.wr W114
  have F1_114 := F1_.other W114 (Or.inl ne_d_afr)
  have F2_114 := F2_.other W114 (Or.inl ne_d_afr)
  have F3_114 := F3_.other W114 (Or.inl ne_d_afr)
  have F4_114 := F4_.other W114 (Or.inl ne_d_afr)
  have F6_114 := F6_.other W114 (Ne.symm ne_afr_ato)
  have Z114 : n0 ≤ h114.size := Nat.le_trans Z0 (Keep.of_wr W114).1
  have Kp114 := (Keep.refl h0 [d, afr, ato]).wr W114 (Or.inl (List.mem_of_getElem? (i := 1) rfl))
  refine own_st (fun zw zk => XS.aloadN X114.here hx rfl (hb hby d6_56) rfl rfl zk) ?_
  obtain ⟨T115, X115, e115, st115⟩ := getF X114 hx hZ hown (host := "") (Or.inl (hw _ (List.mem_of_getElem? (i := 12) rfl))) Via.refl e114 F2_114 (g := (mkF m 57 #[.val (.ref d), .val (.int x1), .val (.int x2)] [(.ref d)])) rfl rfl (hb hby d6_57)
  refine own_st (fun zw zk => st115 zw zk) ?_
  refine own_st (fun zw zk => XS.aloadN X115.here hx rfl (hb hby d6_60) rfl rfl zk) ?_
  obtain ⟨T116, X116, e116, st116⟩ := getF X115 hx hZ hown (host := "") (Or.inl (hw _ (List.mem_of_getElem? (i := 33) rfl))) Via.refl e115 F4_114 (g := (mkF m 61 #[.val (.ref d), .val (.int x1), .val (.int x2)] [(.ref d), (.ref ato)])) rfl rfl (hb hby d6_61)
  refine own_st (fun zw zk => st116 zw zk) ?_
  show own_Go p e below G (T116.setTop (mkF m 64 #[.val (.ref d), .val (.int x1), .val (.int x2)] [(.int im), (.ref ato)]))
  refine own_st (fun zw zk => XS.iloadN X116.here hx rfl (hb hby d6_64) rfl zk) ?_
  obtain ⟨T117, h117, X117, e117, W117, V117, st117⟩ := own_ist X116 hx hZ e116 F6_114 (j := im) (im.toInt.toNat) (own_nn (own_sn hs2)) (own_nat (own_sn hs2)) (own_sl hs2) (g := (mkF m 65 #[.val (.ref d), .val (.int x1), .val (.int x2)] [(.int x2), (.int im), (.ref ato)])) rfl rfl (hb hby d6_65)
  have F6_117 : own_L Z h117 ato .int ((own_il lt1)) := (own_Lc (own_se hs2) V117)
  have N117 := Fr.snoc X117 N114 ge_ato
  refine own_st (fun zw zk => st117 zw zk) ?_
  have F0_117 := F0_114.wr W117
  have F1_117 := F1_114.other W117 (Or.inl ne_d_ato)
  have F2_117 := F2_114.other W117 (Or.inl ne_d_ato)
  have F3_117 := F3_114.other W117 (Or.inl ne_d_ato)
  have F4_117 := F4_114.other W117 (Or.inl ne_d_ato)
  have F5_117 := F5_114.other W117 ne_afr_ato
  have Z117 : n0 ≤ h117.size := Nat.le_trans Z114 (Keep.of_wr W117).1
  have Kp117 := Kp114.wr W117 (Or.inl (List.mem_of_getElem? (i := 2) rfl))
  refine own_st (fun zw zk => XS.aloadN X117.here hx rfl (hb hby d6_66) rfl rfl zk) ?_
  refine own_st (fun zw zk => XS.dup X117.here hx rfl (hb hby d6_67) rfl rfl zk) ?_
  obtain ⟨T118, X118, e118, st118⟩ := getF X117 hx hZ hown (host := "") (Or.inl (hw _ (List.mem_of_getElem? (i := 33) rfl))) Via.refl e117 F4_117 (g := (mkF m 68 #[.val (.ref d), .val (.int x1), .val (.int x2)] [(.ref d), (.ref d)])) rfl rfl (hb hby d6_68)
  refine own_st (fun zw zk => st118 zw zk) ?_
  refine own_st (fun zw zk => XS.iconst X118.here hx rfl (hb hby d6_71) zk) ?_
  refine own_st (fun zw zk => XS.iadd X118.here hx rfl (hb hby d6_72) rfl zk) ?_
  obtain ⟨T119, h119, X119, e119, W119, st119⟩ := putF X118 hx hZ hown (host := "") (Or.inl (hw _ (List.mem_of_getElem? (i := 33) rfl))) Via.refl e118 F4_117 F0_117 (Or.inl (hw _ (List.mem_of_getElem? (i := 34) rfl))) (hw _ (List.mem_of_getElem? (i := 1) rfl)) (ty := .int) (by decide) rfl rfl (g := (mkF m 73 #[.val (.ref d), .val (.int x1), .val (.int x2)] [(.int (im + (1 : Int32))), (.ref d)])) rfl rfl (hb hby d6_73)
  have F4_119 := F4_117.same W119
  have N119 := Fr.snoc X119 N117 ge_d
  refine own_st (fun zw zk => st119 zw zk) ?_
  have F0_119 := F0_117.wr W119
  have F1_119 := F1_117.other W119 (Or.inr (slot_ne (Or.inl (hw _ (List.mem_of_getElem? (i := 11) rfl))) (Or.inl (hw _ (List.mem_of_getElem? (i := 34) rfl))) (by decide) (t := (.array .int)) (t' := .int) (by decide) (by decide)))
  have F2_119 := F2_117.other W119 (Or.inr (slot_ne (Or.inl (hw _ (List.mem_of_getElem? (i := 13) rfl))) (Or.inl (hw _ (List.mem_of_getElem? (i := 34) rfl))) (by decide) (t := (.array .int)) (t' := .int) (by decide) (by decide)))
  have F3_119 := F3_117.other W119 (Or.inr (slot_ne (Or.inl (hw _ (List.mem_of_getElem? (i := 15) rfl))) (Or.inl (hw _ (List.mem_of_getElem? (i := 34) rfl))) (by decide) (t := .int) (t' := .int) (by decide) (by decide)))
  have F5_119 := F5_117.other W119 (Ne.symm ne_d_afr)
  have F6_119 := F6_117.other W119 (Ne.symm ne_d_ato)
  have Z119 : n0 ≤ h119.size := Nat.le_trans Z117 (Keep.of_wr W119).1
  have Kp119 := Kp117.wr W119 (Or.inl (List.mem_of_getElem? (i := 0) rfl))
  show own_Go p e below G (T119.setTop (mkF m 76 #[.val (.ref d), .val (.int x1), .val (.int x2)] []))
  subst hG
  obtain ⟨fs, hr, hrun, hended, hW, hsame⟩ := X119.leave (v := none) (hlocks := Bd.notSynchronized) (fun _ => rfl)
  refine ⟨_, X119.returnOut hx Bd.returns (hb hby d6_76) hr, _, hrun, hended, _, _, rfl, ?_, ⟨_, rfl⟩, hW, hsame.mono (by decide) (by decide)⟩
  show Q6 Z d x1 x2 afr ato im va lf lt lf1 lt1 h0 n0 _ T119.heap _
  rw [e119]
  exact ⟨rfl, N119, Kp119, F1_119, F2_119, F3_119, F4_119, F5_119, F6_119⟩
theorem pd_4 : parseMethodDescriptor "(I)I" = some ⟨[.int], some .int⟩ := by decide +kernel
theorem pd_5 : parseMethodDescriptor "(II)V" = some ⟨[.int, .int], none⟩ := by decide +kernel
theorem d4_0 : decode prog_53_method_4_code 0 = .ok (.aload_n 0, 1) := by decide +kernel
theorem d4_1 : decode prog_53_method_4_code 1 = .ok (.iload_n 1, 1) := by decide +kernel
theorem d4_2 : decode prog_53_method_4_code 2 = .ok (.invokestatic 24, 3) := by decide +kernel
theorem d4_5 : decode prog_53_method_4_code 5 = .ok (.iload_n 2, 1) := by decide +kernel
theorem d4_6 : decode prog_53_method_4_code 6 = .ok (.invokevirtual 28, 3) := by decide +kernel
theorem d4_9 : decode prog_53_method_4_code 9 = .ok (.aload_n 0, 1) := by decide +kernel
theorem d4_10 : decode prog_53_method_4_code 10 = .ok (.iload_n 2, 1) := by decide +kernel
theorem d4_11 : decode prog_53_method_4_code 11 = .ok (.invokestatic 24, 3) := by decide +kernel
theorem d4_14 : decode prog_53_method_4_code 14 = .ok (.iload_n 1, 1) := by decide +kernel
theorem d4_15 : decode prog_53_method_4_code 15 = .ok (.invokevirtual 28, 3) := by decide +kernel
theorem d4_18 : decode prog_53_method_4_code 18 = .ok (.return_, 1) := by decide +kernel
theorem ef_rm4 (m : MethodId) (d : Addr) (x1 : Int32) (x2 : Int32) : entryFrame m #[(.ref d), (.int x1), (.int x2)] 3 = mkF m 0 #[.val (.ref d), .val (.int x1), .val (.int x2)] [] := by first | (simp [entryFrame, mkF, argsToLocals, Value.category]; done) | rfl
def Q4 (Z : State) (d : Addr) (x1 : Int32) (x2 : Int32) (afr : Addr) (ato : Addr) (im : Int32) (va : Int32) (lf : List Int32) (lt : List Int32) (lf1 : List Int32) (lf2 : List Int32) (lt1 : List Int32) (lt2 : List Int32) (h0 : Heap) (n0 : Nat) (rv : Option Value) (hq : Heap) (Lq : List Loc) : Prop := rv = none ∧ Fr n0 Lq ∧ Keep h0 hq [d, afr, ato] ∧ Fld Z hq d "com/example/passau/passau/insertion/TwoSat" "from" "[I" (.ref afr) ∧ Fld Z hq d "com/example/passau/passau/insertion/TwoSat" "to" "[I" (.ref ato) ∧ Fld Z hq d "com/example/passau/passau/insertion/TwoSat" "variables" "I" (.int va) ∧ Fld Z hq d "com/example/passau/passau/insertion/TwoSat" "implications" "I" (.int ((im + (1 : Int32)) + (1 : Int32))) ∧ own_L Z hq afr .int ((own_il lf2)) ∧ own_L Z hq ato .int ((own_il lt2))
set_option maxRecDepth 65536 in
set_option maxHeartbeats 40000000 in
theorem rm4 (l : Launch) (Z : State) (a0 : Array Value) (hw : ∀ d ∈ tables_1, d.before a0 Z = true) (ws : List Jvm.Cond) (d : Addr) (x1 : Int32) (x2 : Int32) (afr : Addr) (ato : Addr) (im : Int32) (va : Int32) (lf : List Int32) (lt : List Int32) (lf1 : List Int32) (lf2 : List Int32) (lt1 : List Int32) (lt2 : List Int32) (h0 : Heap) (n0 : Nat) (Z0 : n0 ≤ h0.size) (F0_ : Exa Z h0 d "com/example/passau/passau/insertion/TwoSat") (F1_ : Fld Z h0 d "com/example/passau/passau/insertion/TwoSat" "from" "[I" (.ref afr)) (F2_ : Fld Z h0 d "com/example/passau/passau/insertion/TwoSat" "to" "[I" (.ref ato)) (F3_ : Fld Z h0 d "com/example/passau/passau/insertion/TwoSat" "variables" "I" (.int va)) (F4_ : Fld Z h0 d "com/example/passau/passau/insertion/TwoSat" "implications" "I" (.int im)) (F5_ : own_L Z h0 afr .int ((own_il lf))) (F6_ : own_L Z h0 ato .int ((own_il lt))) (ge_d : n0 ≤ d) (ge_afr : n0 ≤ afr) (ge_ato : n0 ≤ ato) (ne_d_afr : d ≠ afr) (ne_d_ato : d ≠ ato) (ne_afr_ato : afr ≠ ato) (hs1a : own_set lf im (own_not x1) = some lf1) (hs1b : own_set lt im x2 = some lt1) (hs2a : own_set lf1 (im + (1 : Int32)) (own_not x2) = some lf2) (hs2b : own_set lt1 (im + (1 : Int32)) x1 = some lt2) (hni1 : ¬ im = (16 : Int32)) (hni2 : ¬ (im + (1 : Int32)) = (16 : Int32)) (hll : lf.length = 16) :
    MetFree l (⟨"com/example/passau/passau/insertion/TwoSat", "either", "(II)V"⟩ : MethodName) (head1 (Jvm.Cond.code (⟨"com/example/passau/passau/insertion/TwoSat", "either", "(II)V"⟩ : MethodName) prog_53_method_4_code 3 none :: ws) ({ frames := 1, cells := 0, slots := 0, locals := 14 } : Room)) (fun za U => za = #[(.ref d), (.int x1), (.int x2)] ∧ Z.Warmed39 U.vm ∧ U.heap = h0) (fun _ _ _ _ _ => True) (fun _ U o U' => ∃ rv Lq, o = .returned rv ∧ Q4 Z d x1 x2 afr ato im va lf lt lf1 lf2 lt1 lt2 h0 n0 rv U'.heap Lq ∧ FrameEnd U o U' Lq ({ frames := 1, cells := 0, slots := 0, locals := 14 } : Room).cells ({ frames := 1, cells := 0, slots := 0, locals := 14 } : Room).slots) := by
  refine MetFree.of_bodySF (plainFor_of_name pn_0) hisR ?_
  intro p e s m args below meth c s₁ Bd hml0 hP hK
  obtain ⟨rfl, hZ, hh⟩ := hP
  have hx := Bd.exec
  have hby := Bd.bytes
  have hml : c.maxLocals = 3 := hml0
  have hown : s.vm.findClass "com/example/passau/passau/insertion/TwoSat" = some m.cls := findClass_of_methodNamed Bd.named
  have hnm := (name_of_methodNamed Bd.named Bd.method).1
  have X0 : Stand p l e ({ frames := 1, cells := 0, slots := 0, locals := 14 } : Room) s m #[(.ref d), (.int x1), (.int x2)] below meth c s₁ [] 0 0 := Stand.of_body Bd
  have e0 : s₁.heap = h0 := by rw [← hh, Bd.state]; rfl
  have N0 := Fr.nil n0
  refine own_out (own_nm fun G hG => own_st (fun zt zk => castTop (ef_rm4 m d x1 x2) zk) ?_)
  show own_Go p e below G (s₁.setTop (mkF m 0 #[.val (.ref d), .val (.int x1), .val (.int x2)] []))
  refine own_st (fun zw zk => XS.aloadN X0.here hx rfl (hb hby d4_0) rfl rfl zk) ?_
  refine own_st (fun zw zk => XS.iloadN X0.here hx rfl (hb hby d4_1) rfl zk) ?_
  obtain ⟨_, _, ⟨T120, L120, k120, n120⟩, -, X120, ⟨Lc120, hQ120, l120, y120, z120⟩, st120⟩ := Jvm.LawKit.callS X0 hx (y := (⟨"com/example/passau/passau/insertion/TwoSat", "not", "(I)I"⟩ : MethodName)) hown (mvT hZ (hw _ (List.mem_of_getElem? (i := 26) rfl))) (mvT hZ (hw _ (List.mem_of_getElem? (i := 27) rfl))) (mvT hZ (hw _ (List.mem_of_getElem? (i := 2) rfl))) (mvT hZ (hw _ (List.mem_of_getElem? (i := 28) rfl))) (by decide) (backOf (W := 1) (rm5 l Z a0 hw [] x1 h0 n0 Z0) hZ (hw _ (List.mem_of_getElem? (i := 28) rfl)) (hw _ (List.mem_of_getElem? (i := 2) rfl)) (by decide) (by decide)) (g := (mkF m 2 #[.val (.ref d), .val (.int x1), .val (.int x2)] [(.int x1), (.ref d)])) rfl (by rw [hml]; rfl) (argsL := [(.int x1)]) (rest := [(.ref d)]) (lenOf pd_4 rfl) rfl (by show 2 * 0 + _ ≤ _; exact Nat.le_of_eq rfl) (hb hby d4_2) (fun _ _ => ⟨rfl, e0, (by decide : 0 + 0 ≤ _), (by decide : 0 + 0 ≤ _)⟩)
  dsimp only [Pt.U, Pt.locs, Pt.cells, Pt.slots] at X120 l120 y120 z120 st120 hQ120
  subst l120 y120 z120
  obtain ⟨rfl, N120q, e120⟩ := hQ120
  have N120 := Fr.app N0 N120q
  refine own_st (fun zw zk => st120 zw zk) ?_
  refine own_st (fun zw zk => XS.iloadN X120.here hx rfl (hb hby d4_5) rfl zk) ?_
  obtain ⟨cq121, q121, q121'⟩ := F0_.cell
  obtain ⟨_, _, ⟨T121, L121, k121, n121⟩, -, X121, ⟨Lc121, hQ121, l121, y121, z121⟩, st121⟩ := X120.privateBack hx (y := (⟨"com/example/passau/passau/insertion/TwoSat", "arc", "(II)V"⟩ : MethodName)) hown (mvT hZ (hw _ (List.mem_of_getElem? (i := 29) rfl))) (mvT hZ (hw _ (List.mem_of_getElem? (i := 30) rfl))) (own_selp hZ (hw _ (List.mem_of_getElem? (i := 1) rfl)) (hw _ (List.mem_of_getElem? (i := 31) rfl)) (hw _ (List.mem_of_getElem? (i := 30) rfl)) (by decide)) (Cond.privateMethod_at (mvP hZ (hw _ (List.mem_of_getElem? (i := 31) rfl)) (args := #[]))) (mvT hZ (hw _ (List.mem_of_getElem? (i := 32) rfl))) (by decide) (backOf (W := 0) (rm6 l Z a0 hw [] d (own_not x1) x2 afr ato im va (lf) (lt) lf1 lt1 h0 n0 Z0 (F0_) (F1_) (F2_) (F3_) (F4_) (F5_) (F6_) (ge_d) (ge_afr) (ge_ato) (ne_d_afr) (ne_d_ato) (ne_afr_ato) (hs1a) (hs1b) (hni1) (hll)) hZ (hw _ (List.mem_of_getElem? (i := 32) rfl)) (hw _ (List.mem_of_getElem? (i := 2) rfl)) (by decide) (by decide)) (g := (mkF m 6 #[.val (.ref d), .val (.int x1), .val (.int x2)] [(.int x2), (.int (own_not x1)), (.ref d)])) rfl (by rw [hml]; rfl) (Steps.refl _) (a := d) (by rw [e120]; exact q121) q121' (argsL := [(.int (own_not x1)), (.int x2)]) (rest := []) (lenOf pd_5 rfl) rfl (by show 2 * 0 + _ ≤ _; exact Nat.le_of_eq rfl) (hb hby d4_6) (fun _ _ => ⟨rfl, e120, (by decide : 0 + 0 ≤ _), (by decide : 0 + 0 ≤ _)⟩)
  dsimp only [Pt.U, Pt.locs, Pt.cells, Pt.slots] at X121 l121 y121 z121 st121 hQ121
  subst l121 y121 z121
  obtain ⟨rfl, N121q, K121, O121_0, O121_1, O121_2, O121_3, O121_4, O121_5⟩ := hQ121
  have F0_121 := F0_.keep K121
  have Z121 : n0 ≤ T121.heap.size := Nat.le_trans Z0 K121.1
  have Kp121 := (Keep.refl h0 [d, afr, ato]).trans K121 (allS (Or.inl (List.mem_of_getElem? (i := 0) rfl)) (allS (Or.inl (List.mem_of_getElem? (i := 1) rfl)) (allS (Or.inl (List.mem_of_getElem? (i := 2) rfl)) all0)))
  have N121 := Fr.app N120 N121q
  refine own_jp st121 ?_
  refine own_st (fun zw zk => XS.aloadN X121.here hx rfl (hb hby d4_9) rfl rfl zk) ?_
  refine own_st (fun zw zk => XS.iloadN X121.here hx rfl (hb hby d4_10) rfl zk) ?_
  obtain ⟨_, _, ⟨T122, L122, k122, n122⟩, -, X122, ⟨Lc122, hQ122, l122, y122, z122⟩, st122⟩ := Jvm.LawKit.callS X121 hx (y := (⟨"com/example/passau/passau/insertion/TwoSat", "not", "(I)I"⟩ : MethodName)) hown (mvT hZ (hw _ (List.mem_of_getElem? (i := 26) rfl))) (mvT hZ (hw _ (List.mem_of_getElem? (i := 27) rfl))) (mvT hZ (hw _ (List.mem_of_getElem? (i := 2) rfl))) (mvT hZ (hw _ (List.mem_of_getElem? (i := 28) rfl))) (by decide) (backOf (W := 1) (rm5 l Z a0 hw [] x2 T121.heap n0 Z121) hZ (hw _ (List.mem_of_getElem? (i := 28) rfl)) (hw _ (List.mem_of_getElem? (i := 2) rfl)) (by decide) (by decide)) (g := (mkF m 11 #[.val (.ref d), .val (.int x1), .val (.int x2)] [(.int x2), (.ref d)])) rfl (by rw [hml]; rfl) (argsL := [(.int x2)]) (rest := [(.ref d)]) (lenOf pd_4 rfl) rfl (by show 2 * 0 + _ ≤ _; exact Nat.le_of_eq rfl) (hb hby d4_11) (fun _ _ => ⟨rfl, rfl, (by decide : 0 + 0 ≤ _), (by decide : 0 + 0 ≤ _)⟩)
  dsimp only [Pt.U, Pt.locs, Pt.cells, Pt.slots] at X122 l122 y122 z122 st122 hQ122
  subst l122 y122 z122
  obtain ⟨rfl, N122q, e122⟩ := hQ122
  have N122 := Fr.app N121 N122q
  refine own_st (fun zw zk => st122 zw zk) ?_
  show own_Go p e below G (T122.setTop (mkF m 14 #[.val (.ref d), .val (.int x1), .val (.int x2)] [(.int (own_not x2)), (.ref d)]))
  refine own_st (fun zw zk => XS.iloadN X122.here hx rfl (hb hby d4_14) rfl zk) ?_
  obtain ⟨cq123, q123, q123'⟩ := F0_121.cell
  obtain ⟨_, _, ⟨T123, L123, k123, n123⟩, -, X123, ⟨Lc123, hQ123, l123, y123, z123⟩, st123⟩ := X122.privateBack hx (y := (⟨"com/example/passau/passau/insertion/TwoSat", "arc", "(II)V"⟩ : MethodName)) hown (mvT hZ (hw _ (List.mem_of_getElem? (i := 29) rfl))) (mvT hZ (hw _ (List.mem_of_getElem? (i := 30) rfl))) (own_selp hZ (hw _ (List.mem_of_getElem? (i := 1) rfl)) (hw _ (List.mem_of_getElem? (i := 31) rfl)) (hw _ (List.mem_of_getElem? (i := 30) rfl)) (by decide)) (Cond.privateMethod_at (mvP hZ (hw _ (List.mem_of_getElem? (i := 31) rfl)) (args := #[]))) (mvT hZ (hw _ (List.mem_of_getElem? (i := 32) rfl))) (by decide) (backOf (W := 0) (rm6 l Z a0 hw [] d (own_not x2) x1 afr ato (im + (1 : Int32)) va (lf1) (lt1) lf2 lt2 T121.heap n0 Z121 (F0_121) (O121_0) (O121_1) (O121_2) (O121_3) (O121_4) (O121_5) (ge_d) (ge_afr) (ge_ato) (ne_d_afr) (ne_d_ato) (ne_afr_ato) (hs2a) (hs2b) (hni2) ((own_slen hs1a).trans hll)) hZ (hw _ (List.mem_of_getElem? (i := 32) rfl)) (hw _ (List.mem_of_getElem? (i := 2) rfl)) (by decide) (by decide)) (g := (mkF m 15 #[.val (.ref d), .val (.int x1), .val (.int x2)] [(.int x1), (.int (own_not x2)), (.ref d)])) rfl (by rw [hml]; rfl) (Steps.refl _) (a := d) (by rw [e122]; exact q123) q123' (argsL := [(.int (own_not x2)), (.int x1)]) (rest := []) (lenOf pd_5 rfl) rfl (by show 2 * 0 + _ ≤ _; exact Nat.le_of_eq rfl) (hb hby d4_15) (fun _ _ => ⟨rfl, e122, (by decide : 0 + 0 ≤ _), (by decide : 0 + 0 ≤ _)⟩)
  dsimp only [Pt.U, Pt.locs, Pt.cells, Pt.slots] at X123 l123 y123 z123 st123 hQ123
  subst l123 y123 z123
  obtain ⟨rfl, N123q, K123, O123_0, O123_1, O123_2, O123_3, O123_4, O123_5⟩ := hQ123
  have F0_123 := F0_121.keep K123
  have Z123 : n0 ≤ T123.heap.size := Nat.le_trans Z121 K123.1
  have Kp123 := Kp121.trans K123 (allS (Or.inl (List.mem_of_getElem? (i := 0) rfl)) (allS (Or.inl (List.mem_of_getElem? (i := 1) rfl)) (allS (Or.inl (List.mem_of_getElem? (i := 2) rfl)) all0)))
  have N123 := Fr.app N122 N123q
  refine own_jp st123 ?_
  subst hG
  obtain ⟨fs, hr, hrun, hended, hW, hsame⟩ := X123.leave (v := none) (hlocks := Bd.notSynchronized) (fun _ => rfl)
  refine ⟨_, X123.returnOut hx Bd.returns (hb hby d4_18) hr, _, hrun, hended, _, _, rfl, ?_, ⟨_, rfl⟩, hW, hsame.mono (by decide) (by decide)⟩
  show Q4 Z d x1 x2 afr ato im va lf lt lf1 lf2 lt1 lt2 h0 n0 _ T123.heap _
  exact ⟨rfl, N123, Kp123, O123_0, O123_1, O123_2, O123_3, O123_4, O123_5⟩
theorem d3_0 : decode prog_53_method_6_code 0 = .ok (.aload_n 0, 1) := by decide +kernel
theorem d3_1 : decode prog_53_method_6_code 1 = .ok (.iload_n 1, 1) := by decide +kernel
theorem d3_2 : decode prog_53_method_6_code 2 = .ok (.iload_n 1, 1) := by decide +kernel
theorem d3_3 : decode prog_53_method_6_code 3 = .ok (.invokevirtual 32, 3) := by decide +kernel
theorem d3_6 : decode prog_53_method_6_code 6 = .ok (.return_, 1) := by decide +kernel
theorem ef_rm3 (m : MethodId) (d : Addr) (x1 : Int32) : entryFrame m #[(.ref d), (.int x1)] 2 = mkF m 0 #[.val (.ref d), .val (.int x1)] [] := by first | (simp [entryFrame, mkF, argsToLocals, Value.category]; done) | rfl
def Q3 (Z : State) (d : Addr) (x1 : Int32) (afr : Addr) (ato : Addr) (im : Int32) (va : Int32) (lf : List Int32) (lt : List Int32) (lf1 : List Int32) (lf2 : List Int32) (lt1 : List Int32) (lt2 : List Int32) (h0 : Heap) (n0 : Nat) (rv : Option Value) (hq : Heap) (Lq : List Loc) : Prop := rv = none ∧ Fr n0 Lq ∧ Keep h0 hq [d, afr, ato] ∧ Fld Z hq d "com/example/passau/passau/insertion/TwoSat" "from" "[I" (.ref afr) ∧ Fld Z hq d "com/example/passau/passau/insertion/TwoSat" "to" "[I" (.ref ato) ∧ Fld Z hq d "com/example/passau/passau/insertion/TwoSat" "variables" "I" (.int va) ∧ Fld Z hq d "com/example/passau/passau/insertion/TwoSat" "implications" "I" (.int ((im + (1 : Int32)) + (1 : Int32))) ∧ own_L Z hq afr .int ((own_il lf2)) ∧ own_L Z hq ato .int ((own_il lt2))
set_option maxRecDepth 65536 in
set_option maxHeartbeats 40000000 in
theorem rm3 (l : Launch) (Z : State) (a0 : Array Value) (hw : ∀ d ∈ tables_1, d.before a0 Z = true) (ws : List Jvm.Cond) (d : Addr) (x1 : Int32) (afr : Addr) (ato : Addr) (im : Int32) (va : Int32) (lf : List Int32) (lt : List Int32) (lf1 : List Int32) (lf2 : List Int32) (lt1 : List Int32) (lt2 : List Int32) (h0 : Heap) (n0 : Nat) (Z0 : n0 ≤ h0.size) (F0_ : Exa Z h0 d "com/example/passau/passau/insertion/TwoSat") (F1_ : Fld Z h0 d "com/example/passau/passau/insertion/TwoSat" "from" "[I" (.ref afr)) (F2_ : Fld Z h0 d "com/example/passau/passau/insertion/TwoSat" "to" "[I" (.ref ato)) (F3_ : Fld Z h0 d "com/example/passau/passau/insertion/TwoSat" "variables" "I" (.int va)) (F4_ : Fld Z h0 d "com/example/passau/passau/insertion/TwoSat" "implications" "I" (.int im)) (F5_ : own_L Z h0 afr .int ((own_il lf))) (F6_ : own_L Z h0 ato .int ((own_il lt))) (ge_d : n0 ≤ d) (ge_afr : n0 ≤ afr) (ge_ato : n0 ≤ ato) (ne_d_afr : d ≠ afr) (ne_d_ato : d ≠ ato) (ne_afr_ato : afr ≠ ato) (hs1a : own_set lf im (own_not x1) = some lf1) (hs1b : own_set lt im x1 = some lt1) (hs2a : own_set lf1 (im + (1 : Int32)) (own_not x1) = some lf2) (hs2b : own_set lt1 (im + (1 : Int32)) x1 = some lt2) (hni1 : ¬ im = (16 : Int32)) (hni2 : ¬ (im + (1 : Int32)) = (16 : Int32)) (hll : lf.length = 16) :
    MetFree l (⟨"com/example/passau/passau/insertion/TwoSat", "require", "(I)V"⟩ : MethodName) (head1 (Jvm.Cond.code (⟨"com/example/passau/passau/insertion/TwoSat", "require", "(I)V"⟩ : MethodName) prog_53_method_6_code 2 none :: ws) ({ frames := 2, cells := 0, slots := 0, locals := 28 } : Room)) (fun za U => za = #[(.ref d), (.int x1)] ∧ Z.Warmed39 U.vm ∧ U.heap = h0) (fun _ _ _ _ _ => True) (fun _ U o U' => ∃ rv Lq, o = .returned rv ∧ Q3 Z d x1 afr ato im va lf lt lf1 lf2 lt1 lt2 h0 n0 rv U'.heap Lq ∧ FrameEnd U o U' Lq ({ frames := 2, cells := 0, slots := 0, locals := 28 } : Room).cells ({ frames := 2, cells := 0, slots := 0, locals := 28 } : Room).slots) := by
  refine MetFree.of_bodySF (plainFor_of_name pn_0) hisR ?_
  intro p e s m args below meth c s₁ Bd hml0 hP hK
  obtain ⟨rfl, hZ, hh⟩ := hP
  have hx := Bd.exec
  have hby := Bd.bytes
  have hml : c.maxLocals = 2 := hml0
  have hown : s.vm.findClass "com/example/passau/passau/insertion/TwoSat" = some m.cls := findClass_of_methodNamed Bd.named
  have hnm := (name_of_methodNamed Bd.named Bd.method).1
  have X0 : Stand p l e ({ frames := 2, cells := 0, slots := 0, locals := 28 } : Room) s m #[(.ref d), (.int x1)] below meth c s₁ [] 0 0 := Stand.of_body Bd
  have e0 : s₁.heap = h0 := by rw [← hh, Bd.state]; rfl
  have N0 := Fr.nil n0
  refine own_out (own_nm fun G hG => own_st (fun zt zk => castTop (ef_rm3 m d x1) zk) ?_)
  show own_Go p e below G (s₁.setTop (mkF m 0 #[.val (.ref d), .val (.int x1)] []))
  refine own_st (fun zw zk => XS.aloadN X0.here hx rfl (hb hby d3_0) rfl rfl zk) ?_
  refine own_st (fun zw zk => XS.iloadN X0.here hx rfl (hb hby d3_1) rfl zk) ?_
  refine own_st (fun zw zk => XS.iloadN X0.here hx rfl (hb hby d3_2) rfl zk) ?_
  obtain ⟨cq124, kq124, q124a, q124b, q124c⟩ := isOf hZ e0 F0_
  obtain ⟨_, _, ⟨T124, L124, k124, n124⟩, -, X124, ⟨Lc124, hQ124, l124, y124, z124⟩, st124⟩ := X0.virtualBack hx (y := (⟨"com/example/passau/passau/insertion/TwoSat", "either", "(II)V"⟩ : MethodName)) (z := (⟨"com/example/passau/passau/insertion/TwoSat", "either", "(II)V"⟩ : MethodName)) hown (mvT hZ (hw _ (List.mem_of_getElem? (i := 21) rfl))) (mvT hZ (hw _ (List.mem_of_getElem? (i := 22) rfl))) (notFace_of_selects (args := #[]) (mvT hZ (hw _ (List.mem_of_getElem? (i := 24) rfl)))) (mvT hZ (hw _ (List.mem_of_getElem? (i := 24) rfl))) (mvT hZ (hw _ (List.mem_of_getElem? (i := 23) rfl))) (by decide) (backOf (W := 0) (rm4 l Z a0 hw [] d x1 x1 afr ato im va (lf) (lt) lf1 lf2 lt1 lt2 h0 n0 Z0 (F0_) (F1_) (F2_) (F3_) (F4_) (F5_) (F6_) (ge_d) (ge_afr) (ge_ato) (ne_d_afr) (ne_d_ato) (ne_afr_ato) (hs1a) (hs1b) (hs2a) (hs2b) (hni1) (hni2) (hll)) hZ (hw _ (List.mem_of_getElem? (i := 25) rfl)) (hw _ (List.mem_of_getElem? (i := 2) rfl)) (by decide) (by decide)) q124a q124c (g := (mkF m 3 #[.val (.ref d), .val (.int x1)] [(.int x1), (.int x1), (.ref d)])) rfl (by rw [hml]; rfl) (Steps.refl _) (argsL := [(.int x1), (.int x1)]) (rest := []) (lenOf pd_5 rfl) rfl (by show 2 * 0 + _ ≤ _; exact Nat.le_of_eq rfl) (hb hby d3_3) (fun _ _ => ⟨rfl, e0, (by decide : 0 + 0 ≤ _), (by decide : 0 + 0 ≤ _)⟩)
  dsimp only [Pt.U, Pt.locs, Pt.cells, Pt.slots] at X124 l124 y124 z124 st124 hQ124
  subst l124 y124 z124
  obtain ⟨rfl, N124q, K124, O124_0, O124_1, O124_2, O124_3, O124_4, O124_5⟩ := hQ124
  have F0_124 := F0_.keep K124
  have Z124 : n0 ≤ T124.heap.size := Nat.le_trans Z0 K124.1
  have Kp124 := (Keep.refl h0 [d, afr, ato]).trans K124 (allS (Or.inl (List.mem_of_getElem? (i := 0) rfl)) (allS (Or.inl (List.mem_of_getElem? (i := 1) rfl)) (allS (Or.inl (List.mem_of_getElem? (i := 2) rfl)) all0)))
  have N124 := Fr.app N0 N124q
  refine own_jp st124 ?_
  subst hG
  obtain ⟨fs, hr, hrun, hended, hW, hsame⟩ := X124.leave (v := none) (hlocks := Bd.notSynchronized) (fun _ => rfl)
  refine ⟨_, X124.returnOut hx Bd.returns (hb hby d3_6) hr, _, hrun, hended, _, _, rfl, ?_, ⟨_, rfl⟩, hW, hsame.mono (by decide) (by decide)⟩
  show Q3 Z d x1 afr ato im va lf lt lf1 lf2 lt1 lt2 h0 n0 _ T124.heap _
  exact ⟨rfl, N124, Kp124, O124_0, O124_1, O124_2, O124_3, O124_4, O124_5⟩
theorem d7_0 : decode prog_53_method_2_code 0 = .ok (.iconst 2, 1) := by decide +kernel
theorem d7_1 : decode prog_53_method_2_code 1 = .ok (.aload_n 0, 1) := by decide +kernel
theorem d7_2 : decode prog_53_method_2_code 2 = .ok (.dup, 1) := by decide +kernel
theorem d7_3 : decode prog_53_method_2_code 3 = .ok (.getfield 16, 3) := by decide +kernel
theorem d7_6 : decode prog_53_method_2_code 6 = .ok (.dup_x1, 1) := by decide +kernel
theorem d7_7 : decode prog_53_method_2_code 7 = .ok (.iconst 1, 1) := by decide +kernel
theorem d7_8 : decode prog_53_method_2_code 8 = .ok (.iadd, 1) := by decide +kernel
theorem d7_9 : decode prog_53_method_2_code 9 = .ok (.putfield 16, 3) := by decide +kernel
theorem d7_12 : decode prog_53_method_2_code 12 = .ok (.imul, 1) := by decide +kernel
theorem d7_13 : decode prog_53_method_2_code 13 = .ok (.ireturn, 1) := by decide +kernel
theorem ef_rm7 (m : MethodId) (d : Addr) : entryFrame m #[(.ref d)] 1 = mkF m 0 #[.val (.ref d)] [] := by first | (simp [entryFrame, mkF, argsToLocals, Value.category]; done) | rfl
def Q7 (Z : State) (d : Addr) (afr : Addr) (ato : Addr) (im : Int32) (va : Int32) (h0 : Heap) (n0 : Nat) (rv : Option Value) (hq : Heap) (Lq : List Loc) : Prop := rv = some (.int ((2 : Int32) * va)) ∧ Fr n0 Lq ∧ Keep h0 hq [d] ∧ Fld Z hq d "com/example/passau/passau/insertion/TwoSat" "from" "[I" (.ref afr) ∧ Fld Z hq d "com/example/passau/passau/insertion/TwoSat" "to" "[I" (.ref ato) ∧ Fld Z hq d "com/example/passau/passau/insertion/TwoSat" "variables" "I" (.int (va + (1 : Int32))) ∧ Fld Z hq d "com/example/passau/passau/insertion/TwoSat" "implications" "I" (.int im)
set_option maxRecDepth 65536 in
set_option maxHeartbeats 40000000 in
theorem rm7 (l : Launch) (Z : State) (a0 : Array Value) (hw : ∀ d ∈ tables_1, d.before a0 Z = true) (ws : List Jvm.Cond) (d : Addr) (afr : Addr) (ato : Addr) (im : Int32) (va : Int32) (h0 : Heap) (n0 : Nat) (Z0 : n0 ≤ h0.size) (F0_ : Exa Z h0 d "com/example/passau/passau/insertion/TwoSat") (F1_ : Fld Z h0 d "com/example/passau/passau/insertion/TwoSat" "from" "[I" (.ref afr)) (F2_ : Fld Z h0 d "com/example/passau/passau/insertion/TwoSat" "to" "[I" (.ref ato)) (F3_ : Fld Z h0 d "com/example/passau/passau/insertion/TwoSat" "variables" "I" (.int va)) (F4_ : Fld Z h0 d "com/example/passau/passau/insertion/TwoSat" "implications" "I" (.int im)) (ge_d : n0 ≤ d) :
    MetFree l (⟨"com/example/passau/passau/insertion/TwoSat", "variable", "()I"⟩ : MethodName) (head1 (Jvm.Cond.code (⟨"com/example/passau/passau/insertion/TwoSat", "variable", "()I"⟩ : MethodName) prog_53_method_2_code 1 (some .int) :: ws) ({ frames := 0, cells := 0, slots := 0, locals := 0 } : Room)) (fun za U => za = #[(.ref d)] ∧ Z.Warmed39 U.vm ∧ U.heap = h0) (fun _ _ _ _ _ => True) (fun _ U o U' => ∃ rv Lq, o = .returned rv ∧ Q7 Z d afr ato im va h0 n0 rv U'.heap Lq ∧ FrameEnd U o U' Lq ({ frames := 0, cells := 0, slots := 0, locals := 0 } : Room).cells ({ frames := 0, cells := 0, slots := 0, locals := 0 } : Room).slots) := by
  refine MetFree.of_bodySF (plainFor_of_name pn_0) hisR ?_
  intro p e s m args below meth c s₁ Bd hml0 hP hK
  obtain ⟨rfl, hZ, hh⟩ := hP
  have hx := Bd.exec
  have hby := Bd.bytes
  have hml : c.maxLocals = 1 := hml0
  have hown : s.vm.findClass "com/example/passau/passau/insertion/TwoSat" = some m.cls := findClass_of_methodNamed Bd.named
  have hnm := (name_of_methodNamed Bd.named Bd.method).1
  have X0 : Stand p l e ({ frames := 0, cells := 0, slots := 0, locals := 0 } : Room) s m #[(.ref d)] below meth c s₁ [] 0 0 := Stand.of_body Bd
  have e0 : s₁.heap = h0 := by rw [← hh, Bd.state]; rfl
  have N0 := Fr.nil n0
  refine own_out (own_nm fun G hG => own_st (fun zt zk => castTop (ef_rm7 m d) zk) ?_)
  show own_Go p e below G (s₁.setTop (mkF m 0 #[.val (.ref d)] []))
  refine own_st (fun zw zk => XS.iconst X0.here hx rfl (hb hby d7_0) zk) ?_
  refine own_st (fun zw zk => XS.aloadN X0.here hx rfl (hb hby d7_1) rfl rfl zk) ?_
  refine own_st (fun zw zk => XS.dup X0.here hx rfl (hb hby d7_2) rfl rfl zk) ?_
  obtain ⟨T125, X125, e125, st125⟩ := getF X0 hx hZ hown (host := "") (Or.inl (hw _ (List.mem_of_getElem? (i := 14) rfl))) Via.refl e0 F3_ (g := (mkF m 3 #[.val (.ref d)] [(.ref d), (.ref d), (.int (2 : Int32))])) rfl rfl (hb hby d7_3)
  refine own_st (fun zw zk => st125 zw zk) ?_
  refine own_st (fun zw zk => XS.dupX1 X125.here hx rfl (hb hby d7_6) rfl rfl rfl zk) ?_
  refine own_st (fun zw zk => XS.iconst X125.here hx rfl (hb hby d7_7) zk) ?_
  refine own_st (fun zw zk => XS.iadd X125.here hx rfl (hb hby d7_8) rfl zk) ?_
  obtain ⟨T126, h126, X126, e126, W126, st126⟩ := putF X125 hx hZ hown (host := "") (Or.inl (hw _ (List.mem_of_getElem? (i := 14) rfl))) Via.refl e125 F3_ F0_ (Or.inl (hw _ (List.mem_of_getElem? (i := 15) rfl))) (hw _ (List.mem_of_getElem? (i := 1) rfl)) (ty := .int) (by decide) rfl rfl (g := (mkF m 9 #[.val (.ref d)] [(.int (va + (1 : Int32))), (.ref d), (.int va), (.int (2 : Int32))])) rfl rfl (hb hby d7_9)
  have F3_126 := F3_.same W126
  have N126 := Fr.snoc X126 N0 ge_d
  refine own_st (fun zw zk => st126 zw zk) ?_
  have F0_126 := F0_.wr W126
  have F1_126 := F1_.other W126 (Or.inr (slot_ne (Or.inl (hw _ (List.mem_of_getElem? (i := 11) rfl))) (Or.inl (hw _ (List.mem_of_getElem? (i := 15) rfl))) (by decide) (t := (.array .int)) (t' := .int) (by decide) (by decide)))
  have F2_126 := F2_.other W126 (Or.inr (slot_ne (Or.inl (hw _ (List.mem_of_getElem? (i := 13) rfl))) (Or.inl (hw _ (List.mem_of_getElem? (i := 15) rfl))) (by decide) (t := (.array .int)) (t' := .int) (by decide) (by decide)))
  have F4_126 := F4_.other W126 (Or.inr (slot_ne (Or.inl (hw _ (List.mem_of_getElem? (i := 34) rfl))) (Or.inl (hw _ (List.mem_of_getElem? (i := 15) rfl))) (by decide) (t := .int) (t' := .int) (by decide) (by decide)))
  have Z126 : n0 ≤ h126.size := Nat.le_trans Z0 (Keep.of_wr W126).1
  have Kp126 := (Keep.refl h0 [d]).wr W126 (Or.inl (List.mem_of_getElem? (i := 0) rfl))
  show own_Go p e below G (T126.setTop (mkF m 12 #[.val (.ref d)] [(.int va), (.int (2 : Int32))]))
  refine own_st (fun zw zk => XS.imul X126.here hx rfl (hb hby d7_12) rfl zk) ?_
  subst hG
  obtain ⟨fs, hr, hrun, hended, hW, hsame⟩ := X126.leave (v := some (.int ((2 : Int32) * va))) (hlocks := Bd.notSynchronized) (fun h => by rw [Bd.returns] at h; cases h)
  refine ⟨_, own_retI X126 hx Bd.returns (hb hby d7_13) hr, _, hrun, hended, _, _, rfl, ?_, ⟨_, rfl⟩, hW, hsame.mono (by decide) (by decide)⟩
  show Q7 Z d afr ato im va h0 n0 _ T126.heap _
  rw [e126]
  exact ⟨rfl, N126, Kp126, F1_126, F2_126, F3_126, F4_126⟩
theorem d1_0 : decode prog_53_method_1_code 0 = .ok (.aload_n 0, 1) := by decide +kernel
theorem d1_1 : decode prog_53_method_1_code 1 = .ok (.invokespecial 1, 3) := by decide +kernel
theorem d1_4 : decode prog_53_method_1_code 4 = .ok (.aload_n 0, 1) := by decide +kernel
theorem d1_5 : decode prog_53_method_1_code 5 = .ok (.bipush 16, 2) := by decide +kernel
theorem d1_7 : decode prog_53_method_1_code 7 = .ok (.newarray .int, 2) := by decide +kernel
theorem d1_9 : decode prog_53_method_1_code 9 = .ok (.putfield 7, 3) := by decide +kernel
theorem d1_12 : decode prog_53_method_1_code 12 = .ok (.aload_n 0, 1) := by decide +kernel
theorem d1_13 : decode prog_53_method_1_code 13 = .ok (.bipush 16, 2) := by decide +kernel
theorem d1_15 : decode prog_53_method_1_code 15 = .ok (.newarray .int, 2) := by decide +kernel
theorem d1_17 : decode prog_53_method_1_code 17 = .ok (.putfield 13, 3) := by decide +kernel
theorem d1_20 : decode prog_53_method_1_code 20 = .ok (.aload_n 0, 1) := by decide +kernel
theorem d1_21 : decode prog_53_method_1_code 21 = .ok (.iconst 1, 1) := by decide +kernel
theorem d1_22 : decode prog_53_method_1_code 22 = .ok (.putfield 16, 3) := by decide +kernel
theorem d1_25 : decode prog_53_method_1_code 25 = .ok (.aload_n 0, 1) := by decide +kernel
theorem d1_26 : decode prog_53_method_1_code 26 = .ok (.iconst 0, 1) := by decide +kernel
theorem d1_27 : decode prog_53_method_1_code 27 = .ok (.invokevirtual 20, 3) := by decide +kernel
theorem d1_30 : decode prog_53_method_1_code 30 = .ok (.return_, 1) := by decide +kernel
theorem ef_rm1 (m : MethodId) (d : Addr) : entryFrame m #[(.ref d)] 1 = mkF m 0 #[.val (.ref d)] [] := by first | (simp [entryFrame, mkF, argsToLocals, Value.category]; done) | rfl
def Q1 (Z : State) (d : Addr) (h0 : Heap) (n0 : Nat) (rv : Option Value) (hq : Heap) (Lq : List Loc) : Prop := rv = none ∧ Fr n0 Lq ∧ ∃ afr : Addr, ∃ ato : Addr, h0.size ≤ afr ∧ h0.size ≤ ato ∧ Keep h0 hq [d] ∧ Fld Z hq d "com/example/passau/passau/insertion/TwoSat" "from" "[I" (.ref afr) ∧ Fld Z hq d "com/example/passau/passau/insertion/TwoSat" "to" "[I" (.ref ato) ∧ Fld Z hq d "com/example/passau/passau/insertion/TwoSat" "variables" "I" (.int (1 : Int32)) ∧ Fld Z hq d "com/example/passau/passau/insertion/TwoSat" "implications" "I" (.int (2 : Int32)) ∧ own_L Z hq afr .int ((own_il [(1 : Int32), (1 : Int32), (0 : Int32), (0 : Int32), (0 : Int32), (0 : Int32), (0 : Int32), (0 : Int32), (0 : Int32), (0 : Int32), (0 : Int32), (0 : Int32), (0 : Int32), (0 : Int32), (0 : Int32), (0 : Int32)])) ∧ own_L Z hq ato .int ((own_il [(0 : Int32), (0 : Int32), (0 : Int32), (0 : Int32), (0 : Int32), (0 : Int32), (0 : Int32), (0 : Int32), (0 : Int32), (0 : Int32), (0 : Int32), (0 : Int32), (0 : Int32), (0 : Int32), (0 : Int32), (0 : Int32)])) ∧ afr ≠ ato
set_option maxRecDepth 65536 in
set_option maxHeartbeats 40000000 in
theorem rm1 (l : Launch) (Z : State) (a0 : Array Value) (hw : ∀ d ∈ tables_1, d.before a0 Z = true) (ws : List Jvm.Cond) (d : Addr) (h0 : Heap) (n0 : Nat) (Z0 : n0 ≤ h0.size) (F0_ : Exa Z h0 d "com/example/passau/passau/insertion/TwoSat") (F1_ : Fld Z h0 d "com/example/passau/passau/insertion/TwoSat" "from" "[I" .null) (F2_ : Fld Z h0 d "com/example/passau/passau/insertion/TwoSat" "to" "[I" .null) (F3_ : Fld Z h0 d "com/example/passau/passau/insertion/TwoSat" "variables" "I" (.int (0 : Int32))) (F4_ : Fld Z h0 d "com/example/passau/passau/insertion/TwoSat" "implications" "I" (.int (0 : Int32))) (ge_d : n0 ≤ d) :
    MetFree l (⟨"com/example/passau/passau/insertion/TwoSat", "<init>", "()V"⟩ : MethodName) (head1 (Jvm.Cond.code (⟨"com/example/passau/passau/insertion/TwoSat", "<init>", "()V"⟩ : MethodName) prog_53_method_1_code 1 none :: ws) ({ frames := 3, cells := 2, slots := 32, locals := 41 } : Room)) (fun za U => za = #[(.ref d)] ∧ Z.Warmed39 U.vm ∧ U.heap = h0) (fun _ _ _ _ _ => True) (fun _ U o U' => ∃ rv Lq, o = .returned rv ∧ Q1 Z d h0 n0 rv U'.heap Lq ∧ FrameEnd U o U' Lq ({ frames := 3, cells := 2, slots := 32, locals := 41 } : Room).cells ({ frames := 3, cells := 2, slots := 32, locals := 41 } : Room).slots) := by
  refine MetFree.of_bodySF (plainFor_of_name pn_0) hisR ?_
  intro p e s m args below meth c s₁ Bd hml0 hP hK
  obtain ⟨rfl, hZ, hh⟩ := hP
  have hx := Bd.exec
  have hby := Bd.bytes
  have hml : c.maxLocals = 1 := hml0
  have hown : s.vm.findClass "com/example/passau/passau/insertion/TwoSat" = some m.cls := findClass_of_methodNamed Bd.named
  have hnm := (name_of_methodNamed Bd.named Bd.method).1
  have X0 : Stand p l e ({ frames := 3, cells := 2, slots := 32, locals := 41 } : Room) s m #[(.ref d)] below meth c s₁ [] 0 0 := Stand.of_body Bd
  have e0 : s₁.heap = h0 := by rw [← hh, Bd.state]; rfl
  have N0 := Fr.nil n0
  refine own_out (own_nm fun G hG => own_st (fun zt zk => castTop (ef_rm1 m d) zk) ?_)
  show own_Go p e below G (s₁.setTop (mkF m 0 #[.val (.ref d)] []))
  refine own_st (fun zw zk => XS.aloadN X0.here hx rfl (hb hby d1_0) rfl rfl zk) ?_
  obtain ⟨T127, X127, e127, st127⟩ := initO X0 hx hZ hown (hw _ (List.mem_of_getElem? (i := 6) rfl)) (hw _ (List.mem_of_getElem? (i := 7) rfl)) (hw _ (List.mem_of_getElem? (i := 8) rfl)) e0 (g := (mkF m 1 #[.val (.ref d)] [(.ref d)])) rfl (by rw [hml]; rfl) rfl (hb hby d1_1) (by decide) (W := 0) (by show 2 * 0 + _ ≤ _; exact Nat.le_of_eq rfl) (by decide)
  refine own_st (fun zw zk => st127 zw zk) ?_
  refine own_st (fun zw zk => XS.aloadN X127.here hx rfl (hb hby d1_4) rfl rfl zk) ?_
  refine own_st (fun zw zk => XS.bipush X127.here hx rfl (hb hby d1_5) zk) ?_
  obtain ⟨T128, h128, k128, X128, e128, E128, A128, st128⟩ := newP X127 hx hZ (hw _ (List.mem_of_getElem? (i := 9) rfl)) e127 (g := (mkF m 7 #[.val (.ref d)] [(.int (16 : Int32)), (.ref d)])) rfl (hb hby d1_7) rfl (by decide) (cap := 16) (by decide) (by decide) (by decide) (by decide)
  obtain ⟨b128, g128⟩ : ∃ z, z = h0.size := ⟨_, rfl⟩
  rw [← g128] at A128 st128
  have G128 : n0 ≤ b128 := Nat.le_trans Z0 (Nat.le_of_eq g128.symm)
  have ne_d_b128 : d ≠ b128 := Nat.ne_of_lt (Nat.lt_of_lt_of_le F0_.lt (Nat.le_of_eq g128.symm))
  have F0_128 := F0_.ext E128
  have F1_128 := F1_.ext E128
  have F2_128 := F2_.ext E128
  have F3_128 := F3_.ext E128
  have F4_128 := F4_.ext E128
  have Z128 : n0 ≤ h128.size := Nat.le_trans Z0 E128.1
  have sz128 : h0.size ≤ b128 := Nat.le_trans (Keep.refl h0 [d]).1 (Nat.le_of_eq g128.symm)
  have Kp128 := (Keep.refl h0 [d]).ext E128
  have V128 : own_L Z h128 b128 .int ([(.int (0 : Int32)), (.int (0 : Int32)), (.int (0 : Int32)), (.int (0 : Int32)), (.int (0 : Int32)), (.int (0 : Int32)), (.int (0 : Int32)), (.int (0 : Int32)), (.int (0 : Int32)), (.int (0 : Int32)), (.int (0 : Int32)), (.int (0 : Int32)), (.int (0 : Int32)), (.int (0 : Int32)), (.int (0 : Int32)), (.int (0 : Int32))]) := own_L.new A128
  refine own_st (fun zw zk => st128 zw zk) ?_
  obtain ⟨T129, h129, X129, e129, W129, st129⟩ := putF X128 hx hZ hown (host := "") (Or.inl (hw _ (List.mem_of_getElem? (i := 10) rfl))) Via.refl e128 F1_128 F0_128 (Or.inl (hw _ (List.mem_of_getElem? (i := 11) rfl))) (hw _ (List.mem_of_getElem? (i := 1) rfl)) (ty := (.array .int)) (by decide) rfl rfl (g := (mkF m 9 #[.val (.ref d)] [(.ref b128), (.ref d)])) rfl rfl (hb hby d1_9)
  have F1_129 := F1_128.same W129
  have N129 := Fr.snoc X129 N0 ge_d
  refine own_st (fun zw zk => st129 zw zk) ?_
  have F0_129 := F0_128.wr W129
  have F2_129 := F2_128.other W129 (Or.inr (slot_ne (Or.inl (hw _ (List.mem_of_getElem? (i := 13) rfl))) (Or.inl (hw _ (List.mem_of_getElem? (i := 11) rfl))) (by decide) (t := (.array .int)) (t' := (.array .int)) (by decide) (by decide)))
  have F3_129 := F3_128.other W129 (Or.inr (slot_ne (Or.inl (hw _ (List.mem_of_getElem? (i := 15) rfl))) (Or.inl (hw _ (List.mem_of_getElem? (i := 11) rfl))) (by decide) (t := .int) (t' := (.array .int)) (by decide) (by decide)))
  have F4_129 := F4_128.other W129 (Or.inr (slot_ne (Or.inl (hw _ (List.mem_of_getElem? (i := 34) rfl))) (Or.inl (hw _ (List.mem_of_getElem? (i := 11) rfl))) (by decide) (t := .int) (t' := (.array .int)) (by decide) (by decide)))
  have Vb128_129 := V128.other W129 (Ne.symm ne_d_b128)
  have Z129 : n0 ≤ h129.size := Nat.le_trans Z128 (Keep.of_wr W129).1
  have Kp129 := Kp128.wr W129 (Or.inl (List.mem_of_getElem? (i := 0) rfl))
  refine own_st (fun zw zk => XS.aloadN X129.here hx rfl (hb hby d1_12) rfl rfl zk) ?_
  refine own_st (fun zw zk => XS.bipush X129.here hx rfl (hb hby d1_13) zk) ?_
  show own_Go p e below G (T129.setTop (mkF m 15 #[.val (.ref d)] [(.int (16 : Int32)), (.ref d)]))
  obtain ⟨T130, h130, k130, X130, e130, E130, A130, st130⟩ := newP X129 hx hZ (hw _ (List.mem_of_getElem? (i := 9) rfl)) e129 (g := (mkF m 15 #[.val (.ref d)] [(.int (16 : Int32)), (.ref d)])) rfl (hb hby d1_15) rfl (by decide) (cap := 16) (by decide) (by decide) (by decide) (by decide)
  obtain ⟨b130, g130⟩ : ∃ z, z = h129.size := ⟨_, rfl⟩
  rw [← g130] at A130 st130
  have G130 : n0 ≤ b130 := Nat.le_trans Z129 (Nat.le_of_eq g130.symm)
  have ne_d_b130 : d ≠ b130 := Nat.ne_of_lt (Nat.lt_of_lt_of_le F0_129.lt (Nat.le_of_eq g130.symm))
  have ne_b128_b130 : b128 ≠ b130 := Nat.ne_of_lt (Nat.lt_of_lt_of_le Vb128_129.lt (Nat.le_of_eq g130.symm))
  have F0_130 := F0_129.ext E130
  have F2_130 := F2_129.ext E130
  have F3_130 := F3_129.ext E130
  have F4_130 := F4_129.ext E130
  have Vb128_130 := Vb128_129.ext E130
  have F1_130 := F1_129.ext E130
  have Z130 : n0 ≤ h130.size := Nat.le_trans Z129 E130.1
  have sz130 : h0.size ≤ b130 := Nat.le_trans Kp129.1 (Nat.le_of_eq g130.symm)
  have Kp130 := Kp129.ext E130
  have V130 : own_L Z h130 b130 .int ([(.int (0 : Int32)), (.int (0 : Int32)), (.int (0 : Int32)), (.int (0 : Int32)), (.int (0 : Int32)), (.int (0 : Int32)), (.int (0 : Int32)), (.int (0 : Int32)), (.int (0 : Int32)), (.int (0 : Int32)), (.int (0 : Int32)), (.int (0 : Int32)), (.int (0 : Int32)), (.int (0 : Int32)), (.int (0 : Int32)), (.int (0 : Int32))]) := own_L.new A130
  refine own_st (fun zw zk => st130 zw zk) ?_
  obtain ⟨T131, h131, X131, e131, W131, st131⟩ := putF X130 hx hZ hown (host := "") (Or.inl (hw _ (List.mem_of_getElem? (i := 12) rfl))) Via.refl e130 F2_130 F0_130 (Or.inl (hw _ (List.mem_of_getElem? (i := 13) rfl))) (hw _ (List.mem_of_getElem? (i := 1) rfl)) (ty := (.array .int)) (by decide) rfl rfl (g := (mkF m 17 #[.val (.ref d)] [(.ref b130), (.ref d)])) rfl rfl (hb hby d1_17)
  have F2_131 := F2_130.same W131
  have N131 := Fr.snoc X131 N129 ge_d
  refine own_st (fun zw zk => st131 zw zk) ?_
  have F0_131 := F0_130.wr W131
  have F3_131 := F3_130.other W131 (Or.inr (slot_ne (Or.inl (hw _ (List.mem_of_getElem? (i := 15) rfl))) (Or.inl (hw _ (List.mem_of_getElem? (i := 13) rfl))) (by decide) (t := .int) (t' := (.array .int)) (by decide) (by decide)))
  have F4_131 := F4_130.other W131 (Or.inr (slot_ne (Or.inl (hw _ (List.mem_of_getElem? (i := 34) rfl))) (Or.inl (hw _ (List.mem_of_getElem? (i := 13) rfl))) (by decide) (t := .int) (t' := (.array .int)) (by decide) (by decide)))
  have Vb128_131 := Vb128_130.other W131 (Ne.symm ne_d_b128)
  have F1_131 := F1_130.other W131 (Or.inr (slot_ne (Or.inl (hw _ (List.mem_of_getElem? (i := 11) rfl))) (Or.inl (hw _ (List.mem_of_getElem? (i := 13) rfl))) (by decide) (t := (.array .int)) (t' := (.array .int)) (by decide) (by decide)))
  have Vb130_131 := V130.other W131 (Ne.symm ne_d_b130)
  have Z131 : n0 ≤ h131.size := Nat.le_trans Z130 (Keep.of_wr W131).1
  have Kp131 := Kp130.wr W131 (Or.inl (List.mem_of_getElem? (i := 0) rfl))
  refine own_st (fun zw zk => XS.aloadN X131.here hx rfl (hb hby d1_20) rfl rfl zk) ?_
  refine own_st (fun zw zk => XS.iconst X131.here hx rfl (hb hby d1_21) zk) ?_
  obtain ⟨T132, h132, X132, e132, W132, st132⟩ := putF X131 hx hZ hown (host := "") (Or.inl (hw _ (List.mem_of_getElem? (i := 14) rfl))) Via.refl e131 F3_131 F0_131 (Or.inl (hw _ (List.mem_of_getElem? (i := 15) rfl))) (hw _ (List.mem_of_getElem? (i := 1) rfl)) (ty := .int) (by decide) rfl rfl (g := (mkF m 22 #[.val (.ref d)] [(.int (1 : Int32)), (.ref d)])) rfl rfl (hb hby d1_22)
  have F3_132 := F3_131.same W132
  have N132 := Fr.snoc X132 N131 ge_d
  refine own_st (fun zw zk => st132 zw zk) ?_
  have F0_132 := F0_131.wr W132
  have F4_132 := F4_131.other W132 (Or.inr (slot_ne (Or.inl (hw _ (List.mem_of_getElem? (i := 34) rfl))) (Or.inl (hw _ (List.mem_of_getElem? (i := 15) rfl))) (by decide) (t := .int) (t' := .int) (by decide) (by decide)))
  have Vb128_132 := Vb128_131.other W132 (Ne.symm ne_d_b128)
  have F1_132 := F1_131.other W132 (Or.inr (slot_ne (Or.inl (hw _ (List.mem_of_getElem? (i := 11) rfl))) (Or.inl (hw _ (List.mem_of_getElem? (i := 15) rfl))) (by decide) (t := (.array .int)) (t' := .int) (by decide) (by decide)))
  have Vb130_132 := Vb130_131.other W132 (Ne.symm ne_d_b130)
  have F2_132 := F2_131.other W132 (Or.inr (slot_ne (Or.inl (hw _ (List.mem_of_getElem? (i := 13) rfl))) (Or.inl (hw _ (List.mem_of_getElem? (i := 15) rfl))) (by decide) (t := (.array .int)) (t' := .int) (by decide) (by decide)))
  have Z132 : n0 ≤ h132.size := Nat.le_trans Z131 (Keep.of_wr W132).1
  have Kp132 := Kp131.wr W132 (Or.inl (List.mem_of_getElem? (i := 0) rfl))
  refine own_st (fun zw zk => XS.aloadN X132.here hx rfl (hb hby d1_25) rfl rfl zk) ?_
  refine own_st (fun zw zk => XS.iconst X132.here hx rfl (hb hby d1_26) zk) ?_
  obtain ⟨cq133, kq133, q133a, q133b, q133c⟩ := isOf hZ e132 F0_132
  obtain ⟨_, _, ⟨T133, L133, k133, n133⟩, -, X133, ⟨Lc133, hQ133, l133, y133, z133⟩, st133⟩ := X132.virtualBack hx (y := (⟨"com/example/passau/passau/insertion/TwoSat", "require", "(I)V"⟩ : MethodName)) (z := (⟨"com/example/passau/passau/insertion/TwoSat", "require", "(I)V"⟩ : MethodName)) hown (mvT hZ (hw _ (List.mem_of_getElem? (i := 16) rfl))) (mvT hZ (hw _ (List.mem_of_getElem? (i := 17) rfl))) (notFace_of_selects (args := #[]) (mvT hZ (hw _ (List.mem_of_getElem? (i := 19) rfl)))) (mvT hZ (hw _ (List.mem_of_getElem? (i := 19) rfl))) (mvT hZ (hw _ (List.mem_of_getElem? (i := 18) rfl))) (by decide) (backOf (W := 0) (rm3 l Z a0 hw [] d (0 : Int32) b128 b130 (0 : Int32) (1 : Int32) ([(0 : Int32), (0 : Int32), (0 : Int32), (0 : Int32), (0 : Int32), (0 : Int32), (0 : Int32), (0 : Int32), (0 : Int32), (0 : Int32), (0 : Int32), (0 : Int32), (0 : Int32), (0 : Int32), (0 : Int32), (0 : Int32)]) ([(0 : Int32), (0 : Int32), (0 : Int32), (0 : Int32), (0 : Int32), (0 : Int32), (0 : Int32), (0 : Int32), (0 : Int32), (0 : Int32), (0 : Int32), (0 : Int32), (0 : Int32), (0 : Int32), (0 : Int32), (0 : Int32)]) [(1 : Int32), (0 : Int32), (0 : Int32), (0 : Int32), (0 : Int32), (0 : Int32), (0 : Int32), (0 : Int32), (0 : Int32), (0 : Int32), (0 : Int32), (0 : Int32), (0 : Int32), (0 : Int32), (0 : Int32), (0 : Int32)] [(1 : Int32), (1 : Int32), (0 : Int32), (0 : Int32), (0 : Int32), (0 : Int32), (0 : Int32), (0 : Int32), (0 : Int32), (0 : Int32), (0 : Int32), (0 : Int32), (0 : Int32), (0 : Int32), (0 : Int32), (0 : Int32)] [(0 : Int32), (0 : Int32), (0 : Int32), (0 : Int32), (0 : Int32), (0 : Int32), (0 : Int32), (0 : Int32), (0 : Int32), (0 : Int32), (0 : Int32), (0 : Int32), (0 : Int32), (0 : Int32), (0 : Int32), (0 : Int32)] [(0 : Int32), (0 : Int32), (0 : Int32), (0 : Int32), (0 : Int32), (0 : Int32), (0 : Int32), (0 : Int32), (0 : Int32), (0 : Int32), (0 : Int32), (0 : Int32), (0 : Int32), (0 : Int32), (0 : Int32), (0 : Int32)] h132 n0 Z132 (F0_132) (F1_132) (F2_132) (F3_132) (F4_132) (Vb128_132) (Vb130_132) (ge_d) (G128) (G130) (ne_d_b128) (ne_d_b130) (ne_b128_b130) (by decide +kernel) (by decide +kernel) (by decide +kernel) (by decide +kernel) (by decide +kernel) (by decide +kernel) (by decide)) hZ (hw _ (List.mem_of_getElem? (i := 20) rfl)) (hw _ (List.mem_of_getElem? (i := 2) rfl)) (by decide) (by decide)) q133a q133c (g := (mkF m 27 #[.val (.ref d)] [(.int (0 : Int32)), (.ref d)])) rfl (by rw [hml]; rfl) (Steps.refl _) (argsL := [(.int (0 : Int32))]) (rest := []) (lenOf pd_1 rfl) rfl (by show 2 * 0 + _ ≤ _; exact Nat.le_of_eq rfl) (hb hby d1_27) (fun _ _ => ⟨rfl, e132, (by decide : 2 + 0 ≤ _), (by decide : 32 + 0 ≤ _)⟩)
  dsimp only [Pt.U, Pt.locs, Pt.cells, Pt.slots] at X133 l133 y133 z133 st133 hQ133
  subst l133 y133 z133
  obtain ⟨rfl, N133q, K133, O133_0, O133_1, O133_2, O133_3, O133_4, O133_5⟩ := hQ133
  have F0_133 := F0_132.keep K133
  have Z133 : n0 ≤ T133.heap.size := Nat.le_trans Z132 K133.1
  have Kp133 := Kp132.trans K133 (allS (Or.inl (List.mem_of_getElem? (i := 0) rfl)) (allS (Or.inr sz128) (allS (Or.inr sz130) all0)))
  have J133 : Fld Z T133.heap d "com/example/passau/passau/insertion/TwoSat" "implications" "I" (.int (2 : Int32)) := O133_3
  have N133 := Fr.app N132 N133q
  refine own_jp st133 ?_
  show own_Go p e below G (T133.setTop (mkF m 30 #[.val (.ref d)] []))
  subst hG
  obtain ⟨fs, hr, hrun, hended, hW, hsame⟩ := X133.leave (v := none) (hlocks := Bd.notSynchronized) (fun _ => rfl)
  refine ⟨_, X133.returnOut hx Bd.returns (hb hby d1_30) hr, _, hrun, hended, _, _, rfl, ?_, ⟨_, rfl⟩, hW, hsame.mono (by decide) (by decide)⟩
  show Q1 Z d h0 n0 _ T133.heap _
  exact ⟨rfl, N133, b128, b130, sz128, sz130, Kp133, O133_0, O133_1, O133_2, J133, O133_4, O133_5, ne_b128_b130⟩
theorem pd_6 : parseMethodDescriptor "([II)[I" = some ⟨[(.array .int), .int], some (.array .int)⟩ := by decide +kernel
theorem pd_7 : parseMethodDescriptor "([I[II)[I" = some ⟨[(.array .int), (.array .int), .int], some (.array .int)⟩ := by decide +kernel
theorem d8_0 : decode prog_53_method_8_code 0 = .ok (.iconst 2, 1) := by decide +kernel
theorem d8_1 : decode prog_53_method_8_code 1 = .ok (.aload_n 0, 1) := by decide +kernel
theorem d8_2 : decode prog_53_method_8_code 2 = .ok (.getfield 16, 3) := by decide +kernel
theorem d8_5 : decode prog_53_method_8_code 5 = .ok (.imul, 1) := by decide +kernel
theorem d8_6 : decode prog_53_method_8_code 6 = .ok (.istore_n 1, 1) := by decide +kernel
theorem d8_7 : decode prog_53_method_8_code 7 = .ok (.iload_n 1, 1) := by decide +kernel
theorem d8_8 : decode prog_53_method_8_code 8 = .ok (.iconst 1, 1) := by decide +kernel
theorem d8_9 : decode prog_53_method_8_code 9 = .ok (.iadd, 1) := by decide +kernel
theorem d8_10 : decode prog_53_method_8_code 10 = .ok (.newarray .int, 2) := by decide +kernel
theorem d8_12 : decode prog_53_method_8_code 12 = .ok (.astore_n 2, 1) := by decide +kernel
theorem d8_13 : decode prog_53_method_8_code 13 = .ok (.iconst 0, 1) := by decide +kernel
theorem d8_14 : decode prog_53_method_8_code 14 = .ok (.istore_n 3, 1) := by decide +kernel
theorem d8_15 : decode prog_53_method_8_code 15 = .ok (.iload_n 3, 1) := by decide +kernel
theorem d8_16 : decode prog_53_method_8_code 16 = .ok (.aload_n 0, 1) := by decide +kernel
theorem d8_17 : decode prog_53_method_8_code 17 = .ok (.getfield 63, 3) := by decide +kernel
theorem d8_20 : decode prog_53_method_8_code 20 = .ok (.if_icmp .ge 23, 3) := by decide +kernel
theorem d8_23 : decode prog_53_method_8_code 23 = .ok (.aload_n 2, 1) := by decide +kernel
theorem d8_24 : decode prog_53_method_8_code 24 = .ok (.aload_n 0, 1) := by decide +kernel
theorem d8_25 : decode prog_53_method_8_code 25 = .ok (.getfield 7, 3) := by decide +kernel
theorem d8_28 : decode prog_53_method_8_code 28 = .ok (.iload_n 3, 1) := by decide +kernel
theorem d8_29 : decode prog_53_method_8_code 29 = .ok (.iaload, 1) := by decide +kernel
theorem d8_30 : decode prog_53_method_8_code 30 = .ok (.iconst 1, 1) := by decide +kernel
theorem d8_31 : decode prog_53_method_8_code 31 = .ok (.iadd, 1) := by decide +kernel
theorem d8_32 : decode prog_53_method_8_code 32 = .ok (.dup2, 1) := by decide +kernel
theorem d8_33 : decode prog_53_method_8_code 33 = .ok (.iaload, 1) := by decide +kernel
theorem d8_34 : decode prog_53_method_8_code 34 = .ok (.iconst 1, 1) := by decide +kernel
theorem d8_35 : decode prog_53_method_8_code 35 = .ok (.iadd, 1) := by decide +kernel
theorem d8_36 : decode prog_53_method_8_code 36 = .ok (.iastore, 1) := by decide +kernel
theorem d8_37 : decode prog_53_method_8_code 37 = .ok (.iinc 3 1, 3) := by decide +kernel
theorem d8_40 : decode prog_53_method_8_code 40 = .ok (.goto (-25), 3) := by decide +kernel
theorem d8_43 : decode prog_53_method_8_code 43 = .ok (.iconst 0, 1) := by decide +kernel
theorem d8_44 : decode prog_53_method_8_code 44 = .ok (.istore_n 3, 1) := by decide +kernel
theorem d8_45 : decode prog_53_method_8_code 45 = .ok (.iload_n 3, 1) := by decide +kernel
theorem d8_46 : decode prog_53_method_8_code 46 = .ok (.iload_n 1, 1) := by decide +kernel
theorem d8_47 : decode prog_53_method_8_code 47 = .ok (.if_icmp .ge 20, 3) := by decide +kernel
theorem d8_50 : decode prog_53_method_8_code 50 = .ok (.aload_n 2, 1) := by decide +kernel
theorem d8_51 : decode prog_53_method_8_code 51 = .ok (.iload_n 3, 1) := by decide +kernel
theorem d8_52 : decode prog_53_method_8_code 52 = .ok (.iconst 1, 1) := by decide +kernel
theorem d8_53 : decode prog_53_method_8_code 53 = .ok (.iadd, 1) := by decide +kernel
theorem d8_54 : decode prog_53_method_8_code 54 = .ok (.dup2, 1) := by decide +kernel
theorem d8_55 : decode prog_53_method_8_code 55 = .ok (.iaload, 1) := by decide +kernel
theorem d8_56 : decode prog_53_method_8_code 56 = .ok (.aload_n 2, 1) := by decide +kernel
theorem d8_57 : decode prog_53_method_8_code 57 = .ok (.iload_n 3, 1) := by decide +kernel
theorem d8_58 : decode prog_53_method_8_code 58 = .ok (.iaload, 1) := by decide +kernel
theorem d8_59 : decode prog_53_method_8_code 59 = .ok (.iadd, 1) := by decide +kernel
theorem d8_60 : decode prog_53_method_8_code 60 = .ok (.iastore, 1) := by decide +kernel
theorem d8_61 : decode prog_53_method_8_code 61 = .ok (.iinc 3 1, 3) := by decide +kernel
theorem d8_64 : decode prog_53_method_8_code 64 = .ok (.goto (-19), 3) := by decide +kernel
theorem d8_67 : decode prog_53_method_8_code 67 = .ok (.aload_n 0, 1) := by decide +kernel
theorem d8_68 : decode prog_53_method_8_code 68 = .ok (.getfield 63, 3) := by decide +kernel
theorem d8_71 : decode prog_53_method_8_code 71 = .ok (.newarray .int, 2) := by decide +kernel
theorem d8_73 : decode prog_53_method_8_code 73 = .ok (.astore_n 3, 1) := by decide +kernel
theorem d8_74 : decode prog_53_method_8_code 74 = .ok (.aload_n 2, 1) := by decide +kernel
theorem d8_75 : decode prog_53_method_8_code 75 = .ok (.iload_n 1, 1) := by decide +kernel
theorem d8_76 : decode prog_53_method_8_code 76 = .ok (.invokestatic 66, 3) := by decide +kernel
theorem d8_79 : decode prog_53_method_8_code 79 = .ok (.astore 4, 2) := by decide +kernel
theorem d8_81 : decode prog_53_method_8_code 81 = .ok (.iconst 0, 1) := by decide +kernel
theorem d8_82 : decode prog_53_method_8_code 82 = .ok (.istore 5, 2) := by decide +kernel
theorem d8_84 : decode prog_53_method_8_code 84 = .ok (.iload 5, 2) := by decide +kernel
theorem d8_86 : decode prog_53_method_8_code 86 = .ok (.aload_n 0, 1) := by decide +kernel
theorem d8_87 : decode prog_53_method_8_code 87 = .ok (.getfield 63, 3) := by decide +kernel
theorem d8_90 : decode prog_53_method_8_code 90 = .ok (.if_icmp .ge 33, 3) := by decide +kernel
theorem d8_93 : decode prog_53_method_8_code 93 = .ok (.aload_n 3, 1) := by decide +kernel
theorem d8_94 : decode prog_53_method_8_code 94 = .ok (.aload 4, 2) := by decide +kernel
theorem d8_96 : decode prog_53_method_8_code 96 = .ok (.aload_n 0, 1) := by decide +kernel
theorem d8_97 : decode prog_53_method_8_code 97 = .ok (.getfield 7, 3) := by decide +kernel
theorem d8_100 : decode prog_53_method_8_code 100 = .ok (.iload 5, 2) := by decide +kernel
theorem d8_102 : decode prog_53_method_8_code 102 = .ok (.iaload, 1) := by decide +kernel
theorem d8_103 : decode prog_53_method_8_code 103 = .ok (.dup2, 1) := by decide +kernel
theorem d8_104 : decode prog_53_method_8_code 104 = .ok (.iaload, 1) := by decide +kernel
theorem d8_105 : decode prog_53_method_8_code 105 = .ok (.dup_x2, 1) := by decide +kernel
theorem d8_106 : decode prog_53_method_8_code 106 = .ok (.iconst 1, 1) := by decide +kernel
theorem d8_107 : decode prog_53_method_8_code 107 = .ok (.iadd, 1) := by decide +kernel
theorem d8_108 : decode prog_53_method_8_code 108 = .ok (.iastore, 1) := by decide +kernel
theorem d8_109 : decode prog_53_method_8_code 109 = .ok (.aload_n 0, 1) := by decide +kernel
theorem d8_110 : decode prog_53_method_8_code 110 = .ok (.getfield 13, 3) := by decide +kernel
theorem d8_113 : decode prog_53_method_8_code 113 = .ok (.iload 5, 2) := by decide +kernel
theorem d8_115 : decode prog_53_method_8_code 115 = .ok (.iaload, 1) := by decide +kernel
theorem d8_116 : decode prog_53_method_8_code 116 = .ok (.iastore, 1) := by decide +kernel
theorem d8_117 : decode prog_53_method_8_code 117 = .ok (.iinc 5 1, 3) := by decide +kernel
theorem d8_120 : decode prog_53_method_8_code 120 = .ok (.goto (-36), 3) := by decide +kernel
theorem d8_123 : decode prog_53_method_8_code 123 = .ok (.aload_n 2, 1) := by decide +kernel
theorem d8_124 : decode prog_53_method_8_code 124 = .ok (.aload_n 3, 1) := by decide +kernel
theorem d8_125 : decode prog_53_method_8_code 125 = .ok (.iload_n 1, 1) := by decide +kernel
theorem d8_126 : decode prog_53_method_8_code 126 = .ok (.invokestatic 72, 3) := by decide +kernel
theorem d8_129 : decode prog_53_method_8_code 129 = .ok (.astore 5, 2) := by decide +kernel
theorem d8_131 : decode prog_53_method_8_code 131 = .ok (.aload_n 0, 1) := by decide +kernel
theorem d8_132 : decode prog_53_method_8_code 132 = .ok (.getfield 16, 3) := by decide +kernel
theorem d8_135 : decode prog_53_method_8_code 135 = .ok (.newarray .boolean, 2) := by decide +kernel
theorem d8_137 : decode prog_53_method_8_code 137 = .ok (.astore 6, 2) := by decide +kernel
theorem d8_139 : decode prog_53_method_8_code 139 = .ok (.iconst 0, 1) := by decide +kernel
theorem d8_140 : decode prog_53_method_8_code 140 = .ok (.istore 7, 2) := by decide +kernel
theorem d8_142 : decode prog_53_method_8_code 142 = .ok (.iload 7, 2) := by decide +kernel
theorem d8_144 : decode prog_53_method_8_code 144 = .ok (.aload_n 0, 1) := by decide +kernel
theorem d8_145 : decode prog_53_method_8_code 145 = .ok (.getfield 16, 3) := by decide +kernel
theorem d8_148 : decode prog_53_method_8_code 148 = .ok (.if_icmp .ge 59, 3) := by decide +kernel
theorem d8_151 : decode prog_53_method_8_code 151 = .ok (.aload 5, 2) := by decide +kernel
theorem d8_153 : decode prog_53_method_8_code 153 = .ok (.iconst 2, 1) := by decide +kernel
theorem d8_154 : decode prog_53_method_8_code 154 = .ok (.iload 7, 2) := by decide +kernel
theorem d8_156 : decode prog_53_method_8_code 156 = .ok (.imul, 1) := by decide +kernel
theorem d8_157 : decode prog_53_method_8_code 157 = .ok (.iaload, 1) := by decide +kernel
theorem d8_158 : decode prog_53_method_8_code 158 = .ok (.aload 5, 2) := by decide +kernel
theorem d8_160 : decode prog_53_method_8_code 160 = .ok (.iconst 2, 1) := by decide +kernel
theorem d8_161 : decode prog_53_method_8_code 161 = .ok (.iload 7, 2) := by decide +kernel
theorem d8_163 : decode prog_53_method_8_code 163 = .ok (.imul, 1) := by decide +kernel
theorem d8_164 : decode prog_53_method_8_code 164 = .ok (.iconst 1, 1) := by decide +kernel
theorem d8_165 : decode prog_53_method_8_code 165 = .ok (.iadd, 1) := by decide +kernel
theorem d8_166 : decode prog_53_method_8_code 166 = .ok (.iaload, 1) := by decide +kernel
theorem d8_167 : decode prog_53_method_8_code 167 = .ok (.if_icmp .ne 5, 3) := by decide +kernel
theorem d8_172 : decode prog_53_method_8_code 172 = .ok (.aload 6, 2) := by decide +kernel
theorem d8_174 : decode prog_53_method_8_code 174 = .ok (.iload 7, 2) := by decide +kernel
theorem d8_176 : decode prog_53_method_8_code 176 = .ok (.aload 5, 2) := by decide +kernel
theorem d8_178 : decode prog_53_method_8_code 178 = .ok (.iconst 2, 1) := by decide +kernel
theorem d8_179 : decode prog_53_method_8_code 179 = .ok (.iload 7, 2) := by decide +kernel
theorem d8_181 : decode prog_53_method_8_code 181 = .ok (.imul, 1) := by decide +kernel
theorem d8_182 : decode prog_53_method_8_code 182 = .ok (.iaload, 1) := by decide +kernel
theorem d8_183 : decode prog_53_method_8_code 183 = .ok (.aload 5, 2) := by decide +kernel
theorem d8_185 : decode prog_53_method_8_code 185 = .ok (.iconst 2, 1) := by decide +kernel
theorem d8_186 : decode prog_53_method_8_code 186 = .ok (.iload 7, 2) := by decide +kernel
theorem d8_188 : decode prog_53_method_8_code 188 = .ok (.imul, 1) := by decide +kernel
theorem d8_189 : decode prog_53_method_8_code 189 = .ok (.iconst 1, 1) := by decide +kernel
theorem d8_190 : decode prog_53_method_8_code 190 = .ok (.iadd, 1) := by decide +kernel
theorem d8_191 : decode prog_53_method_8_code 191 = .ok (.iaload, 1) := by decide +kernel
theorem d8_192 : decode prog_53_method_8_code 192 = .ok (.if_icmp .ge 7, 3) := by decide +kernel
theorem d8_195 : decode prog_53_method_8_code 195 = .ok (.iconst 1, 1) := by decide +kernel
theorem d8_196 : decode prog_53_method_8_code 196 = .ok (.goto 4, 3) := by decide +kernel
theorem d8_199 : decode prog_53_method_8_code 199 = .ok (.iconst 0, 1) := by decide +kernel
theorem d8_200 : decode prog_53_method_8_code 200 = .ok (.bastore, 1) := by decide +kernel
theorem d8_201 : decode prog_53_method_8_code 201 = .ok (.iinc 7 1, 3) := by decide +kernel
theorem d8_204 : decode prog_53_method_8_code 204 = .ok (.goto (-62), 3) := by decide +kernel
theorem d8_207 : decode prog_53_method_8_code 207 = .ok (.aload 6, 2) := by decide +kernel
theorem d8_209 : decode prog_53_method_8_code 209 = .ok (.areturn, 1) := by decide +kernel
theorem ef_rm8 (m : MethodId) (d : Addr) : entryFrame m #[(.ref d)] 8 = mkF m 0 #[.val (.ref d), .unset, .unset, .unset, .unset, .unset, .unset, .unset] [] := by first | (simp [entryFrame, mkF, argsToLocals, Value.category]; done) | rfl
def Q8 (Z : State) (d : Addr) (afr : Addr) (ato : Addr) (im : Int32) (va : Int32) (lf : List Int32) (lt : List Int32) (nn : Nat) (ni : Nat) (nv : Nat) (res : List Int32) (h0 : Heap) (n0 : Nat) (rv : Option Value) (hq : Heap) (Lq : List Loc) : Prop := ∃ bb : Addr, rv = some (.ref bb) ∧ Fr n0 Lq ∧ h0.size ≤ bb ∧ Keep h0 hq [] ∧ own_L Z hq bb .boolean ((own_il res))
set_option maxRecDepth 65536 in
set_option maxHeartbeats 40000000 in
theorem rm8 (l : Launch) (Z : State) (a0 : Array Value) (hw : ∀ d ∈ tables_1, d.before a0 Z = true) (ws : List Jvm.Cond) (d : Addr) (afr : Addr) (ato : Addr) (im : Int32) (va : Int32) (lf : List Int32) (lt : List Int32) (nn : Nat) (ni : Nat) (nv : Nat) (res : List Int32) (h0 : Heap) (n0 : Nat) (Z0 : n0 ≤ h0.size) (F0_ : Fld Z h0 d "com/example/passau/passau/insertion/TwoSat" "from" "[I" (.ref afr)) (F1_ : Fld Z h0 d "com/example/passau/passau/insertion/TwoSat" "to" "[I" (.ref ato)) (F2_ : Fld Z h0 d "com/example/passau/passau/insertion/TwoSat" "variables" "I" (.int va)) (F3_ : Fld Z h0 d "com/example/passau/passau/insertion/TwoSat" "implications" "I" (.int im)) (F4_ : own_L Z h0 afr .int ((own_il lf))) (F5_ : own_L Z h0 ato .int ((own_il lt))) (hlit : ((2 : Int32) * va).toInt = nn) (hnb : nn ≤ 15) (him : im.toInt = ni) (hib : ni ≤ 16) (hva : va.toInt = nv) (hvb : nv ≤ 16) (hE : own_solve lf lt im va nn ni nv = some res) :
    MetFree l (⟨"com/example/passau/passau/insertion/TwoSat", "solve", "()[Z"⟩ : MethodName) (head1 (Jvm.Cond.code (⟨"com/example/passau/passau/insertion/TwoSat", "solve", "()[Z"⟩ : MethodName) prog_53_method_8_code 8 (some (.array .boolean)) :: ws) ({ frames := 4, cells := 12, slots := 189, locals := 60 } : Room)) (fun za U => za = #[(.ref d)] ∧ Z.Warmed39 U.vm ∧ U.heap = h0) (fun _ _ _ _ _ => True) (fun _ U o U' => ∃ rv Lq, o = .returned rv ∧ Q8 Z d afr ato im va lf lt nn ni nv res h0 n0 rv U'.heap Lq ∧ FrameEnd U o U' Lq ({ frames := 4, cells := 12, slots := 189, locals := 60 } : Room).cells ({ frames := 4, cells := 12, slots := 189, locals := 60 } : Room).slots) := by
  refine MetFree.of_bodySF (plainFor_of_name pn_0) hisR ?_
  intro p e s m args below meth c s₁ Bd hml0 hP hK
  obtain ⟨rfl, hZ, hh⟩ := hP
  have hx := Bd.exec
  have hby := Bd.bytes
  have hml : c.maxLocals = 8 := hml0
  have hown : s.vm.findClass "com/example/passau/passau/insertion/TwoSat" = some m.cls := findClass_of_methodNamed Bd.named
  have hnm := (name_of_methodNamed Bd.named Bd.method).1
  have X0 : Stand p l e ({ frames := 4, cells := 12, slots := 189, locals := 60 } : Room) s m #[(.ref d)] below meth c s₁ [] 0 0 := Stand.of_body Bd
  have e0 : s₁.heap = h0 := by rw [← hh, Bd.state]; rfl
  have N0 := Fr.nil n0
  refine own_out (own_nm fun G hG => own_st (fun zt zk => castTop (ef_rm8 m d) zk) ?_)
  have hE' := hE
  unfold own_solve at hE'
  obtain ⟨s1, hs1, hE'⟩ := own_bd hE'
  obtain ⟨s2, hs2, hE'⟩ := own_bd hE'
  have hsl2 : s2.length = nn + 1 := by
    by_cases q : s2.length = nn + 1
    · exact q
    · rw [if_neg q] at hE'; simp at hE'
  rw [if_pos hsl2] at hE'
  obtain ⟨nF, hs3, hE'⟩ := own_bd hE'
  obtain ⟨cs, hcs, hs4⟩ := own_bd hE'
  show own_Go p e below G (s₁.setTop (mkF m 0 #[.val (.ref d), .unset, .unset, .unset, .unset, .unset, .unset, .unset] []))
  refine own_st (fun zw zk => XS.iconst X0.here hx rfl (hb hby d8_0) zk) ?_
  refine own_st (fun zw zk => XS.aloadN X0.here hx rfl (hb hby d8_1) rfl rfl zk) ?_
  obtain ⟨T134, X134, e134, st134⟩ := getF X0 hx hZ hown (host := "") (Or.inl (hw _ (List.mem_of_getElem? (i := 14) rfl))) Via.refl e0 F2_ (g := (mkF m 2 #[.val (.ref d), .unset, .unset, .unset, .unset, .unset, .unset, .unset] [(.ref d), (.int (2 : Int32))])) rfl rfl (hb hby d8_2)
  refine own_st (fun zw zk => st134 zw zk) ?_
  refine own_st (fun zw zk => XS.imul X134.here hx rfl (hb hby d8_5) rfl zk) ?_
  refine own_st (fun zw zk => XS.istoreN X134.here hx rfl (hb hby d8_6) rfl rfl zk) ?_
  show own_Go p e below G (T134.setTop (mkF m 7 #[.val (.ref d), .val (.int ((2 : Int32) * va)), .unset, .unset, .unset, .unset, .unset, .unset] []))
  refine own_st (fun zw zk => XS.iloadN X134.here hx rfl (hb hby d8_7) rfl zk) ?_
  refine own_st (fun zw zk => XS.iconst X134.here hx rfl (hb hby d8_8) zk) ?_
  refine own_st (fun zw zk => XS.iadd X134.here hx rfl (hb hby d8_9) rfl zk) ?_
  obtain ⟨T135, h135, k135, X135, e135, E135, A135, st135⟩ := newP X134 hx hZ (hw _ (List.mem_of_getElem? (i := 9) rfl)) e134 (g := (mkF m 10 #[.val (.ref d), .val (.int ((2 : Int32) * va)), .unset, .unset, .unset, .unset, .unset, .unset] [(.int (((2 : Int32) * va) + (1 : Int32)))])) rfl (hb hby d8_10) rfl (own_nn (own_up1 hlit hnb)) (cap := 16) (by rw [own_nat (own_up1 hlit hnb)]; omega) (by decide) (by decide) (by decide)
  obtain ⟨b135, g135⟩ : ∃ z, z = h0.size := ⟨_, rfl⟩
  rw [← g135] at A135 st135
  have G135 : n0 ≤ b135 := Nat.le_trans Z0 (Nat.le_of_eq g135.symm)
  have ne_d_b135 : d ≠ b135 := Nat.ne_of_lt (Nat.lt_of_lt_of_le F0_.lt (Nat.le_of_eq g135.symm))
  have ne_afr_b135 : afr ≠ b135 := Nat.ne_of_lt (Nat.lt_of_lt_of_le F4_.lt (Nat.le_of_eq g135.symm))
  have ne_ato_b135 : ato ≠ b135 := Nat.ne_of_lt (Nat.lt_of_lt_of_le F5_.lt (Nat.le_of_eq g135.symm))
  have F0_135 := F0_.ext E135
  have F1_135 := F1_.ext E135
  have F2_135 := F2_.ext E135
  have F3_135 := F3_.ext E135
  have F4_135 := F4_.ext E135
  have F5_135 := F5_.ext E135
  have Z135 : n0 ≤ h135.size := Nat.le_trans Z0 E135.1
  have sz135 : h0.size ≤ b135 := Nat.le_trans (Keep.refl h0 []).1 (Nat.le_of_eq g135.symm)
  have Kp135 := (Keep.refl h0 []).ext E135
  have V135 : own_L Z h135 b135 .int ((own_il (List.replicate (nn + 1) 0))) := (own_newc (own_up1 hlit hnb) (own_L.new A135))
  refine own_st (fun zw zk => st135 zw zk) ?_
  refine own_st (fun zw zk => XS.astoreN X135.here hx rfl (hb hby d8_12) rfl rfl rfl zk) ?_
  show own_Go p e below G (T135.setTop (mkF m 13 #[.val (.ref d), .val (.int ((2 : Int32) * va)), .val (.ref b135), .unset, .unset, .unset, .unset, .unset] []))
  refine own_st (fun zw zk => XS.iconst X135.here hx rfl (hb hby d8_13) zk) ?_
  refine own_st (fun zw zk => XS.istoreN X135.here hx rfl (hb hby d8_14) rfl rfl zk) ?_
  have loop15_136 : ∀ (bk : Nat) (ii : Int32) (kf : Nat) (sx : List Int32) (hj136 : Heap) (Zj136 : n0 ≤ hj136.size) (Kj136 : Keep h0 hj136 []) (Fj136_0 : Fld Z hj136 d "com/example/passau/passau/insertion/TwoSat" "from" "[I" (.ref afr)) (Fj136_1 : Fld Z hj136 d "com/example/passau/passau/insertion/TwoSat" "to" "[I" (.ref ato)) (Fj136_2 : Fld Z hj136 d "com/example/passau/passau/insertion/TwoSat" "variables" "I" (.int va)) (Fj136_3 : Fld Z hj136 d "com/example/passau/passau/insertion/TwoSat" "implications" "I" (.int im)) (Fj136_4 : own_L Z hj136 afr .int ((own_il lf))) (Fj136_5 : own_L Z hj136 ato .int ((own_il lt))) (Fj136_6 : own_L Z hj136 b135 .int ((own_il sx))) (Tj136 : State) (Lj136 : List Loc) (Xj136 : Stand p l e ({ frames := 4, cells := 12, slots := 189, locals := 60 } : Room) s m #[(.ref d)] below meth c Tj136 Lj136 1 16) (ej136 : Tj136.heap = hj136) (Nj136 : Fr n0 Lj136) (hI : own_l1 lf im kf ii sx = some s1) (hbk : kf < bk), own_Go p e below G (Tj136.setTop (mkF m 15 #[.val (.ref d), .val (.int ((2 : Int32) * va)), .val (.ref b135), .val (.int ii), .unset, .unset, .unset, .unset] [])) := by
    intro bk
    induction bk with
    | zero =>
      intro ii kf sx hj136 Zj136 Kj136 Fj136_0 Fj136_1 Fj136_2 Fj136_3 Fj136_4 Fj136_5 Fj136_6 Tj136 Lj136 Xj136 ej136 Nj136 hI hbk
      exact absurd hbk (Nat.not_lt_zero _)
    | succ bk ih =>
      intro ii kf sx hj136 Zj136 Kj136 Fj136_0 Fj136_1 Fj136_2 Fj136_3 Fj136_4 Fj136_5 Fj136_6 Tj136 Lj136 Xj136 ej136 Nj136 hI hbk
      show own_Go p e below G (Tj136.setTop (mkF m 15 #[.val (.ref d), .val (.int ((2 : Int32) * va)), .val (.ref b135), .val (.int ii), .unset, .unset, .unset, .unset] []))
      refine own_st (fun zw zk => XS.iloadN Xj136.here hx rfl (hb hby d8_15) rfl zk) ?_
      refine own_st (fun zw zk => XS.aloadN Xj136.here hx rfl (hb hby d8_16) rfl rfl zk) ?_
      obtain ⟨T137, X137, e137, st137⟩ := getF Xj136 hx hZ hown (host := "") (Or.inl (hw _ (List.mem_of_getElem? (i := 33) rfl))) Via.refl ej136 Fj136_3 (g := (mkF m 17 #[.val (.ref d), .val (.int ((2 : Int32) * va)), .val (.ref b135), .val (.int ii), .unset, .unset, .unset, .unset] [(.ref d), (.int ii)])) rfl rfl (hb hby d8_17)
      refine own_st (fun zw zk => st137 zw zk) ?_
      by_cases hc20 : ii < im
      · refine own_st (fun zw zk => XS.icmpNo X137.here hx rfl (hb hby d8_20) rfl (tlt hc20).2.1 zk) ?_
        obtain ⟨kg, f9, x9, y9, hkf, hf9, hx9, hy9, hJ⟩ := own_l1_inv hI hc20
        refine own_st (fun zw zk => XS.aloadN X137.here hx rfl (hb hby d8_23) rfl rfl zk) ?_
        refine own_st (fun zw zk => XS.aloadN X137.here hx rfl (hb hby d8_24) rfl rfl zk) ?_
        obtain ⟨T138, X138, e138, st138⟩ := getF X137 hx hZ hown (host := "") (Or.inl (hw _ (List.mem_of_getElem? (i := 10) rfl))) Via.refl e137 Fj136_0 (g := (mkF m 25 #[.val (.ref d), .val (.int ((2 : Int32) * va)), .val (.ref b135), .val (.int ii), .unset, .unset, .unset, .unset] [(.ref d), (.ref b135)])) rfl rfl (hb hby d8_25)
        refine own_st (fun zw zk => st138 zw zk) ?_
        refine own_st (fun zw zk => XS.iloadN X138.here hx rfl (hb hby d8_28) rfl zk) ?_
        show own_Go p e below G (T138.setTop (mkF m 29 #[.val (.ref d), .val (.int ((2 : Int32) * va)), .val (.ref b135), .val (.int ii), .unset, .unset, .unset, .unset] [(.int ii), (.ref afr), (.ref b135)]))
        refine own_st (fun zw zk => own_ild X138 hx hZ e138 Fj136_4 (j := ii) (v := (.int f9)) (i := ii.toInt.toNat) (own_nn (own_gn hf9)) (own_nat (own_gn hf9)) (own_gv hf9) (g := (mkF m 29 #[.val (.ref d), .val (.int ((2 : Int32) * va)), .val (.ref b135), .val (.int ii), .unset, .unset, .unset, .unset] [(.int ii), (.ref afr), (.ref b135)])) rfl rfl (hb hby d8_29) _ zk) ?_
        refine own_st (fun zw zk => XS.iconst X138.here hx rfl (hb hby d8_30) zk) ?_
        refine own_st (fun zw zk => XS.iadd X138.here hx rfl (hb hby d8_31) rfl zk) ?_
        refine own_st (fun zw zk => XT.dup2 X138.here hx rfl (hb hby d8_32) rfl rfl rfl zk) ?_
        refine own_st (fun zw zk => own_ild X138 hx hZ e138 Fj136_6 (j := (f9 + (1 : Int32))) (v := (.int x9)) (i := (f9 + (1 : Int32)).toInt.toNat) (own_nn (own_gn hx9)) (own_nat (own_gn hx9)) (own_gv hx9) (g := (mkF m 33 #[.val (.ref d), .val (.int ((2 : Int32) * va)), .val (.ref b135), .val (.int ii), .unset, .unset, .unset, .unset] [(.int (f9 + (1 : Int32))), (.ref b135), (.int (f9 + (1 : Int32))), (.ref b135)])) rfl rfl (hb hby d8_33) _ zk) ?_
        refine own_st (fun zw zk => XS.iconst X138.here hx rfl (hb hby d8_34) zk) ?_
        refine own_st (fun zw zk => XS.iadd X138.here hx rfl (hb hby d8_35) rfl zk) ?_
        obtain ⟨T139, h139, X139, e139, W139, V139, st139⟩ := own_ist X138 hx hZ e138 Fj136_6 (j := (f9 + (1 : Int32))) ((f9 + (1 : Int32)).toInt.toNat) (own_nn (own_sn hy9)) (own_nat (own_sn hy9)) (own_sl hy9) (g := (mkF m 36 #[.val (.ref d), .val (.int ((2 : Int32) * va)), .val (.ref b135), .val (.int ii), .unset, .unset, .unset, .unset] [(.int (x9 + (1 : Int32))), (.int (f9 + (1 : Int32))), (.ref b135)])) rfl rfl (hb hby d8_36)
        have Fj1366_139 : own_L Z h139 b135 .int ((own_il y9)) := (own_Lc (own_se hy9) V139)
        have N139 := Fr.snoc X139 Nj136 G135
        refine own_st (fun zw zk => st139 zw zk) ?_
        have Fj1360_139 := Fj136_0.other W139 (Or.inl ne_d_b135)
        have Fj1361_139 := Fj136_1.other W139 (Or.inl ne_d_b135)
        have Fj1362_139 := Fj136_2.other W139 (Or.inl ne_d_b135)
        have Fj1363_139 := Fj136_3.other W139 (Or.inl ne_d_b135)
        have Fj1364_139 := Fj136_4.other W139 ne_afr_b135
        have Fj1365_139 := Fj136_5.other W139 ne_ato_b135
        have Z139 : n0 ≤ h139.size := Nat.le_trans Zj136 (Keep.of_wr W139).1
        have Kp139 := Kj136.wr W139 (Or.inr sz135)
        show own_Go p e below G (T139.setTop (mkF m 37 #[.val (.ref d), .val (.int ((2 : Int32) * va)), .val (.ref b135), .val (.int ii), .unset, .unset, .unset, .unset] []))
        refine own_st (fun zw zk => XS.iinc X139.here hx rfl (hb hby d8_37) rfl rfl zk) ?_
        show own_Go p e below G (T139.setTop (mkF m 40 #[.val (.ref d), .val (.int ((2 : Int32) * va)), .val (.ref b135), .val (.int (ii + (1 : Int32))), .unset, .unset, .unset, .unset] []))
        refine own_st (fun zw zk => XS.goto X139.here hx rfl (pc0 := 40) (pc' := 15) rfl (hb hby d8_40) (by decide) (by decide) zk) ?_
        show own_Go p e below G (T139.setTop (mkF m 15 #[.val (.ref d), .val (.int ((2 : Int32) * va)), .val (.ref b135), .val (.int (ii + (1 : Int32))), .unset, .unset, .unset, .unset] []))
        exact ih (ii + (1 : Int32)) (kg) (y9) _ Z139 Kp139 Fj1360_139 Fj1361_139 Fj1362_139 Fj1363_139 Fj1364_139 Fj1365_139 Fj1366_139 _ _ X139 e139 N139 (hJ) (by omega)
      · refine own_st (fun zw zk => XS.icmpYes X137.here hx rfl (pc0 := 20) (pc' := 43) rfl (hb hby d8_20) rfl (flt hc20).2.1 (by decide) (by decide) zk) ?_
        have V43 := own_Lc (congrArg own_il (own_l1_end hI hc20)) Fj136_6
        refine own_st (fun zw zk => XS.iconst X137.here hx rfl (hb hby d8_43) zk) ?_
        refine own_st (fun zw zk => XS.istoreN X137.here hx rfl (hb hby d8_44) rfl rfl zk) ?_
        have loop45_140 : ∀ (bk : Nat) (ii : Int32) (kf : Nat) (sx : List Int32) (hj140 : Heap) (Zj140 : n0 ≤ hj140.size) (Kj140 : Keep h0 hj140 []) (Fj140_0 : Fld Z hj140 d "com/example/passau/passau/insertion/TwoSat" "from" "[I" (.ref afr)) (Fj140_1 : Fld Z hj140 d "com/example/passau/passau/insertion/TwoSat" "to" "[I" (.ref ato)) (Fj140_2 : Fld Z hj140 d "com/example/passau/passau/insertion/TwoSat" "variables" "I" (.int va)) (Fj140_3 : Fld Z hj140 d "com/example/passau/passau/insertion/TwoSat" "implications" "I" (.int im)) (Fj140_4 : own_L Z hj140 afr .int ((own_il lf))) (Fj140_5 : own_L Z hj140 ato .int ((own_il lt))) (Fj140_6 : own_L Z hj140 b135 .int ((own_il sx))) (Tj140 : State) (Lj140 : List Loc) (Xj140 : Stand p l e ({ frames := 4, cells := 12, slots := 189, locals := 60 } : Room) s m #[(.ref d)] below meth c Tj140 Lj140 1 16) (ej140 : Tj140.heap = hj140) (Nj140 : Fr n0 Lj140) (hI : own_l2 (2 * va) kf ii sx = some s2) (hbk : kf < bk), own_Go p e below G (Tj140.setTop (mkF m 45 #[.val (.ref d), .val (.int ((2 : Int32) * va)), .val (.ref b135), .val (.int ii), .unset, .unset, .unset, .unset] [])) := by
          intro bk
          induction bk with
          | zero =>
            intro ii kf sx hj140 Zj140 Kj140 Fj140_0 Fj140_1 Fj140_2 Fj140_3 Fj140_4 Fj140_5 Fj140_6 Tj140 Lj140 Xj140 ej140 Nj140 hI hbk
            exact absurd hbk (Nat.not_lt_zero _)
          | succ bk ih =>
            intro ii kf sx hj140 Zj140 Kj140 Fj140_0 Fj140_1 Fj140_2 Fj140_3 Fj140_4 Fj140_5 Fj140_6 Tj140 Lj140 Xj140 ej140 Nj140 hI hbk
            show own_Go p e below G (Tj140.setTop (mkF m 45 #[.val (.ref d), .val (.int ((2 : Int32) * va)), .val (.ref b135), .val (.int ii), .unset, .unset, .unset, .unset] []))
            refine own_st (fun zw zk => XS.iloadN Xj140.here hx rfl (hb hby d8_45) rfl zk) ?_
            refine own_st (fun zw zk => XS.iloadN Xj140.here hx rfl (hb hby d8_46) rfl zk) ?_
            by_cases hc47 : ii < ((2 : Int32) * va)
            · refine own_st (fun zw zk => XS.icmpNo Xj140.here hx rfl (hb hby d8_47) rfl (tlt hc47).2.1 zk) ?_
              obtain ⟨kg, x9, y9, w9, hkf, hx9, hy9, hw9, hJ⟩ := own_l2_inv hI hc47
              refine own_st (fun zw zk => XS.aloadN Xj140.here hx rfl (hb hby d8_50) rfl rfl zk) ?_
              refine own_st (fun zw zk => XS.iloadN Xj140.here hx rfl (hb hby d8_51) rfl zk) ?_
              refine own_st (fun zw zk => XS.iconst Xj140.here hx rfl (hb hby d8_52) zk) ?_
              refine own_st (fun zw zk => XS.iadd Xj140.here hx rfl (hb hby d8_53) rfl zk) ?_
              refine own_st (fun zw zk => XT.dup2 Xj140.here hx rfl (hb hby d8_54) rfl rfl rfl zk) ?_
              show own_Go p e below G (Tj140.setTop (mkF m 55 #[.val (.ref d), .val (.int ((2 : Int32) * va)), .val (.ref b135), .val (.int ii), .unset, .unset, .unset, .unset] [(.int (ii + (1 : Int32))), (.ref b135), (.int (ii + (1 : Int32))), (.ref b135)]))
              refine own_st (fun zw zk => own_ild Xj140 hx hZ ej140 Fj140_6 (j := (ii + (1 : Int32))) (v := (.int x9)) (i := (ii + (1 : Int32)).toInt.toNat) (own_nn (own_gn hx9)) (own_nat (own_gn hx9)) (own_gv hx9) (g := (mkF m 55 #[.val (.ref d), .val (.int ((2 : Int32) * va)), .val (.ref b135), .val (.int ii), .unset, .unset, .unset, .unset] [(.int (ii + (1 : Int32))), (.ref b135), (.int (ii + (1 : Int32))), (.ref b135)])) rfl rfl (hb hby d8_55) _ zk) ?_
              refine own_st (fun zw zk => XS.aloadN Xj140.here hx rfl (hb hby d8_56) rfl rfl zk) ?_
              refine own_st (fun zw zk => XS.iloadN Xj140.here hx rfl (hb hby d8_57) rfl zk) ?_
              refine own_st (fun zw zk => own_ild Xj140 hx hZ ej140 Fj140_6 (j := ii) (v := (.int y9)) (i := ii.toInt.toNat) (own_nn (own_gn hy9)) (own_nat (own_gn hy9)) (own_gv hy9) (g := (mkF m 58 #[.val (.ref d), .val (.int ((2 : Int32) * va)), .val (.ref b135), .val (.int ii), .unset, .unset, .unset, .unset] [(.int ii), (.ref b135), (.int x9), (.int (ii + (1 : Int32))), (.ref b135)])) rfl rfl (hb hby d8_58) _ zk) ?_
              refine own_st (fun zw zk => XS.iadd Xj140.here hx rfl (hb hby d8_59) rfl zk) ?_
              obtain ⟨T141, h141, X141, e141, W141, V141, st141⟩ := own_ist Xj140 hx hZ ej140 Fj140_6 (j := (ii + (1 : Int32))) ((ii + (1 : Int32)).toInt.toNat) (own_nn (own_sn hw9)) (own_nat (own_sn hw9)) (own_sl hw9) (g := (mkF m 60 #[.val (.ref d), .val (.int ((2 : Int32) * va)), .val (.ref b135), .val (.int ii), .unset, .unset, .unset, .unset] [(.int (x9 + y9)), (.int (ii + (1 : Int32))), (.ref b135)])) rfl rfl (hb hby d8_60)
              have Fj1406_141 : own_L Z h141 b135 .int ((own_il w9)) := (own_Lc (own_se hw9) V141)
              have N141 := Fr.snoc X141 Nj140 G135
              refine own_st (fun zw zk => st141 zw zk) ?_
              have Fj1400_141 := Fj140_0.other W141 (Or.inl ne_d_b135)
              have Fj1401_141 := Fj140_1.other W141 (Or.inl ne_d_b135)
              have Fj1402_141 := Fj140_2.other W141 (Or.inl ne_d_b135)
              have Fj1403_141 := Fj140_3.other W141 (Or.inl ne_d_b135)
              have Fj1404_141 := Fj140_4.other W141 ne_afr_b135
              have Fj1405_141 := Fj140_5.other W141 ne_ato_b135
              have Z141 : n0 ≤ h141.size := Nat.le_trans Zj140 (Keep.of_wr W141).1
              have Kp141 := Kj140.wr W141 (Or.inr sz135)
              refine own_st (fun zw zk => XS.iinc X141.here hx rfl (hb hby d8_61) rfl rfl zk) ?_
              show own_Go p e below G (T141.setTop (mkF m 64 #[.val (.ref d), .val (.int ((2 : Int32) * va)), .val (.ref b135), .val (.int (ii + (1 : Int32))), .unset, .unset, .unset, .unset] []))
              refine own_st (fun zw zk => XS.goto X141.here hx rfl (pc0 := 64) (pc' := 45) rfl (hb hby d8_64) (by decide) (by decide) zk) ?_
              show own_Go p e below G (T141.setTop (mkF m 45 #[.val (.ref d), .val (.int ((2 : Int32) * va)), .val (.ref b135), .val (.int (ii + (1 : Int32))), .unset, .unset, .unset, .unset] []))
              exact ih (ii + (1 : Int32)) (kg) (w9) _ Z141 Kp141 Fj1400_141 Fj1401_141 Fj1402_141 Fj1403_141 Fj1404_141 Fj1405_141 Fj1406_141 _ _ X141 e141 N141 (hJ) (by omega)
            · refine own_st (fun zw zk => XS.icmpYes Xj140.here hx rfl (pc0 := 47) (pc' := 67) rfl (hb hby d8_47) rfl (flt hc47).2.1 (by decide) (by decide) zk) ?_
              have V67 := own_Lc (congrArg own_il (own_l2_end hI hc47)) Fj140_6
              refine own_st (fun zw zk => XS.aloadN Xj140.here hx rfl (hb hby d8_67) rfl rfl zk) ?_
              obtain ⟨T142, X142, e142, st142⟩ := getF Xj140 hx hZ hown (host := "") (Or.inl (hw _ (List.mem_of_getElem? (i := 33) rfl))) Via.refl ej140 Fj140_3 (g := (mkF m 68 #[.val (.ref d), .val (.int ((2 : Int32) * va)), .val (.ref b135), .val (.int ii), .unset, .unset, .unset, .unset] [(.ref d)])) rfl rfl (hb hby d8_68)
              refine own_st (fun zw zk => st142 zw zk) ?_
              obtain ⟨T143, h143, k143, X143, e143, E143, A143, st143⟩ := newP X142 hx hZ (hw _ (List.mem_of_getElem? (i := 9) rfl)) e142 (g := (mkF m 71 #[.val (.ref d), .val (.int ((2 : Int32) * va)), .val (.ref b135), .val (.int ii), .unset, .unset, .unset, .unset] [(.int im)])) rfl (hb hby d8_71) rfl (own_nn him) (cap := 16) (by rw [own_nat him]; omega) (by decide) (by decide) (by decide)
              obtain ⟨b143, g143⟩ : ∃ z, z = hj140.size := ⟨_, rfl⟩
              rw [← g143] at A143 st143
              have G143 : n0 ≤ b143 := Nat.le_trans Zj140 (Nat.le_of_eq g143.symm)
              have ne_d_b143 : d ≠ b143 := Nat.ne_of_lt (Nat.lt_of_lt_of_le Fj140_0.lt (Nat.le_of_eq g143.symm))
              have ne_afr_b143 : afr ≠ b143 := Nat.ne_of_lt (Nat.lt_of_lt_of_le Fj140_4.lt (Nat.le_of_eq g143.symm))
              have ne_ato_b143 : ato ≠ b143 := Nat.ne_of_lt (Nat.lt_of_lt_of_le Fj140_5.lt (Nat.le_of_eq g143.symm))
              have ne_b135_b143 : b135 ≠ b143 := Nat.ne_of_lt (Nat.lt_of_lt_of_le V67.lt (Nat.le_of_eq g143.symm))
              have Fj1400_143 := Fj140_0.ext E143
              have Fj1401_143 := Fj140_1.ext E143
              have Fj1402_143 := Fj140_2.ext E143
              have Fj1403_143 := Fj140_3.ext E143
              have Fj1404_143 := Fj140_4.ext E143
              have Fj1405_143 := Fj140_5.ext E143
              have Fj1406_143 := V67.ext E143
              have Z143 : n0 ≤ h143.size := Nat.le_trans Zj140 E143.1
              have sz143 : h0.size ≤ b143 := Nat.le_trans Kj140.1 (Nat.le_of_eq g143.symm)
              have Kp143 := Kj140.ext E143
              have V143 : own_L Z h143 b143 .int ((own_il (List.replicate (ni) 0))) := (own_newc him (own_L.new A143))
              refine own_st (fun zw zk => st143 zw zk) ?_
              refine own_st (fun zw zk => XS.astoreN X143.here hx rfl (hb hby d8_73) rfl rfl rfl zk) ?_
              show own_Go p e below G (T143.setTop (mkF m 74 #[.val (.ref d), .val (.int ((2 : Int32) * va)), .val (.ref b135), .val (.ref b143), .unset, .unset, .unset, .unset] []))
              refine own_st (fun zw zk => XS.aloadN X143.here hx rfl (hb hby d8_74) rfl rfl zk) ?_
              refine own_st (fun zw zk => XS.iloadN X143.here hx rfl (hb hby d8_75) rfl zk) ?_
              obtain ⟨_, _, ⟨T144, L144, k144, n144⟩, -, X144, ⟨Lc144, hQ144, l144, y144, z144⟩, st144⟩ := Jvm.LawKit.callS X143 hx (y := (⟨"java/util/Arrays", "copyOf", "([II)[I"⟩ : MethodName)) hown (mvT hZ (hw _ (List.mem_of_getElem? (i := 47) rfl))) (mvT hZ (hw _ (List.mem_of_getElem? (i := 48) rfl))) (mvT hZ (hw _ (List.mem_of_getElem? (i := 49) rfl))) (mvT hZ (hw _ (List.mem_of_getElem? (i := 50) rfl))) (by decide) (backOf (W := 0) (rm9 l Z a0 hw [] b135 ((2 : Int32) * va) s2 nn h143 n0 Z143 (Fj1406_143) (hlit) (hnb) (hsl2)) hZ (hw _ (List.mem_of_getElem? (i := 50) rfl)) (hw _ (List.mem_of_getElem? (i := 49) rfl)) (by decide) (by decide)) (g := (mkF m 76 #[.val (.ref d), .val (.int ((2 : Int32) * va)), .val (.ref b135), .val (.ref b143), .unset, .unset, .unset, .unset] [(.int ((2 : Int32) * va)), (.ref b135)])) rfl (by rw [hml]; rfl) (argsL := [(.ref b135), (.int ((2 : Int32) * va))]) (rest := []) (lenOf pd_6 rfl) rfl (by show 2 * 0 + _ ≤ _; exact Nat.le_of_eq rfl) (hb hby d8_76) (fun _ _ => ⟨rfl, e143, (by decide : 2 + 1 ≤ _), (by decide : 32 + 16 ≤ _)⟩)
              dsimp only [Pt.U, Pt.locs, Pt.cells, Pt.slots] at X144 l144 y144 z144 st144 hQ144
              subst l144 y144 z144
              obtain ⟨b144, rfl, N144q, sz144, K144, R144_0⟩ := hQ144
              have ne_d_b144 : d ≠ b144 := Nat.ne_of_lt (Nat.lt_of_lt_of_le Fj1400_143.lt sz144)
              have ne_afr_b144 : afr ≠ b144 := Nat.ne_of_lt (Nat.lt_of_lt_of_le Fj1404_143.lt sz144)
              have ne_ato_b144 : ato ≠ b144 := Nat.ne_of_lt (Nat.lt_of_lt_of_le Fj1405_143.lt sz144)
              have ne_b135_b144 : b135 ≠ b144 := Nat.ne_of_lt (Nat.lt_of_lt_of_le Fj1406_143.lt sz144)
              have ne_b143_b144 : b143 ≠ b144 := Nat.ne_of_lt (Nat.lt_of_lt_of_le V143.lt sz144)
              have G144 : n0 ≤ b144 := Nat.le_trans Z143 sz144
              have Sz144 : h0.size ≤ b144 := Nat.le_trans Kp143.1 sz144
              have Fj1400_144 := Fj1400_143.keep K144 nin0
              have Fj1401_144 := Fj1401_143.keep K144 nin0
              have Fj1402_144 := Fj1402_143.keep K144 nin0
              have Fj1403_144 := Fj1403_143.keep K144 nin0
              have Fj1404_144 := Fj1404_143.keep K144 nin0
              have Fj1405_144 := Fj1405_143.keep K144 nin0
              have Fj1406_144 := Fj1406_143.keep K144 nin0
              have Vb143_144 := V143.keep K144 nin0
              have Z144 : n0 ≤ T144.heap.size := Nat.le_trans Z143 K144.1
              have Kp144 := Kp143.trans K144 all0
              have N144 := Fr.app Nj140 N144q
              refine own_st (fun zw zk => st144 zw zk) ?_
              refine own_st (fun zw zk => XS.astore X144.here hx rfl (hb hby d8_79) rfl rfl rfl zk) ?_
              show own_Go p e below G (T144.setTop (mkF m 81 #[.val (.ref d), .val (.int ((2 : Int32) * va)), .val (.ref b135), .val (.ref b143), .val (.ref b144), .unset, .unset, .unset] []))
              refine own_st (fun zw zk => XS.iconst X144.here hx rfl (hb hby d8_81) zk) ?_
              refine own_st (fun zw zk => XS.istore X144.here hx rfl (hb hby d8_82) rfl rfl zk) ?_
              have loop84_145 : ∀ (bk : Nat) (i3 : Int32) (kf : Nat) (nx : List Int32) (fx : List Int32) (hj145 : Heap) (Zj145 : n0 ≤ hj145.size) (Kj145 : Keep h0 hj145 []) (Fj145_0 : Fld Z hj145 d "com/example/passau/passau/insertion/TwoSat" "from" "[I" (.ref afr)) (Fj145_1 : Fld Z hj145 d "com/example/passau/passau/insertion/TwoSat" "to" "[I" (.ref ato)) (Fj145_2 : Fld Z hj145 d "com/example/passau/passau/insertion/TwoSat" "variables" "I" (.int va)) (Fj145_3 : Fld Z hj145 d "com/example/passau/passau/insertion/TwoSat" "implications" "I" (.int im)) (Fj145_4 : own_L Z hj145 afr .int ((own_il lf))) (Fj145_5 : own_L Z hj145 ato .int ((own_il lt))) (Fj145_6 : own_L Z hj145 b135 .int ((own_il s2))) (Fj145_7 : own_L Z hj145 b143 .int ((own_il nx))) (Fj145_8 : own_L Z hj145 b144 .int ((own_il fx))) (Tj145 : State) (Lj145 : List Loc) (Xj145 : Stand p l e ({ frames := 4, cells := 12, slots := 189, locals := 60 } : Room) s m #[(.ref d)] below meth c Tj145 Lj145 3 48) (ej145 : Tj145.heap = hj145) (Nj145 : Fr n0 Lj145) (hI : own_l3 lf lt im kf i3 nx fx = some nF) (hbk : kf < bk), own_Go p e below G (Tj145.setTop (mkF m 84 #[.val (.ref d), .val (.int ((2 : Int32) * va)), .val (.ref b135), .val (.ref b143), .val (.ref b144), .val (.int i3), .unset, .unset] [])) := by
                intro bk
                induction bk with
                | zero =>
                  intro i3 kf nx fx hj145 Zj145 Kj145 Fj145_0 Fj145_1 Fj145_2 Fj145_3 Fj145_4 Fj145_5 Fj145_6 Fj145_7 Fj145_8 Tj145 Lj145 Xj145 ej145 Nj145 hI hbk
                  exact absurd hbk (Nat.not_lt_zero _)
                | succ bk ih =>
                  intro i3 kf nx fx hj145 Zj145 Kj145 Fj145_0 Fj145_1 Fj145_2 Fj145_3 Fj145_4 Fj145_5 Fj145_6 Fj145_7 Fj145_8 Tj145 Lj145 Xj145 ej145 Nj145 hI hbk
                  show own_Go p e below G (Tj145.setTop (mkF m 84 #[.val (.ref d), .val (.int ((2 : Int32) * va)), .val (.ref b135), .val (.ref b143), .val (.ref b144), .val (.int i3), .unset, .unset] []))
                  refine own_st (fun zw zk => XS.iload Xj145.here hx rfl (hb hby d8_84) rfl zk) ?_
                  refine own_st (fun zw zk => XS.aloadN Xj145.here hx rfl (hb hby d8_86) rfl rfl zk) ?_
                  obtain ⟨T146, X146, e146, st146⟩ := getF Xj145 hx hZ hown (host := "") (Or.inl (hw _ (List.mem_of_getElem? (i := 33) rfl))) Via.refl ej145 Fj145_3 (g := (mkF m 87 #[.val (.ref d), .val (.int ((2 : Int32) * va)), .val (.ref b135), .val (.ref b143), .val (.ref b144), .val (.int i3), .unset, .unset] [(.ref d), (.int i3)])) rfl rfl (hb hby d8_87)
                  refine own_st (fun zw zk => st146 zw zk) ?_
                  by_cases hc90 : i3 < im
                  · refine own_st (fun zw zk => XS.icmpNo X146.here hx rfl (hb hby d8_90) rfl (tlt hc90).2.1 zk) ?_
                    obtain ⟨kg, f9, x9, fi9, t9, nx9, hkf, hf9, hx9, hfi9, ht9, hnx9, hJ⟩ := own_l3_inv hI hc90
                    refine own_st (fun zw zk => XS.aloadN X146.here hx rfl (hb hby d8_93) rfl rfl zk) ?_
                    refine own_st (fun zw zk => XS.aload X146.here hx rfl (hb hby d8_94) rfl rfl zk) ?_
                    refine own_st (fun zw zk => XS.aloadN X146.here hx rfl (hb hby d8_96) rfl rfl zk) ?_
                    obtain ⟨T147, X147, e147, st147⟩ := getF X146 hx hZ hown (host := "") (Or.inl (hw _ (List.mem_of_getElem? (i := 10) rfl))) Via.refl e146 Fj145_0 (g := (mkF m 97 #[.val (.ref d), .val (.int ((2 : Int32) * va)), .val (.ref b135), .val (.ref b143), .val (.ref b144), .val (.int i3), .unset, .unset] [(.ref d), (.ref b144), (.ref b143)])) rfl rfl (hb hby d8_97)
                    refine own_st (fun zw zk => st147 zw zk) ?_
                    show own_Go p e below G (T147.setTop (mkF m 100 #[.val (.ref d), .val (.int ((2 : Int32) * va)), .val (.ref b135), .val (.ref b143), .val (.ref b144), .val (.int i3), .unset, .unset] [(.ref afr), (.ref b144), (.ref b143)]))
                    refine own_st (fun zw zk => XS.iload X147.here hx rfl (hb hby d8_100) rfl zk) ?_
                    refine own_st (fun zw zk => own_ild X147 hx hZ e147 Fj145_4 (j := i3) (v := (.int f9)) (i := i3.toInt.toNat) (own_nn (own_gn hf9)) (own_nat (own_gn hf9)) (own_gv hf9) (g := (mkF m 102 #[.val (.ref d), .val (.int ((2 : Int32) * va)), .val (.ref b135), .val (.ref b143), .val (.ref b144), .val (.int i3), .unset, .unset] [(.int i3), (.ref afr), (.ref b144), (.ref b143)])) rfl rfl (hb hby d8_102) _ zk) ?_
                    refine own_st (fun zw zk => XT.dup2 X147.here hx rfl (hb hby d8_103) rfl rfl rfl zk) ?_
                    refine own_st (fun zw zk => own_ild X147 hx hZ e147 Fj145_8 (j := f9) (v := (.int x9)) (i := f9.toInt.toNat) (own_nn (own_gn hx9)) (own_nat (own_gn hx9)) (own_gv hx9) (g := (mkF m 104 #[.val (.ref d), .val (.int ((2 : Int32) * va)), .val (.ref b135), .val (.ref b143), .val (.ref b144), .val (.int i3), .unset, .unset] [(.int f9), (.ref b144), (.int f9), (.ref b144), (.ref b143)])) rfl rfl (hb hby d8_104) _ zk) ?_
                    show own_Go p e below G (T147.setTop (mkF m 105 #[.val (.ref d), .val (.int ((2 : Int32) * va)), .val (.ref b135), .val (.ref b143), .val (.ref b144), .val (.int i3), .unset, .unset] [(.int x9), (.int f9), (.ref b144), (.ref b143)]))
                    refine own_st (u := T147.setTop (mkF m 106 #[.val (.ref d), .val (.int ((2 : Int32) * va)), .val (.ref b135), .val (.ref b143), .val (.ref b144), .val (.int i3), .unset, .unset] [(.int x9), (.int f9), (.ref b144), (.int x9), (.ref b143)])) (fun zw zk => by jvm_step X147.here [X147.here.top, hx, (hb hby d8_105), Value.category]; exact zk) ?_
                    refine own_st (fun zw zk => XS.iconst X147.here hx rfl (hb hby d8_106) zk) ?_
                    refine own_st (fun zw zk => XS.iadd X147.here hx rfl (hb hby d8_107) rfl zk) ?_
                    obtain ⟨T148, h148, X148, e148, W148, V148, st148⟩ := own_ist X147 hx hZ e147 Fj145_8 (j := f9) (f9.toInt.toNat) (own_nn (own_sn hfi9)) (own_nat (own_sn hfi9)) (own_sl hfi9) (g := (mkF m 108 #[.val (.ref d), .val (.int ((2 : Int32) * va)), .val (.ref b135), .val (.ref b143), .val (.ref b144), .val (.int i3), .unset, .unset] [(.int (x9 + (1 : Int32))), (.int f9), (.ref b144), (.int x9), (.ref b143)])) rfl rfl (hb hby d8_108)
                    have Fj1458_148 : own_L Z h148 b144 .int ((own_il fi9)) := (own_Lc (own_se hfi9) V148)
                    have N148 := Fr.snoc X148 Nj145 G144
                    refine own_st (fun zw zk => st148 zw zk) ?_
                    have Fj1450_148 := Fj145_0.other W148 (Or.inl ne_d_b144)
                    have Fj1451_148 := Fj145_1.other W148 (Or.inl ne_d_b144)
                    have Fj1452_148 := Fj145_2.other W148 (Or.inl ne_d_b144)
                    have Fj1453_148 := Fj145_3.other W148 (Or.inl ne_d_b144)
                    have Fj1454_148 := Fj145_4.other W148 ne_afr_b144
                    have Fj1455_148 := Fj145_5.other W148 ne_ato_b144
                    have Fj1456_148 := Fj145_6.other W148 ne_b135_b144
                    have Fj1457_148 := Fj145_7.other W148 ne_b143_b144
                    have Z148 : n0 ≤ h148.size := Nat.le_trans Zj145 (Keep.of_wr W148).1
                    have Kp148 := Kj145.wr W148 (Or.inr Sz144)
                    refine own_st (fun zw zk => XS.aloadN X148.here hx rfl (hb hby d8_109) rfl rfl zk) ?_
                    obtain ⟨T149, X149, e149, st149⟩ := getF X148 hx hZ hown (host := "") (Or.inl (hw _ (List.mem_of_getElem? (i := 12) rfl))) Via.refl e148 Fj1451_148 (g := (mkF m 110 #[.val (.ref d), .val (.int ((2 : Int32) * va)), .val (.ref b135), .val (.ref b143), .val (.ref b144), .val (.int i3), .unset, .unset] [(.ref d), (.int x9), (.ref b143)])) rfl rfl (hb hby d8_110)
                    refine own_st (fun zw zk => st149 zw zk) ?_
                    refine own_st (fun zw zk => XS.iload X149.here hx rfl (hb hby d8_113) rfl zk) ?_
                    refine own_st (fun zw zk => own_ild X149 hx hZ e149 Fj1455_148 (j := i3) (v := (.int t9)) (i := i3.toInt.toNat) (own_nn (own_gn ht9)) (own_nat (own_gn ht9)) (own_gv ht9) (g := (mkF m 115 #[.val (.ref d), .val (.int ((2 : Int32) * va)), .val (.ref b135), .val (.ref b143), .val (.ref b144), .val (.int i3), .unset, .unset] [(.int i3), (.ref ato), (.int x9), (.ref b143)])) rfl rfl (hb hby d8_115) _ zk) ?_
                    show own_Go p e below G (T149.setTop (mkF m 116 #[.val (.ref d), .val (.int ((2 : Int32) * va)), .val (.ref b135), .val (.ref b143), .val (.ref b144), .val (.int i3), .unset, .unset] [(.int t9), (.int x9), (.ref b143)]))
                    obtain ⟨T150, h150, X150, e150, W150, V150, st150⟩ := own_ist X149 hx hZ e149 Fj1457_148 (j := x9) (x9.toInt.toNat) (own_nn (own_sn hnx9)) (own_nat (own_sn hnx9)) (own_sl hnx9) (g := (mkF m 116 #[.val (.ref d), .val (.int ((2 : Int32) * va)), .val (.ref b135), .val (.ref b143), .val (.ref b144), .val (.int i3), .unset, .unset] [(.int t9), (.int x9), (.ref b143)])) rfl rfl (hb hby d8_116)
                    have Fj1457_150 : own_L Z h150 b143 .int ((own_il nx9)) := (own_Lc (own_se hnx9) V150)
                    have N150 := Fr.snoc X150 N148 G143
                    refine own_st (fun zw zk => st150 zw zk) ?_
                    have Fj1450_150 := Fj1450_148.other W150 (Or.inl ne_d_b143)
                    have Fj1451_150 := Fj1451_148.other W150 (Or.inl ne_d_b143)
                    have Fj1452_150 := Fj1452_148.other W150 (Or.inl ne_d_b143)
                    have Fj1453_150 := Fj1453_148.other W150 (Or.inl ne_d_b143)
                    have Fj1454_150 := Fj1454_148.other W150 ne_afr_b143
                    have Fj1455_150 := Fj1455_148.other W150 ne_ato_b143
                    have Fj1456_150 := Fj1456_148.other W150 ne_b135_b143
                    have Fj1458_150 := Fj1458_148.other W150 (Ne.symm ne_b143_b144)
                    have Z150 : n0 ≤ h150.size := Nat.le_trans Z148 (Keep.of_wr W150).1
                    have Kp150 := Kp148.wr W150 (Or.inr sz143)
                    refine own_st (fun zw zk => XS.iinc X150.here hx rfl (hb hby d8_117) rfl rfl zk) ?_
                    show own_Go p e below G (T150.setTop (mkF m 120 #[.val (.ref d), .val (.int ((2 : Int32) * va)), .val (.ref b135), .val (.ref b143), .val (.ref b144), .val (.int (i3 + (1 : Int32))), .unset, .unset] []))
                    refine own_st (fun zw zk => XS.goto X150.here hx rfl (pc0 := 120) (pc' := 84) rfl (hb hby d8_120) (by decide) (by decide) zk) ?_
                    show own_Go p e below G (T150.setTop (mkF m 84 #[.val (.ref d), .val (.int ((2 : Int32) * va)), .val (.ref b135), .val (.ref b143), .val (.ref b144), .val (.int (i3 + (1 : Int32))), .unset, .unset] []))
                    exact ih (i3 + (1 : Int32)) (kg) (nx9) (fi9) _ Z150 Kp150 Fj1450_150 Fj1451_150 Fj1452_150 Fj1453_150 Fj1454_150 Fj1455_150 Fj1456_150 Fj1457_150 Fj1458_150 _ _ X150 e150 N150 (hJ) (by omega)
                  · refine own_st (fun zw zk => XS.icmpYes X146.here hx rfl (pc0 := 90) (pc' := 123) rfl (hb hby d8_90) rfl (flt hc90).2.1 (by decide) (by decide) zk) ?_
                    have V123 := own_Lc (congrArg own_il (own_l3_end hI hc90)) Fj145_7
                    refine own_st (fun zw zk => XS.aloadN X146.here hx rfl (hb hby d8_123) rfl rfl zk) ?_
                    refine own_st (fun zw zk => XS.aloadN X146.here hx rfl (hb hby d8_124) rfl rfl zk) ?_
                    refine own_st (fun zw zk => XS.iloadN X146.here hx rfl (hb hby d8_125) rfl zk) ?_
                    obtain ⟨_, _, ⟨T151, L151, k151, n151⟩, -, X151, ⟨Lc151, hQ151, l151, y151, z151⟩, st151⟩ := Jvm.LawKit.callS X146 hx (y := (⟨"com/example/passau/passau/insertion/TwoSat$Components", "of", "([I[II)[I"⟩ : MethodName)) hown (mvT hZ (hw _ (List.mem_of_getElem? (i := 59) rfl))) (mvT hZ (hw _ (List.mem_of_getElem? (i := 60) rfl))) (mvT hZ (hw _ (List.mem_of_getElem? (i := 61) rfl))) (mvT hZ (hw _ (List.mem_of_getElem? (i := 62) rfl))) (by decide) (backOf (W := 0) (rm11 l Z a0 hw [] b135 b143 ((2 : Int32) * va) s2 nF nn cs hj145 n0 Zj145 (Fj145_6) (V123) (hlit) (hnb) (hcs)) hZ (hw _ (List.mem_of_getElem? (i := 62) rfl)) (hw _ (List.mem_of_getElem? (i := 61) rfl)) (by decide) (by decide)) (g := (mkF m 126 #[.val (.ref d), .val (.int ((2 : Int32) * va)), .val (.ref b135), .val (.ref b143), .val (.ref b144), .val (.int i3), .unset, .unset] [(.int ((2 : Int32) * va)), (.ref b143), (.ref b135)])) rfl (by rw [hml]; rfl) (argsL := [(.ref b135), (.ref b143), (.int ((2 : Int32) * va))]) (rest := []) (lenOf pd_7 rfl) rfl (by show 2 * 0 + _ ≤ _; exact Nat.le_of_eq rfl) (hb hby d8_126) (fun _ _ => ⟨rfl, e146, (by decide : 3 + 8 ≤ _), (by decide : 48 + 125 ≤ _)⟩)
                    dsimp only [Pt.U, Pt.locs, Pt.cells, Pt.slots] at X151 l151 y151 z151 st151 hQ151
                    subst l151 y151 z151
                    obtain ⟨b151, rfl, N151q, sz151, K151, R151_0⟩ := hQ151
                    have ne_d_b151 : d ≠ b151 := Nat.ne_of_lt (Nat.lt_of_lt_of_le Fj145_0.lt sz151)
                    have ne_afr_b151 : afr ≠ b151 := Nat.ne_of_lt (Nat.lt_of_lt_of_le Fj145_4.lt sz151)
                    have ne_ato_b151 : ato ≠ b151 := Nat.ne_of_lt (Nat.lt_of_lt_of_le Fj145_5.lt sz151)
                    have ne_b135_b151 : b135 ≠ b151 := Nat.ne_of_lt (Nat.lt_of_lt_of_le Fj145_6.lt sz151)
                    have ne_b143_b151 : b143 ≠ b151 := Nat.ne_of_lt (Nat.lt_of_lt_of_le V123.lt sz151)
                    have ne_b144_b151 : b144 ≠ b151 := Nat.ne_of_lt (Nat.lt_of_lt_of_le Fj145_8.lt sz151)
                    have G151 : n0 ≤ b151 := Nat.le_trans Zj145 sz151
                    have Sz151 : h0.size ≤ b151 := Nat.le_trans Kj145.1 sz151
                    have Fj1450_151 := Fj145_0.keep K151 nin0
                    have Fj1451_151 := Fj145_1.keep K151 nin0
                    have Fj1452_151 := Fj145_2.keep K151 nin0
                    have Fj1453_151 := Fj145_3.keep K151 nin0
                    have Fj1454_151 := Fj145_4.keep K151 nin0
                    have Fj1455_151 := Fj145_5.keep K151 nin0
                    have Fj1456_151 := Fj145_6.keep K151 nin0
                    have Fj1457_151 := V123.keep K151 nin0
                    have Fj1458_151 := Fj145_8.keep K151 nin0
                    have Z151 : n0 ≤ T151.heap.size := Nat.le_trans Zj145 K151.1
                    have Kp151 := Kj145.trans K151 all0
                    have N151 := Fr.app Nj145 N151q
                    refine own_st (fun zw zk => st151 zw zk) ?_
                    show own_Go p e below G (T151.setTop (mkF m 129 #[.val (.ref d), .val (.int ((2 : Int32) * va)), .val (.ref b135), .val (.ref b143), .val (.ref b144), .val (.int i3), .unset, .unset] [(.ref b151)]))
                    refine own_st (fun zw zk => XS.astore X151.here hx rfl (hb hby d8_129) rfl rfl rfl zk) ?_
                    show own_Go p e below G (T151.setTop (mkF m 131 #[.val (.ref d), .val (.int ((2 : Int32) * va)), .val (.ref b135), .val (.ref b143), .val (.ref b144), .val (.ref b151), .unset, .unset] []))
                    refine own_st (fun zw zk => XS.aloadN X151.here hx rfl (hb hby d8_131) rfl rfl zk) ?_
                    obtain ⟨T152, X152, e152, st152⟩ := getF X151 hx hZ hown (host := "") (Or.inl (hw _ (List.mem_of_getElem? (i := 14) rfl))) Via.refl rfl Fj1452_151 (g := (mkF m 132 #[.val (.ref d), .val (.int ((2 : Int32) * va)), .val (.ref b135), .val (.ref b143), .val (.ref b144), .val (.ref b151), .unset, .unset] [(.ref d)])) rfl rfl (hb hby d8_132)
                    refine own_st (fun zw zk => st152 zw zk) ?_
                    obtain ⟨T153, h153, k153, X153, e153, E153, A153, st153⟩ := newP X152 hx hZ (hw _ (List.mem_of_getElem? (i := 81) rfl)) e152 (g := (mkF m 135 #[.val (.ref d), .val (.int ((2 : Int32) * va)), .val (.ref b135), .val (.ref b143), .val (.ref b144), .val (.ref b151), .unset, .unset] [(.int va)])) rfl (hb hby d8_135) rfl (own_nn hva) (cap := 16) (by rw [own_nat hva]; omega) (by decide) (by decide) (by decide)
                    obtain ⟨b153, g153⟩ : ∃ z, z = T151.heap.size := ⟨_, rfl⟩
                    rw [← g153] at A153 st153
                    have G153 : n0 ≤ b153 := Nat.le_trans Z151 (Nat.le_of_eq g153.symm)
                    have ne_d_b153 : d ≠ b153 := Nat.ne_of_lt (Nat.lt_of_lt_of_le Fj1450_151.lt (Nat.le_of_eq g153.symm))
                    have ne_afr_b153 : afr ≠ b153 := Nat.ne_of_lt (Nat.lt_of_lt_of_le Fj1454_151.lt (Nat.le_of_eq g153.symm))
                    have ne_ato_b153 : ato ≠ b153 := Nat.ne_of_lt (Nat.lt_of_lt_of_le Fj1455_151.lt (Nat.le_of_eq g153.symm))
                    have ne_b135_b153 : b135 ≠ b153 := Nat.ne_of_lt (Nat.lt_of_lt_of_le Fj1456_151.lt (Nat.le_of_eq g153.symm))
                    have ne_b143_b153 : b143 ≠ b153 := Nat.ne_of_lt (Nat.lt_of_lt_of_le Fj1457_151.lt (Nat.le_of_eq g153.symm))
                    have ne_b144_b153 : b144 ≠ b153 := Nat.ne_of_lt (Nat.lt_of_lt_of_le Fj1458_151.lt (Nat.le_of_eq g153.symm))
                    have ne_b151_b153 : b151 ≠ b153 := Nat.ne_of_lt (Nat.lt_of_lt_of_le R151_0.lt (Nat.le_of_eq g153.symm))
                    have Fj1450_153 := Fj1450_151.ext E153
                    have Fj1451_153 := Fj1451_151.ext E153
                    have Fj1452_153 := Fj1452_151.ext E153
                    have Fj1453_153 := Fj1453_151.ext E153
                    have Fj1454_153 := Fj1454_151.ext E153
                    have Fj1455_153 := Fj1455_151.ext E153
                    have Fj1456_153 := Fj1456_151.ext E153
                    have Fj1457_153 := Fj1457_151.ext E153
                    have Fj1458_153 := Fj1458_151.ext E153
                    have Rb151b151L_153 := R151_0.ext E153
                    have Z153 : n0 ≤ h153.size := Nat.le_trans Z151 E153.1
                    have sz153 : h0.size ≤ b153 := Nat.le_trans Kp151.1 (Nat.le_of_eq g153.symm)
                    have Kp153 := Kp151.ext E153
                    have V153 : own_L Z h153 b153 .boolean ((own_il (List.replicate (nv) 0))) := (own_newc hva (own_L.new A153))
                    refine own_st (fun zw zk => st153 zw zk) ?_
                    refine own_st (fun zw zk => XS.astore X153.here hx rfl (hb hby d8_137) rfl rfl rfl zk) ?_
                    show own_Go p e below G (T153.setTop (mkF m 139 #[.val (.ref d), .val (.int ((2 : Int32) * va)), .val (.ref b135), .val (.ref b143), .val (.ref b144), .val (.ref b151), .val (.ref b153), .unset] []))
                    refine own_st (fun zw zk => XS.iconst X153.here hx rfl (hb hby d8_139) zk) ?_
                    refine own_st (fun zw zk => XS.istore X153.here hx rfl (hb hby d8_140) rfl rfl zk) ?_
                    have loop142_154 : ∀ (bk : Nat) (ii : Int32) (kf : Nat) (rx : List Int32) (hj154 : Heap) (Zj154 : n0 ≤ hj154.size) (Kj154 : Keep h0 hj154 []) (Fj154_0 : Fld Z hj154 d "com/example/passau/passau/insertion/TwoSat" "from" "[I" (.ref afr)) (Fj154_1 : Fld Z hj154 d "com/example/passau/passau/insertion/TwoSat" "to" "[I" (.ref ato)) (Fj154_2 : Fld Z hj154 d "com/example/passau/passau/insertion/TwoSat" "variables" "I" (.int va)) (Fj154_3 : Fld Z hj154 d "com/example/passau/passau/insertion/TwoSat" "implications" "I" (.int im)) (Fj154_4 : own_L Z hj154 b151 .int ((own_il cs))) (Fj154_5 : own_L Z hj154 b153 .boolean ((own_il rx))) (Tj154 : State) (Lj154 : List Loc) (Xj154 : Stand p l e ({ frames := 4, cells := 12, slots := 189, locals := 60 } : Room) s m #[(.ref d)] below meth c Tj154 Lj154 12 189) (ej154 : Tj154.heap = hj154) (Nj154 : Fr n0 Lj154) (hI : own_l4 cs va kf ii rx = some res) (hbk : kf < bk), own_Go p e below G (Tj154.setTop (mkF m 142 #[.val (.ref d), .val (.int ((2 : Int32) * va)), .val (.ref b135), .val (.ref b143), .val (.ref b144), .val (.ref b151), .val (.ref b153), .val (.int ii)] [])) := by
                      intro bk
                      induction bk with
                      | zero =>
                        intro ii kf rx hj154 Zj154 Kj154 Fj154_0 Fj154_1 Fj154_2 Fj154_3 Fj154_4 Fj154_5 Tj154 Lj154 Xj154 ej154 Nj154 hI hbk
                        exact absurd hbk (Nat.not_lt_zero _)
                      | succ bk ih =>
                        intro ii kf rx hj154 Zj154 Kj154 Fj154_0 Fj154_1 Fj154_2 Fj154_3 Fj154_4 Fj154_5 Tj154 Lj154 Xj154 ej154 Nj154 hI hbk
                        show own_Go p e below G (Tj154.setTop (mkF m 142 #[.val (.ref d), .val (.int ((2 : Int32) * va)), .val (.ref b135), .val (.ref b143), .val (.ref b144), .val (.ref b151), .val (.ref b153), .val (.int ii)] []))
                        refine own_st (fun zw zk => XS.iload Xj154.here hx rfl (hb hby d8_142) rfl zk) ?_
                        refine own_st (fun zw zk => XS.aloadN Xj154.here hx rfl (hb hby d8_144) rfl rfl zk) ?_
                        obtain ⟨T155, X155, e155, st155⟩ := getF Xj154 hx hZ hown (host := "") (Or.inl (hw _ (List.mem_of_getElem? (i := 14) rfl))) Via.refl ej154 Fj154_2 (g := (mkF m 145 #[.val (.ref d), .val (.int ((2 : Int32) * va)), .val (.ref b135), .val (.ref b143), .val (.ref b144), .val (.ref b151), .val (.ref b153), .val (.int ii)] [(.ref d), (.int ii)])) rfl rfl (hb hby d8_145)
                        refine own_st (fun zw zk => st155 zw zk) ?_
                        by_cases hc148 : ii < va
                        · refine own_st (fun zw zk => XS.icmpNo X155.here hx rfl (hb hby d8_148) rfl (tlt hc148).2.1 zk) ?_
                          obtain ⟨kg, x9, y9, r9, hkf, hx9, hy9, hxy, hr9, hJ⟩ := own_l4_inv hI hc148
                          refine own_st (fun zw zk => XS.aload X155.here hx rfl (hb hby d8_151) rfl rfl zk) ?_
                          refine own_st (fun zw zk => XS.iconst X155.here hx rfl (hb hby d8_153) zk) ?_
                          refine own_st (fun zw zk => XS.iload X155.here hx rfl (hb hby d8_154) rfl zk) ?_
                          refine own_st (fun zw zk => XS.imul X155.here hx rfl (hb hby d8_156) rfl zk) ?_
                          show own_Go p e below G (T155.setTop (mkF m 157 #[.val (.ref d), .val (.int ((2 : Int32) * va)), .val (.ref b135), .val (.ref b143), .val (.ref b144), .val (.ref b151), .val (.ref b153), .val (.int ii)] [(.int ((2 : Int32) * ii)), (.ref b151)]))
                          refine own_st (fun zw zk => own_ild X155 hx hZ e155 Fj154_4 (j := ((2 : Int32) * ii)) (v := (.int x9)) (i := ((2 : Int32) * ii).toInt.toNat) (own_nn (own_gn hx9)) (own_nat (own_gn hx9)) (own_gv hx9) (g := (mkF m 157 #[.val (.ref d), .val (.int ((2 : Int32) * va)), .val (.ref b135), .val (.ref b143), .val (.ref b144), .val (.ref b151), .val (.ref b153), .val (.int ii)] [(.int ((2 : Int32) * ii)), (.ref b151)])) rfl rfl (hb hby d8_157) _ zk) ?_
                          refine own_st (fun zw zk => XS.aload X155.here hx rfl (hb hby d8_158) rfl rfl zk) ?_
                          refine own_st (fun zw zk => XS.iconst X155.here hx rfl (hb hby d8_160) zk) ?_
                          refine own_st (fun zw zk => XS.iload X155.here hx rfl (hb hby d8_161) rfl zk) ?_
                          refine own_st (fun zw zk => XS.imul X155.here hx rfl (hb hby d8_163) rfl zk) ?_
                          refine own_st (fun zw zk => XS.iconst X155.here hx rfl (hb hby d8_164) zk) ?_
                          refine own_st (fun zw zk => XS.iadd X155.here hx rfl (hb hby d8_165) rfl zk) ?_
                          refine own_st (fun zw zk => own_ild X155 hx hZ e155 Fj154_4 (j := (((2 : Int32) * ii) + (1 : Int32))) (v := (.int y9)) (i := (((2 : Int32) * ii) + (1 : Int32)).toInt.toNat) (own_nn (own_gn hy9)) (own_nat (own_gn hy9)) (own_gv hy9) (g := (mkF m 166 #[.val (.ref d), .val (.int ((2 : Int32) * va)), .val (.ref b135), .val (.ref b143), .val (.ref b144), .val (.ref b151), .val (.ref b153), .val (.int ii)] [(.int (((2 : Int32) * ii) + (1 : Int32))), (.ref b151), (.int x9)])) rfl rfl (hb hby d8_166) _ zk) ?_
                          show own_Go p e below G (T155.setTop (mkF m 167 #[.val (.ref d), .val (.int ((2 : Int32) * va)), .val (.ref b135), .val (.ref b143), .val (.ref b144), .val (.ref b151), .val (.ref b153), .val (.int ii)] [(.int y9), (.int x9)]))
                          have hc167 : ¬ (x9 = y9) := hxy
                          refine own_st (fun zw zk => XS.icmpYes X155.here hx rfl (pc0 := 167) (pc' := 172) rfl (hb hby d8_167) rfl (feq hc167).2 (by decide) (by decide) zk) ?_
                          refine own_st (fun zw zk => XS.aload X155.here hx rfl (hb hby d8_172) rfl rfl zk) ?_
                          refine own_st (fun zw zk => XS.iload X155.here hx rfl (hb hby d8_174) rfl zk) ?_
                          refine own_st (fun zw zk => XS.aload X155.here hx rfl (hb hby d8_176) rfl rfl zk) ?_
                          refine own_st (fun zw zk => XS.iconst X155.here hx rfl (hb hby d8_178) zk) ?_
                          refine own_st (fun zw zk => XS.iload X155.here hx rfl (hb hby d8_179) rfl zk) ?_
                          refine own_st (fun zw zk => XS.imul X155.here hx rfl (hb hby d8_181) rfl zk) ?_
                          refine own_st (fun zw zk => own_ild X155 hx hZ e155 Fj154_4 (j := ((2 : Int32) * ii)) (v := (.int x9)) (i := ((2 : Int32) * ii).toInt.toNat) (own_nn (own_gn hx9)) (own_nat (own_gn hx9)) (own_gv hx9) (g := (mkF m 182 #[.val (.ref d), .val (.int ((2 : Int32) * va)), .val (.ref b135), .val (.ref b143), .val (.ref b144), .val (.ref b151), .val (.ref b153), .val (.int ii)] [(.int ((2 : Int32) * ii)), (.ref b151), (.int ii), (.ref b153)])) rfl rfl (hb hby d8_182) _ zk) ?_
                          show own_Go p e below G (T155.setTop (mkF m 183 #[.val (.ref d), .val (.int ((2 : Int32) * va)), .val (.ref b135), .val (.ref b143), .val (.ref b144), .val (.ref b151), .val (.ref b153), .val (.int ii)] [(.int x9), (.int ii), (.ref b153)]))
                          refine own_st (fun zw zk => XS.aload X155.here hx rfl (hb hby d8_183) rfl rfl zk) ?_
                          refine own_st (fun zw zk => XS.iconst X155.here hx rfl (hb hby d8_185) zk) ?_
                          refine own_st (fun zw zk => XS.iload X155.here hx rfl (hb hby d8_186) rfl zk) ?_
                          refine own_st (fun zw zk => XS.imul X155.here hx rfl (hb hby d8_188) rfl zk) ?_
                          refine own_st (fun zw zk => XS.iconst X155.here hx rfl (hb hby d8_189) zk) ?_
                          refine own_st (fun zw zk => XS.iadd X155.here hx rfl (hb hby d8_190) rfl zk) ?_
                          refine own_st (fun zw zk => own_ild X155 hx hZ e155 Fj154_4 (j := (((2 : Int32) * ii) + (1 : Int32))) (v := (.int y9)) (i := (((2 : Int32) * ii) + (1 : Int32)).toInt.toNat) (own_nn (own_gn hy9)) (own_nat (own_gn hy9)) (own_gv hy9) (g := (mkF m 191 #[.val (.ref d), .val (.int ((2 : Int32) * va)), .val (.ref b135), .val (.ref b143), .val (.ref b144), .val (.ref b151), .val (.ref b153), .val (.int ii)] [(.int (((2 : Int32) * ii) + (1 : Int32))), (.ref b151), (.int x9), (.int ii), (.ref b153)])) rfl rfl (hb hby d8_191) _ zk) ?_
                          by_cases hc192 : x9 < y9
                          · refine own_st (fun zw zk => XS.icmpNo X155.here hx rfl (hb hby d8_192) rfl (tlt hc192).2.1 zk) ?_
                            show own_Go p e below G (T155.setTop (mkF m 195 #[.val (.ref d), .val (.int ((2 : Int32) * va)), .val (.ref b135), .val (.ref b143), .val (.ref b144), .val (.ref b151), .val (.ref b153), .val (.int ii)] [(.int ii), (.ref b153)]))
                            refine own_st (fun zw zk => XS.iconst X155.here hx rfl (hb hby d8_195) zk) ?_
                            refine own_st (fun zw zk => XS.goto X155.here hx rfl (pc0 := 196) (pc' := 200) rfl (hb hby d8_196) (by decide) (by decide) zk) ?_
                            show own_Go p e below G (T155.setTop (mkF m 200 #[.val (.ref d), .val (.int ((2 : Int32) * va)), .val (.ref b135), .val (.ref b143), .val (.ref b144), .val (.ref b151), .val (.ref b153), .val (.int ii)] [(.int (1 : Int32)), (.int ii), (.ref b153)]))
                            obtain ⟨T156, h156, X156, e156, W156, V156, st156⟩ := own_zst X155 hx hZ e155 Fj154_5 (j := ii) (ii.toInt.toNat) (own_nn (own_sn (own_ifp hr9 hc192))) (own_nat (own_sn (own_ifp hr9 hc192))) (own_sl (own_ifp hr9 hc192)) (g := (mkF m 200 #[.val (.ref d), .val (.int ((2 : Int32) * va)), .val (.ref b135), .val (.ref b143), .val (.ref b144), .val (.ref b151), .val (.ref b153), .val (.int ii)] [(.int (1 : Int32)), (.int ii), (.ref b153)])) rfl rfl (hb hby d8_200)
                            have Fj1545_156 : own_L Z h156 b153 .boolean ((own_il r9)) := (own_Lc (own_se (own_ifp hr9 hc192)) V156)
                            have N156 := Fr.snoc X156 Nj154 G153
                            refine own_st (fun zw zk => st156 zw zk) ?_
                            have Fj1540_156 := Fj154_0.other W156 (Or.inl ne_d_b153)
                            have Fj1541_156 := Fj154_1.other W156 (Or.inl ne_d_b153)
                            have Fj1542_156 := Fj154_2.other W156 (Or.inl ne_d_b153)
                            have Fj1543_156 := Fj154_3.other W156 (Or.inl ne_d_b153)
                            have Fj1544_156 := Fj154_4.other W156 ne_b151_b153
                            have Z156 : n0 ≤ h156.size := Nat.le_trans Zj154 (Keep.of_wr W156).1
                            have Kp156 := Kj154.wr W156 (Or.inr sz153)
                            refine own_st (fun zw zk => XS.iinc X156.here hx rfl (hb hby d8_201) rfl rfl zk) ?_
                            show own_Go p e below G (T156.setTop (mkF m 204 #[.val (.ref d), .val (.int ((2 : Int32) * va)), .val (.ref b135), .val (.ref b143), .val (.ref b144), .val (.ref b151), .val (.ref b153), .val (.int (ii + (1 : Int32)))] []))
                            refine own_st (fun zw zk => XS.goto X156.here hx rfl (pc0 := 204) (pc' := 142) rfl (hb hby d8_204) (by decide) (by decide) zk) ?_
                            show own_Go p e below G (T156.setTop (mkF m 142 #[.val (.ref d), .val (.int ((2 : Int32) * va)), .val (.ref b135), .val (.ref b143), .val (.ref b144), .val (.ref b151), .val (.ref b153), .val (.int (ii + (1 : Int32)))] []))
                            exact ih (ii + (1 : Int32)) (kg) (r9) _ Z156 Kp156 Fj1540_156 Fj1541_156 Fj1542_156 Fj1543_156 Fj1544_156 Fj1545_156 _ _ X156 e156 N156 (hJ) (by omega)
                          · refine own_st (fun zw zk => XS.icmpYes X155.here hx rfl (pc0 := 192) (pc' := 199) rfl (hb hby d8_192) rfl (flt hc192).2.1 (by decide) (by decide) zk) ?_
                            show own_Go p e below G (T155.setTop (mkF m 199 #[.val (.ref d), .val (.int ((2 : Int32) * va)), .val (.ref b135), .val (.ref b143), .val (.ref b144), .val (.ref b151), .val (.ref b153), .val (.int ii)] [(.int ii), (.ref b153)]))
                            refine own_st (fun zw zk => XS.iconst X155.here hx rfl (hb hby d8_199) zk) ?_
                            obtain ⟨T157, h157, X157, e157, W157, V157, st157⟩ := own_zst X155 hx hZ e155 Fj154_5 (j := ii) (ii.toInt.toNat) (own_nn (own_sn (own_ifn hr9 hc192))) (own_nat (own_sn (own_ifn hr9 hc192))) (own_sl (own_ifn hr9 hc192)) (g := (mkF m 200 #[.val (.ref d), .val (.int ((2 : Int32) * va)), .val (.ref b135), .val (.ref b143), .val (.ref b144), .val (.ref b151), .val (.ref b153), .val (.int ii)] [(.int (0 : Int32)), (.int ii), (.ref b153)])) rfl rfl (hb hby d8_200)
                            have Fj1545_157 : own_L Z h157 b153 .boolean ((own_il r9)) := (own_Lc (own_se (own_ifn hr9 hc192)) V157)
                            have N157 := Fr.snoc X157 Nj154 G153
                            refine own_st (fun zw zk => st157 zw zk) ?_
                            have Fj1540_157 := Fj154_0.other W157 (Or.inl ne_d_b153)
                            have Fj1541_157 := Fj154_1.other W157 (Or.inl ne_d_b153)
                            have Fj1542_157 := Fj154_2.other W157 (Or.inl ne_d_b153)
                            have Fj1543_157 := Fj154_3.other W157 (Or.inl ne_d_b153)
                            have Fj1544_157 := Fj154_4.other W157 ne_b151_b153
                            have Z157 : n0 ≤ h157.size := Nat.le_trans Zj154 (Keep.of_wr W157).1
                            have Kp157 := Kj154.wr W157 (Or.inr sz153)
                            refine own_st (fun zw zk => XS.iinc X157.here hx rfl (hb hby d8_201) rfl rfl zk) ?_
                            show own_Go p e below G (T157.setTop (mkF m 204 #[.val (.ref d), .val (.int ((2 : Int32) * va)), .val (.ref b135), .val (.ref b143), .val (.ref b144), .val (.ref b151), .val (.ref b153), .val (.int (ii + (1 : Int32)))] []))
                            refine own_st (fun zw zk => XS.goto X157.here hx rfl (pc0 := 204) (pc' := 142) rfl (hb hby d8_204) (by decide) (by decide) zk) ?_
                            show own_Go p e below G (T157.setTop (mkF m 142 #[.val (.ref d), .val (.int ((2 : Int32) * va)), .val (.ref b135), .val (.ref b143), .val (.ref b144), .val (.ref b151), .val (.ref b153), .val (.int (ii + (1 : Int32)))] []))
                            exact ih (ii + (1 : Int32)) (kg) (r9) _ Z157 Kp157 Fj1540_157 Fj1541_157 Fj1542_157 Fj1543_157 Fj1544_157 Fj1545_157 _ _ X157 e157 N157 (hJ) (by omega)
                        · refine own_st (fun zw zk => XS.icmpYes X155.here hx rfl (pc0 := 148) (pc' := 207) rfl (hb hby d8_148) rfl (flt hc148).2.1 (by decide) (by decide) zk) ?_
                          have V207 := own_Lc (congrArg own_il (own_l4_end hI hc148)) Fj154_5
                          refine own_st (fun zw zk => XS.aload X155.here hx rfl (hb hby d8_207) rfl rfl zk) ?_
                          subst hG
                          obtain ⟨fs, hr, hrun, hended, hW, hsame⟩ := X155.leave (v := some (.ref b153)) (hlocks := Bd.notSynchronized) (fun h => by rw [Bd.returns] at h; cases h)
                          refine ⟨_, X155.areturnOut hx rfl Bd.returns rfl (hb hby d8_209) hr, _, hrun, hended, _, _, rfl, ?_, ⟨_, rfl⟩, hW, hsame.mono (by decide) (by decide)⟩
                          show Q8 Z d afr ato im va lf lt nn ni nv res h0 n0 _ T155.heap _
                          rw [e155]
                          exact ⟨b153, rfl, Nj154, sz153, Kj154, V207⟩
                    show own_Go p e below G (T153.setTop (mkF m 142 #[.val (.ref d), .val (.int ((2 : Int32) * va)), .val (.ref b135), .val (.ref b143), .val (.ref b144), .val (.ref b151), .val (.ref b153), .val (.int (0 : Int32))] []))
                    exact loop142_154 _ (0 : Int32) (17) ((List.replicate nv 0)) _ Z153 Kp153 Fj1450_153 Fj1451_153 Fj1452_153 Fj1453_153 Rb151b151L_153 V153 _ _ X153 e153 N151 (hs4) (Nat.lt_succ_self _)
              show own_Go p e below G (T144.setTop (mkF m 84 #[.val (.ref d), .val (.int ((2 : Int32) * va)), .val (.ref b135), .val (.ref b143), .val (.ref b144), .val (.int (0 : Int32)), .unset, .unset] []))
              exact loop84_145 _ (0 : Int32) (17) ((List.replicate ni 0)) ((s2.take nn)) _ Z144 Kp144 Fj1400_144 Fj1401_144 Fj1402_144 Fj1403_144 Fj1404_144 Fj1405_144 Fj1406_144 Vb143_144 R144_0 _ _ X144 rfl N144 (hs3) (Nat.lt_succ_self _)
        show own_Go p e below G (T137.setTop (mkF m 45 #[.val (.ref d), .val (.int ((2 : Int32) * va)), .val (.ref b135), .val (.int (0 : Int32)), .unset, .unset, .unset, .unset] []))
        exact loop45_140 _ (0 : Int32) (17) (s1) _ Zj136 Kj136 Fj136_0 Fj136_1 Fj136_2 Fj136_3 Fj136_4 Fj136_5 V43 _ _ X137 e137 Nj136 (hs2) (Nat.lt_succ_self _)
  show own_Go p e below G (T135.setTop (mkF m 15 #[.val (.ref d), .val (.int ((2 : Int32) * va)), .val (.ref b135), .val (.int (0 : Int32)), .unset, .unset, .unset, .unset] []))
  exact loop15_136 _ (0 : Int32) (17) ((List.replicate (nn + 1) 0)) _ Z135 Kp135 F0_135 F1_135 F2_135 F3_135 F4_135 F5_135 V135 _ _ X135 e135 N0 (hs1) (Nat.lt_succ_self _)
theorem own_c4 {x y : Int32} (h : x &&& (3 : Int32) = y) : y = 0 ∨ y = 1 ∨ y = 2 ∨ y = 3 := by
  have q := c_mask x 3 2 (by decide) (by decide)
  have z : (2 ^ 2 : Nat) = 4 := rfl
  rw [z, h] at q
  have e : y.toInt = 0 ∨ y.toInt = 1 ∨ y.toInt = 2 ∨ y.toInt = 3 := by omega
  rcases e with e | e | e | e
  · exact Or.inl (Int32.toInt_inj.mp e)
  · exact Or.inr (Or.inl (Int32.toInt_inj.mp e))
  · exact Or.inr (Or.inr (Or.inl (Int32.toInt_inj.mp e)))
  · exact Or.inr (Or.inr (Or.inr (Int32.toInt_inj.mp e)))
theorem pd_8 : parseMethodDescriptor "()V" = some ⟨[], none⟩ := by decide +kernel
theorem pd_9 : parseMethodDescriptor "()I" = some ⟨[], some .int⟩ := by decide +kernel
theorem pd_10 : parseMethodDescriptor "()[Z" = some ⟨[], some (.array .boolean)⟩ := by decide +kernel
theorem pn_3 : plainName "com/example/passau/passau/insertion/TwoSatVariablePinLaw" = true := by first | (simp [plainName, overriddenIn]; done) | decide +kernel
theorem ef_rm0 (m : MethodId) (p0 : Int32) : entryFrame m #[(.int p0)] maxLocals = mkF m 0 #[.val (.int p0), .unset, .unset, .unset, .unset, .unset, .unset, .unset] [] := by first | (simp [entryFrame, mkF, argsToLocals, Value.category, maxLocals]; done) | rfl
def Q0 (Z : State) (p0 : Int32) (h0 : Heap) (n0 : Nat) (rv : Option Value) (hq : Heap) (Lq : List Loc) : Prop := rv = some (.int 1) ∧ Fr n0 Lq
set_option maxRecDepth 65536 in
set_option maxHeartbeats 40000000 in
theorem rm0 (l : Launch) (Z : State) (a0 : Array Value) (hw : ∀ d ∈ tables_1, d.before a0 Z = true) (ws : List Jvm.Cond) (p0 : Int32) (h0 : Heap) (n0 : Nat) (Z0 : n0 ≤ h0.size) :
    MetFree l x (head1 (Jvm.Cond.code x code maxLocals ret :: ws) room_1) (fun za U => za = #[(.int p0)] ∧ Z.Warmed39 U.vm ∧ U.heap = h0) (fun _ _ _ _ _ => True) (fun _ U o U' => ∃ rv Lq, o = .returned rv ∧ Q0 Z p0 h0 n0 rv U'.heap Lq ∧ FrameEnd U o U' Lq room_1.cells room_1.slots) := by
  refine MetFree.of_bodySF (plainFor_of_name pn_3) hisR ?_
  intro p e s m args below meth c s₁ Bd hml0 hP hK
  obtain ⟨rfl, hZ, hh⟩ := hP
  have hx := Bd.exec
  have hby := Bd.bytes
  have hml : c.maxLocals = 8 := hml0
  have hown : s.vm.findClass "com/example/passau/passau/insertion/TwoSatVariablePinLaw" = some m.cls := findClass_of_methodNamed Bd.named
  have hnm := (name_of_methodNamed Bd.named Bd.method).1
  have X0 : Stand p l e room_1 s m #[(.int p0)] below meth c s₁ [] 0 0 := Stand.of_body Bd
  have e0 : s₁.heap = h0 := by rw [← hh, Bd.state]; rfl
  have N0 := Fr.nil n0
  refine own_out (own_nm fun G hG => own_st (fun zt zk => castTop (ef_rm0 m p0) zk) ?_)
  show own_Go p e below G (s₁.setTop (mkF m 0 #[.val (.int p0), .unset, .unset, .unset, .unset, .unset, .unset, .unset] []))
  obtain ⟨T158, h158, X158, e158, E158, A158, D158, -, st158⟩ := newO X0 hx hZ hown (hw _ (List.mem_of_getElem? (i := 0) rfl)) (hw _ (List.mem_of_getElem? (i := 1) rfl)) (hw _ (List.mem_of_getElem? (i := 2) rfl)) e0 (g := (mkF m 0 #[.val (.int p0), .unset, .unset, .unset, .unset, .unset, .unset, .unset] [])) rfl (hb hby at_0) (by decide) (by decide)
  obtain ⟨b158, g158⟩ : ∃ z, z = h0.size := ⟨_, rfl⟩
  rw [← g158] at A158 D158 st158
  have G158 : n0 ≤ b158 := Nat.le_trans Z0 (Nat.le_of_eq g158.symm)
  have Z158 : n0 ≤ h158.size := Nat.le_trans Z0 E158.1
  have Fb158from : Fld Z h158 b158 "com/example/passau/passau/insertion/TwoSat" "from" "[I" .null := D158 (Or.inl (hw _ (List.mem_of_getElem? (i := 11) rfl))) (ty := (.array .int)) (by decide)
  have Fb158to : Fld Z h158 b158 "com/example/passau/passau/insertion/TwoSat" "to" "[I" .null := D158 (Or.inl (hw _ (List.mem_of_getElem? (i := 13) rfl))) (ty := (.array .int)) (by decide)
  have Fb158variables : Fld Z h158 b158 "com/example/passau/passau/insertion/TwoSat" "variables" "I" (.int (0 : Int32)) := D158 (Or.inl (hw _ (List.mem_of_getElem? (i := 15) rfl))) (ty := .int) (by decide)
  have Fb158implications : Fld Z h158 b158 "com/example/passau/passau/insertion/TwoSat" "implications" "I" (.int (0 : Int32)) := D158 (Or.inl (hw _ (List.mem_of_getElem? (i := 34) rfl))) (ty := .int) (by decide)
  refine own_st (fun zw zk => st158 zw zk) ?_
  refine own_st (fun zw zk => XS.dup X158.here hx rfl (hb hby at_3) rfl rfl zk) ?_
  obtain ⟨_, _, ⟨T159, L159, k159, n159⟩, -, X159, ⟨Lc159, hQ159, l159, y159, z159⟩, st159⟩ := X158.specialBack hx (y := (⟨"com/example/passau/passau/insertion/TwoSat", "<init>", "()V"⟩ : MethodName)) rfl hown (mvT hZ (hw _ (List.mem_of_getElem? (i := 3) rfl))) (mvT hZ (hw _ (List.mem_of_getElem? (i := 4) rfl))) (mvT hZ (hw _ (List.mem_of_getElem? (i := 5) rfl))) (by decide) (backOf (W := 1) (rm1 l Z a0 hw [] b158 h158 n0 Z158 (A158) (Fb158from) (Fb158to) (Fb158variables) (Fb158implications) (G158)) hZ (hw _ (List.mem_of_getElem? (i := 5) rfl)) (hw _ (List.mem_of_getElem? (i := 2) rfl)) (by decide) (by decide)) (g := (mkF m 4 #[.val (.int p0), .unset, .unset, .unset, .unset, .unset, .unset, .unset] [(.ref b158), (.ref b158)])) rfl (by rw [hml]; rfl) (Steps.refl _) (a := b158) (argsL := []) (rest := [(.ref b158)]) (lenOf pd_8 rfl) rfl (by show 2 * 0 + _ ≤ _; exact Nat.le_of_eq rfl) (hb hby at_4) (fun _ _ => ⟨rfl, e158, (by decide : 1 + 2 ≤ _), (by decide : 4 + 32 ≤ _)⟩)
  dsimp only [Pt.U, Pt.locs, Pt.cells, Pt.slots] at X159 l159 y159 z159 st159 hQ159
  subst l159 y159 z159
  obtain ⟨rfl, N159q, afr159, ato159, szafr159, szato159, K159, O159_0, O159_1, O159_2, O159_3, O159_4, O159_5, P159_0⟩ := hQ159
  have ne_b158_afr159 : b158 ≠ afr159 := Nat.ne_of_lt (Nat.lt_of_lt_of_le Fb158from.lt szafr159)
  have Gafr159 : n0 ≤ afr159 := Nat.le_trans Z158 szafr159
  have ne_b158_ato159 : b158 ≠ ato159 := Nat.ne_of_lt (Nat.lt_of_lt_of_le Fb158from.lt szato159)
  have Gato159 : n0 ≤ ato159 := Nat.le_trans Z158 szato159
  have Ab158_159 := A158.keep K159
  have Z159 : n0 ≤ T159.heap.size := Nat.le_trans Z158 K159.1
  have N159 := Fr.app N0 N159q
  refine own_jp st159 ?_
  refine own_st (fun zw zk => XS.astoreN X159.here hx rfl (hb hby at_7) rfl rfl rfl zk) ?_
  show own_Go p e below G (T159.setTop (mkF m 8 #[.val (.int p0), .val (.ref b158), .unset, .unset, .unset, .unset, .unset, .unset] []))
  refine own_st (fun zw zk => XS.iloadN X159.here hx rfl (hb hby at_8) rfl zk) ?_
  refine own_st (fun zw zk => XS.iconst X159.here hx rfl (hb hby at_9) zk) ?_
  refine own_st (fun zw zk => XS.iand X159.here hx rfl (hb hby at_10) rfl zk) ?_
  refine own_st (fun zw zk => XS.istoreN X159.here hx rfl (hb hby at_11) rfl rfl zk) ?_
  show own_Go p e below G (T159.setTop (mkF m 12 #[.val (.int p0), .val (.ref b158), .val (.int (p0 &&& (3 : Int32))), .unset, .unset, .unset, .unset, .unset] []))
  generalize hcc : (p0 &&& (3 : Int32)) = cc
  rcases (own_c4 hcc) with rfl | rfl | rfl | rfl
  · refine own_st (fun zw zk => XS.iconst X159.here hx rfl (hb hby at_12) zk) ?_
    refine own_st (fun zw zk => XS.istoreN X159.here hx rfl (hb hby at_13) rfl rfl zk) ?_
    show own_Go p e below G (T159.setTop (mkF m 14 #[.val (.int p0), .val (.ref b158), .val (.int (0 : Int32)), .val (.int (1 : Int32)), .unset, .unset, .unset, .unset] []))
    refine own_st (fun zw zk => XS.iloadN X159.here hx rfl (hb hby at_14) rfl zk) ?_
    refine own_st (fun zw zk => XS.iconst X159.here hx rfl (hb hby at_15) zk) ?_
    refine own_st (fun zw zk => XS.icmpYes X159.here hx rfl (pc0 := 16) (pc' := 37) rfl (hb hby at_16) rfl (tlt (by decide : (0 : Int32) < (1 : Int32))).1 (by decide) (by decide) zk) ?_
    refine own_st (fun zw zk => XS.iloadN X159.here hx rfl (hb hby at_37) rfl zk) ?_
    refine own_st (fun zw zk => XS.iconst X159.here hx rfl (hb hby at_38) zk) ?_
    refine own_st (fun zw zk => XS.icmpYes X159.here hx rfl (pc0 := 39) (pc' := 60) rfl (hb hby at_39) rfl (tlt (by decide : (0 : Int32) < (2 : Int32))).1 (by decide) (by decide) zk) ?_
    refine own_st (fun zw zk => XS.iloadN X159.here hx rfl (hb hby at_60) rfl zk) ?_
    refine own_st (fun zw zk => XS.iconst X159.here hx rfl (hb hby at_61) zk) ?_
    show own_Go p e below G (T159.setTop (mkF m 62 #[.val (.int p0), .val (.ref b158), .val (.int (0 : Int32)), .val (.int (1 : Int32)), .unset, .unset, .unset, .unset] [(.int (3 : Int32)), (.int (0 : Int32))]))
    refine own_st (fun zw zk => XS.icmpYes X159.here hx rfl (pc0 := 62) (pc' := 84) rfl (hb hby at_62) rfl (tlt (by decide : (0 : Int32) < (3 : Int32))).1 (by decide) (by decide) zk) ?_
    refine own_st (fun zw zk => XS.aloadN X159.here hx rfl (hb hby at_84) rfl rfl zk) ?_
    obtain ⟨cq160, kq160, q160a, q160b, q160c⟩ := isOf hZ rfl Ab158_159
    obtain ⟨_, _, ⟨T160, L160, k160, n160⟩, -, X160, ⟨Lc160, hQ160, l160, y160, z160⟩, st160⟩ := X159.virtualBack hx (y := (⟨"com/example/passau/passau/insertion/TwoSat", "variable", "()I"⟩ : MethodName)) (z := (⟨"com/example/passau/passau/insertion/TwoSat", "variable", "()I"⟩ : MethodName)) hown (mvT hZ (hw _ (List.mem_of_getElem? (i := 35) rfl))) (mvT hZ (hw _ (List.mem_of_getElem? (i := 36) rfl))) (notFace_of_selects (args := #[]) (mvT hZ (hw _ (List.mem_of_getElem? (i := 38) rfl)))) (mvT hZ (hw _ (List.mem_of_getElem? (i := 38) rfl))) (mvT hZ (hw _ (List.mem_of_getElem? (i := 37) rfl))) (by decide) (backOf (W := 0) (rm7 l Z a0 hw [] b158 afr159 ato159 (2 : Int32) (1 : Int32) T159.heap n0 Z159 (Ab158_159) (O159_0) (O159_1) (O159_2) (O159_3) (G158)) hZ (hw _ (List.mem_of_getElem? (i := 39) rfl)) (hw _ (List.mem_of_getElem? (i := 2) rfl)) (by decide) (by decide)) q160a q160c (g := (mkF m 85 #[.val (.int p0), .val (.ref b158), .val (.int (0 : Int32)), .val (.int (1 : Int32)), .unset, .unset, .unset, .unset] [(.ref b158)])) rfl (by rw [hml]; rfl) (Steps.refl _) (argsL := []) (rest := []) (lenOf pd_9 rfl) rfl (by show 2 * 0 + _ ≤ _; exact Nat.le_of_eq rfl) (hb hby at_85) (fun _ _ => ⟨rfl, rfl, (by decide : 3 + 0 ≤ _), (by decide : 36 + 0 ≤ _)⟩)
    dsimp only [Pt.U, Pt.locs, Pt.cells, Pt.slots] at X160 l160 y160 z160 st160 hQ160
    subst l160 y160 z160
    obtain ⟨rfl, N160q, K160, O160_0, O160_1, O160_2, O160_3⟩ := hQ160
    have Ab158_160 := Ab158_159.keep K160
    have Oafr159L_160 := O159_4.keep K160 (ninS (Ne.symm ne_b158_afr159) nin0)
    have Oato159L_160 := O159_5.keep K160 (ninS (Ne.symm ne_b158_ato159) nin0)
    have Z160 : n0 ≤ T160.heap.size := Nat.le_trans Z159 K160.1
    have J160 : Fld Z T160.heap b158 "com/example/passau/passau/insertion/TwoSat" "variables" "I" (.int (2 : Int32)) := O160_2
    have N160 := Fr.app N159 N160q
    refine own_jp st160 ?_
    refine own_st (fun zw zk => XS.istore X160.here hx rfl (hb hby at_88) rfl rfl zk) ?_
    show own_Go p e below G (T160.setTop (mkF m 90 #[.val (.int p0), .val (.ref b158), .val (.int (0 : Int32)), .val (.int (1 : Int32)), .val (.int (2 : Int32)), .unset, .unset, .unset] []))
    refine own_st (fun zw zk => XS.iloadN X160.here hx rfl (hb hby at_90) rfl zk) ?_
    refine own_st (fun zw zk => XS.ifNo X160.here hx rfl (hb hby at_91) rfl ((if0 _ _).trans (feq (by decide : ¬ ((1 : Int32) = (0 : Int32)))).1) zk) ?_
    refine own_st (fun zw zk => XS.iload X160.here hx rfl (hb hby at_94) rfl zk) ?_
    refine own_st (fun zw zk => XS.iconst X160.here hx rfl (hb hby at_96) zk) ?_
    refine own_st (fun zw zk => XS.iloadN X160.here hx rfl (hb hby at_97) rfl zk) ?_
    refine own_st (fun zw zk => XS.iconst X160.here hx rfl (hb hby at_98) zk) ?_
    refine own_st (fun zw zk => XS.iadd X160.here hx rfl (hb hby at_99) rfl zk) ?_
    refine own_st (fun zw zk => XS.imul X160.here hx rfl (hb hby at_100) rfl zk) ?_
    show own_Go p e below G (T160.setTop (mkF m 101 #[.val (.int p0), .val (.ref b158), .val (.int (0 : Int32)), .val (.int (1 : Int32)), .val (.int (2 : Int32)), .unset, .unset, .unset] [(.int (2 : Int32)), (.int (2 : Int32))]))
    refine own_st (fun zw zk => XS.icmpNo X160.here hx rfl (hb hby at_101) rfl (teq (by decide : (2 : Int32) = (2 : Int32))).2 zk) ?_
    refine own_st (fun zw zk => XS.iconst X160.here hx rfl (hb hby at_104) zk) ?_
    refine own_st (fun zw zk => XS.goto X160.here hx rfl (pc0 := 105) (pc' := 109) rfl (hb hby at_105) (by decide) (by decide) zk) ?_
    show own_Go p e below G (T160.setTop (mkF m 109 #[.val (.int p0), .val (.ref b158), .val (.int (0 : Int32)), .val (.int (1 : Int32)), .val (.int (2 : Int32)), .unset, .unset, .unset] [(.int (1 : Int32))]))
    refine own_st (fun zw zk => XS.istoreN X160.here hx rfl (hb hby at_109) rfl rfl zk) ?_
    show own_Go p e below G (T160.setTop (mkF m 110 #[.val (.int p0), .val (.ref b158), .val (.int (0 : Int32)), .val (.int (1 : Int32)), .val (.int (2 : Int32)), .unset, .unset, .unset] []))
    refine own_st (fun zw zk => XS.iloadN X160.here hx rfl (hb hby at_110) rfl zk) ?_
    refine own_st (fun zw zk => XS.ifYes X160.here hx rfl (pc0 := 111) (pc' := 116) rfl (hb hby at_111) rfl ((if0 _ _).trans (feq (by decide : ¬ ((1 : Int32) = (0 : Int32)))).2) (by decide) (by decide) zk) ?_
    refine own_st (fun zw zk => XS.iloadN X160.here hx rfl (hb hby at_116) rfl zk) ?_
    refine own_st (fun zw zk => XS.iconst X160.here hx rfl (hb hby at_117) zk) ?_
    refine own_st (fun zw zk => XS.iand X160.here hx rfl (hb hby at_118) rfl zk) ?_
    by_cases hc119 : (p0 &&& (4 : Int32)) = (0 : Int32)
    · refine own_st (fun zw zk => XS.ifYes X160.here hx rfl (pc0 := 119) (pc' := 126) rfl (hb hby at_119) rfl ((if0 _ _).trans (teq hc119).1) (by decide) (by decide) zk) ?_
      refine own_st (fun zw zk => XS.iconst X160.here hx rfl (hb hby at_126) zk) ?_
      refine own_st (fun zw zk => XS.istore X160.here hx rfl (hb hby at_127) rfl rfl zk) ?_
      show own_Go p e below G (T160.setTop (mkF m 129 #[.val (.int p0), .val (.ref b158), .val (.int (0 : Int32)), .val (.int (1 : Int32)), .val (.int (2 : Int32)), .val (.int (0 : Int32)), .unset, .unset] []))
      refine own_st (fun zw zk => XS.iload X160.here hx rfl (hb hby at_129) rfl zk) ?_
      refine own_st (fun zw zk => XS.ifYes X160.here hx rfl (pc0 := 131) (pc' := 143) rfl (hb hby at_131) rfl ((if0 _ _).trans (teq (by decide : (0 : Int32) = (0 : Int32))).1) (by decide) (by decide) zk) ?_
      refine own_st (fun zw zk => XS.aloadN X160.here hx rfl (hb hby at_143) rfl rfl zk) ?_
      refine own_st (fun zw zk => XS.iload X160.here hx rfl (hb hby at_144) rfl zk) ?_
      obtain ⟨_, _, ⟨T161, L161, k161, n161⟩, -, X161, ⟨Lc161, hQ161, l161, y161, z161⟩, st161⟩ := Jvm.LawKit.callS X160 hx (y := (⟨"com/example/passau/passau/insertion/TwoSat", "not", "(I)I"⟩ : MethodName)) hown (mvT hZ (hw _ (List.mem_of_getElem? (i := 40) rfl))) (mvT hZ (hw _ (List.mem_of_getElem? (i := 27) rfl))) (mvT hZ (hw _ (List.mem_of_getElem? (i := 2) rfl))) (mvT hZ (hw _ (List.mem_of_getElem? (i := 28) rfl))) (by decide) (backOf (W := 1) (rm5 l Z a0 hw [] (2 : Int32) T160.heap n0 Z160) hZ (hw _ (List.mem_of_getElem? (i := 28) rfl)) (hw _ (List.mem_of_getElem? (i := 2) rfl)) (by decide) (by decide)) (g := (mkF m 146 #[.val (.int p0), .val (.ref b158), .val (.int (0 : Int32)), .val (.int (1 : Int32)), .val (.int (2 : Int32)), .val (.int (0 : Int32)), .unset, .unset] [(.int (2 : Int32)), (.ref b158)])) rfl (by rw [hml]; rfl) (argsL := [(.int (2 : Int32))]) (rest := [(.ref b158)]) (lenOf pd_4 rfl) rfl (by show 2 * 0 + _ ≤ _; exact Nat.le_of_eq rfl) (hb hby at_146) (fun _ _ => ⟨rfl, rfl, (by decide : 3 + 0 ≤ _), (by decide : 36 + 0 ≤ _)⟩)
      dsimp only [Pt.U, Pt.locs, Pt.cells, Pt.slots] at X161 l161 y161 z161 st161 hQ161
      subst l161 y161 z161
      obtain ⟨rfl, N161q, e161⟩ := hQ161
      have N161 := Fr.app N160 N161q
      refine own_st (fun zw zk => st161 zw zk) ?_
      show own_Go p e below G (T161.setTop (mkF m 149 #[.val (.int p0), .val (.ref b158), .val (.int (0 : Int32)), .val (.int (1 : Int32)), .val (.int (2 : Int32)), .val (.int (0 : Int32)), .unset, .unset] [(.int (own_not (2 : Int32))), (.ref b158)]))
      rw [show (own_not (2 : Int32)) = (3 : Int32) from by decide]
      obtain ⟨cq162, kq162, q162a, q162b, q162c⟩ := isOf hZ e161 Ab158_160
      obtain ⟨_, _, ⟨T162, L162, k162, n162⟩, -, X162, ⟨Lc162, hQ162, l162, y162, z162⟩, st162⟩ := X161.virtualBack hx (y := (⟨"com/example/passau/passau/insertion/TwoSat", "require", "(I)V"⟩ : MethodName)) (z := (⟨"com/example/passau/passau/insertion/TwoSat", "require", "(I)V"⟩ : MethodName)) hown (mvT hZ (hw _ (List.mem_of_getElem? (i := 41) rfl))) (mvT hZ (hw _ (List.mem_of_getElem? (i := 17) rfl))) (notFace_of_selects (args := #[]) (mvT hZ (hw _ (List.mem_of_getElem? (i := 19) rfl)))) (mvT hZ (hw _ (List.mem_of_getElem? (i := 19) rfl))) (mvT hZ (hw _ (List.mem_of_getElem? (i := 18) rfl))) (by decide) (backOf (W := 0) (rm3 l Z a0 hw [] b158 (3 : Int32) afr159 ato159 (2 : Int32) (2 : Int32) ([(1 : Int32), (1 : Int32), (0 : Int32), (0 : Int32), (0 : Int32), (0 : Int32), (0 : Int32), (0 : Int32), (0 : Int32), (0 : Int32), (0 : Int32), (0 : Int32), (0 : Int32), (0 : Int32), (0 : Int32), (0 : Int32)]) ([(0 : Int32), (0 : Int32), (0 : Int32), (0 : Int32), (0 : Int32), (0 : Int32), (0 : Int32), (0 : Int32), (0 : Int32), (0 : Int32), (0 : Int32), (0 : Int32), (0 : Int32), (0 : Int32), (0 : Int32), (0 : Int32)]) [(1 : Int32), (1 : Int32), (2 : Int32), (0 : Int32), (0 : Int32), (0 : Int32), (0 : Int32), (0 : Int32), (0 : Int32), (0 : Int32), (0 : Int32), (0 : Int32), (0 : Int32), (0 : Int32), (0 : Int32), (0 : Int32)] [(1 : Int32), (1 : Int32), (2 : Int32), (2 : Int32), (0 : Int32), (0 : Int32), (0 : Int32), (0 : Int32), (0 : Int32), (0 : Int32), (0 : Int32), (0 : Int32), (0 : Int32), (0 : Int32), (0 : Int32), (0 : Int32)] [(0 : Int32), (0 : Int32), (3 : Int32), (0 : Int32), (0 : Int32), (0 : Int32), (0 : Int32), (0 : Int32), (0 : Int32), (0 : Int32), (0 : Int32), (0 : Int32), (0 : Int32), (0 : Int32), (0 : Int32), (0 : Int32)] [(0 : Int32), (0 : Int32), (3 : Int32), (3 : Int32), (0 : Int32), (0 : Int32), (0 : Int32), (0 : Int32), (0 : Int32), (0 : Int32), (0 : Int32), (0 : Int32), (0 : Int32), (0 : Int32), (0 : Int32), (0 : Int32)] T160.heap n0 Z160 (Ab158_160) (O160_0) (O160_1) (J160) (O160_3) (Oafr159L_160) (Oato159L_160) (G158) (Gafr159) (Gato159) (ne_b158_afr159) (ne_b158_ato159) (P159_0) (by decide +kernel) (by decide +kernel) (by decide +kernel) (by decide +kernel) (by decide +kernel) (by decide +kernel) (by decide)) hZ (hw _ (List.mem_of_getElem? (i := 20) rfl)) (hw _ (List.mem_of_getElem? (i := 2) rfl)) (by decide) (by decide)) q162a q162c (g := (mkF m 149 #[.val (.int p0), .val (.ref b158), .val (.int (0 : Int32)), .val (.int (1 : Int32)), .val (.int (2 : Int32)), .val (.int (0 : Int32)), .unset, .unset] [(.int (3 : Int32)), (.ref b158)])) rfl (by rw [hml]; rfl) (Steps.refl _) (argsL := [(.int (3 : Int32))]) (rest := []) (lenOf pd_1 rfl) rfl (by show 2 * 0 + _ ≤ _; exact Nat.le_of_eq rfl) (hb hby at_149) (fun _ _ => ⟨rfl, e161, (by decide : 3 + 0 ≤ _), (by decide : 36 + 0 ≤ _)⟩)
      dsimp only [Pt.U, Pt.locs, Pt.cells, Pt.slots] at X162 l162 y162 z162 st162 hQ162
      subst l162 y162 z162
      obtain ⟨rfl, N162q, K162, O162_0, O162_1, O162_2, O162_3, O162_4, O162_5⟩ := hQ162
      have Ab158_162 := Ab158_160.keep K162
      have Z162 : n0 ≤ T162.heap.size := Nat.le_trans Z160 K162.1
      have J162 : Fld Z T162.heap b158 "com/example/passau/passau/insertion/TwoSat" "implications" "I" (.int (4 : Int32)) := O162_3
      have N162 := Fr.app N161 N162q
      refine own_jp st162 ?_
      refine own_st (fun zw zk => XS.aloadN X162.here hx rfl (hb hby at_152) rfl rfl zk) ?_
      obtain ⟨cq163, kq163, q163a, q163b, q163c⟩ := isOf hZ rfl Ab158_162
      obtain ⟨_, _, ⟨T163, L163, k163, n163⟩, -, X163, ⟨Lc163, hQ163, l163, y163, z163⟩, st163⟩ := X162.virtualBack hx (y := (⟨"com/example/passau/passau/insertion/TwoSat", "solve", "()[Z"⟩ : MethodName)) (z := (⟨"com/example/passau/passau/insertion/TwoSat", "solve", "()[Z"⟩ : MethodName)) hown (mvT hZ (hw _ (List.mem_of_getElem? (i := 42) rfl))) (mvT hZ (hw _ (List.mem_of_getElem? (i := 43) rfl))) (notFace_of_selects (args := #[]) (mvT hZ (hw _ (List.mem_of_getElem? (i := 45) rfl)))) (mvT hZ (hw _ (List.mem_of_getElem? (i := 45) rfl))) (mvT hZ (hw _ (List.mem_of_getElem? (i := 44) rfl))) (by decide) (backOf (W := 0) (rm8 l Z a0 hw [] b158 afr159 ato159 (4 : Int32) (2 : Int32) ([(1 : Int32), (1 : Int32), (2 : Int32), (2 : Int32), (0 : Int32), (0 : Int32), (0 : Int32), (0 : Int32), (0 : Int32), (0 : Int32), (0 : Int32), (0 : Int32), (0 : Int32), (0 : Int32), (0 : Int32), (0 : Int32)]) ([(0 : Int32), (0 : Int32), (3 : Int32), (3 : Int32), (0 : Int32), (0 : Int32), (0 : Int32), (0 : Int32), (0 : Int32), (0 : Int32), (0 : Int32), (0 : Int32), (0 : Int32), (0 : Int32), (0 : Int32), (0 : Int32)]) 4 4 2 [(1 : Int32), (0 : Int32)] T162.heap n0 Z162 (O162_0) (O162_1) (O162_2) (J162) (O162_4) (O162_5) (by decide) (by decide) (by decide) (by decide) (by decide) (by decide) (by decide +kernel)) hZ (hw _ (List.mem_of_getElem? (i := 46) rfl)) (hw _ (List.mem_of_getElem? (i := 2) rfl)) (by decide) (by decide)) q163a q163c (g := (mkF m 153 #[.val (.int p0), .val (.ref b158), .val (.int (0 : Int32)), .val (.int (1 : Int32)), .val (.int (2 : Int32)), .val (.int (0 : Int32)), .unset, .unset] [(.ref b158)])) rfl (by rw [hml]; rfl) (Steps.refl _) (argsL := []) (rest := []) (lenOf pd_10 rfl) rfl (by show 2 * 0 + _ ≤ _; exact Nat.le_of_eq rfl) (hb hby at_153) (fun _ _ => ⟨rfl, rfl, (by decide : 3 + 12 ≤ _), (by decide : 36 + 189 ≤ _)⟩)
      dsimp only [Pt.U, Pt.locs, Pt.cells, Pt.slots] at X163 l163 y163 z163 st163 hQ163
      subst l163 y163 z163
      obtain ⟨b163, rfl, N163q, sz163, K163, R163_0⟩ := hQ163
      have ne_b158_b163 : b158 ≠ b163 := Nat.ne_of_lt (Nat.lt_of_lt_of_le Ab158_162.lt sz163)
      have ne_afr159_b163 : afr159 ≠ b163 := Nat.ne_of_lt (Nat.lt_of_lt_of_le O162_4.lt sz163)
      have ne_ato159_b163 : ato159 ≠ b163 := Nat.ne_of_lt (Nat.lt_of_lt_of_le O162_5.lt sz163)
      have G163 : n0 ≤ b163 := Nat.le_trans Z162 sz163
      have Ab158_163 := Ab158_162.keep K163
      have Ob158from_163 := O162_0.keep K163 nin0
      have Ob158to_163 := O162_1.keep K163 nin0
      have Ob158variables_163 := O162_2.keep K163 nin0
      have Ob158implications_163 := J162.keep K163 nin0
      have Oafr159L_163 := O162_4.keep K163 nin0
      have Oato159L_163 := O162_5.keep K163 nin0
      have Z163 : n0 ≤ T163.heap.size := Nat.le_trans Z162 K163.1
      have N163 := Fr.app N162 N163q
      refine own_jp st163 ?_
      refine own_st (fun zw zk => XS.astore X163.here hx rfl (hb hby at_156) rfl rfl rfl zk) ?_
      show own_Go p e below G (T163.setTop (mkF m 158 #[.val (.int p0), .val (.ref b158), .val (.int (0 : Int32)), .val (.int (1 : Int32)), .val (.int (2 : Int32)), .val (.int (0 : Int32)), .val (.ref b163), .unset] []))
      refine own_st (fun zw zk => XS.aload X163.here hx rfl (hb hby at_158) rfl rfl zk) ?_
      refine own_st (fun zw zk => XS.ifnonnullYes X163.here hx rfl (pc0 := 160) (pc' := 165) rfl (hb hby at_160) rfl (by decide) (by decide) zk) ?_
      refine own_st (fun zw zk => XS.aload X163.here hx rfl (hb hby at_165) rfl rfl zk) ?_
      refine own_st (fun zw zk => own_len X163 hx hZ rfl R163_0 (z := (2 : Int32)) (rfl) (g := (mkF m 167 #[.val (.int p0), .val (.ref b158), .val (.int (0 : Int32)), .val (.int (1 : Int32)), .val (.int (2 : Int32)), .val (.int (0 : Int32)), .val (.ref b163), .unset] [(.ref b163)])) rfl rfl (hb hby at_167) _ zk) ?_
      refine own_st (fun zw zk => XS.iloadN X163.here hx rfl (hb hby at_168) rfl zk) ?_
      refine own_st (fun zw zk => XS.iconst X163.here hx rfl (hb hby at_169) zk) ?_
      refine own_st (fun zw zk => XS.iadd X163.here hx rfl (hb hby at_170) rfl zk) ?_
      refine own_st (fun zw zk => XS.icmpYes X163.here hx rfl (pc0 := 171) (pc' := 176) rfl (hb hby at_171) rfl (teq (by decide : (2 : Int32) = (2 : Int32))).1 (by decide) (by decide) zk) ?_
      show own_Go p e below G (T163.setTop (mkF m 176 #[.val (.int p0), .val (.ref b158), .val (.int (0 : Int32)), .val (.int (1 : Int32)), .val (.int (2 : Int32)), .val (.int (0 : Int32)), .val (.ref b163), .unset] []))
      refine own_st (fun zw zk => XS.iload X163.here hx rfl (hb hby at_176) rfl zk) ?_
      refine own_st (fun zw zk => XS.iconst X163.here hx rfl (hb hby at_178) zk) ?_
      refine own_st (fun zw zk => XS.ishr X163.here hx rfl (hb hby at_179) rfl zk) ?_
      refine own_st (fun zw zk => XS.istore X163.here hx rfl (hb hby at_180) rfl rfl zk) ?_
      show own_Go p e below G (T163.setTop (mkF m 182 #[.val (.int p0), .val (.ref b158), .val (.int (0 : Int32)), .val (.int (1 : Int32)), .val (.int (2 : Int32)), .val (.int (0 : Int32)), .val (.ref b163), .val (.int ((2 : Int32) >>> ((1 : Int32) &&& 31)))] []))
      rw [show ((2 : Int32) >>> ((1 : Int32) &&& 31)) = (1 : Int32) from by decide]
      refine own_st (fun zw zk => XS.iload X163.here hx rfl (hb hby at_182) rfl zk) ?_
      refine own_st (fun zw zk => XS.ifNo X163.here hx rfl (hb hby at_184) rfl ((if0 _ _).trans (flt (by decide : ¬ ((1 : Int32) < (0 : Int32)))).1) zk) ?_
      refine own_st (fun zw zk => XS.iload X163.here hx rfl (hb hby at_187) rfl zk) ?_
      refine own_st (fun zw zk => XS.aload X163.here hx rfl (hb hby at_189) rfl rfl zk) ?_
      refine own_st (fun zw zk => own_len X163 hx hZ rfl R163_0 (z := (2 : Int32)) (rfl) (g := (mkF m 191 #[.val (.int p0), .val (.ref b158), .val (.int (0 : Int32)), .val (.int (1 : Int32)), .val (.int (2 : Int32)), .val (.int (0 : Int32)), .val (.ref b163), .val (.int (1 : Int32))] [(.ref b163), (.int (1 : Int32))])) rfl rfl (hb hby at_191) _ zk) ?_
      refine own_st (fun zw zk => XS.icmpYes X163.here hx rfl (pc0 := 192) (pc' := 197) rfl (hb hby at_192) rfl (tlt (by decide : (1 : Int32) < (2 : Int32))).1 (by decide) (by decide) zk) ?_
      refine own_st (fun zw zk => XS.aload X163.here hx rfl (hb hby at_197) rfl rfl zk) ?_
      refine own_st (fun zw zk => XS.iload X163.here hx rfl (hb hby at_199) rfl zk) ?_
      show own_Go p e below G (T163.setTop (mkF m 201 #[.val (.int p0), .val (.ref b158), .val (.int (0 : Int32)), .val (.int (1 : Int32)), .val (.int (2 : Int32)), .val (.int (0 : Int32)), .val (.ref b163), .val (.int (1 : Int32))] [(.int (1 : Int32)), (.ref b163)]))
      refine own_st (fun zw zk => own_zld X163 hx hZ rfl R163_0 (j := (1 : Int32)) (v := (.int (0 : Int32))) (i := 1) (by decide) (by decide) rfl (g := (mkF m 201 #[.val (.int p0), .val (.ref b158), .val (.int (0 : Int32)), .val (.int (1 : Int32)), .val (.int (2 : Int32)), .val (.int (0 : Int32)), .val (.ref b163), .val (.int (1 : Int32))] [(.int (1 : Int32)), (.ref b163)])) rfl rfl (hb hby at_201) _ zk) ?_
      refine own_st (fun zw zk => XS.iload X163.here hx rfl (hb hby at_202) rfl zk) ?_
      refine own_st (fun zw zk => XS.icmpNo X163.here hx rfl (hb hby at_204) rfl (teq (by decide : (0 : Int32) = (0 : Int32))).2 zk) ?_
      refine own_st (fun zw zk => XS.aload X163.here hx rfl (hb hby at_207) rfl rfl zk) ?_
      refine own_st (fun zw zk => XS.iconst X163.here hx rfl (hb hby at_209) zk) ?_
      refine own_st (fun zw zk => own_zld X163 hx hZ rfl R163_0 (j := (0 : Int32)) (v := (.int (1 : Int32))) (i := 0) (by decide) (by decide) rfl (g := (mkF m 210 #[.val (.int p0), .val (.ref b158), .val (.int (0 : Int32)), .val (.int (1 : Int32)), .val (.int (2 : Int32)), .val (.int (0 : Int32)), .val (.ref b163), .val (.int (1 : Int32))] [(.int (0 : Int32)), (.ref b163)])) rfl rfl (hb hby at_210) _ zk) ?_
      refine own_st (fun zw zk => XS.ifNo X163.here hx rfl (hb hby at_211) rfl ((if0 _ _).trans (feq (by decide : ¬ ((1 : Int32) = (0 : Int32)))).1) zk) ?_
      refine own_st (fun zw zk => XS.iconst X163.here hx rfl (hb hby at_214) zk) ?_
      show own_Go p e below G (T163.setTop (mkF m 215 #[.val (.int p0), .val (.ref b158), .val (.int (0 : Int32)), .val (.int (1 : Int32)), .val (.int (2 : Int32)), .val (.int (0 : Int32)), .val (.ref b163), .val (.int (1 : Int32))] [(.int (1 : Int32))]))
      refine own_st (fun zw zk => XS.goto X163.here hx rfl (pc0 := 215) (pc' := 219) rfl (hb hby at_215) (by decide) (by decide) zk) ?_
      show own_Go p e below G (T163.setTop (mkF m 219 #[.val (.int p0), .val (.ref b158), .val (.int (0 : Int32)), .val (.int (1 : Int32)), .val (.int (2 : Int32)), .val (.int (0 : Int32)), .val (.ref b163), .val (.int (1 : Int32))] [(.int (1 : Int32))]))
      subst hG
      obtain ⟨fs, hr, hrun, hended, hW, hsame⟩ := X163.leave (v := some (.int (1 : Int32))) (hlocks := Bd.notSynchronized) (fun h => by rw [Bd.returns] at h; cases h)
      refine ⟨_, retN X163 hx (t := .boolean) Bd.returns (by simp) (hb hby at_219) hr, _, hrun, hended, _, _, rfl, ?_, ⟨_, rfl⟩, hW, hsame.mono (by decide) (by decide)⟩
      show Q0 Z p0 h0 n0 _ T163.heap _
      exact ⟨rfl, N163⟩
    · refine own_st (fun zw zk => XS.ifNo X160.here hx rfl (hb hby at_119) rfl ((if0 _ _).trans (feq hc119).1) zk) ?_
      refine own_st (fun zw zk => XS.iconst X160.here hx rfl (hb hby at_122) zk) ?_
      refine own_st (fun zw zk => XS.goto X160.here hx rfl (pc0 := 123) (pc' := 127) rfl (hb hby at_123) (by decide) (by decide) zk) ?_
      show own_Go p e below G (T160.setTop (mkF m 127 #[.val (.int p0), .val (.ref b158), .val (.int (0 : Int32)), .val (.int (1 : Int32)), .val (.int (2 : Int32)), .unset, .unset, .unset] [(.int (1 : Int32))]))
      refine own_st (fun zw zk => XS.istore X160.here hx rfl (hb hby at_127) rfl rfl zk) ?_
      show own_Go p e below G (T160.setTop (mkF m 129 #[.val (.int p0), .val (.ref b158), .val (.int (0 : Int32)), .val (.int (1 : Int32)), .val (.int (2 : Int32)), .val (.int (1 : Int32)), .unset, .unset] []))
      refine own_st (fun zw zk => XS.iload X160.here hx rfl (hb hby at_129) rfl zk) ?_
      refine own_st (fun zw zk => XS.ifNo X160.here hx rfl (hb hby at_131) rfl ((if0 _ _).trans (feq (by decide : ¬ ((1 : Int32) = (0 : Int32)))).1) zk) ?_
      refine own_st (fun zw zk => XS.aloadN X160.here hx rfl (hb hby at_134) rfl rfl zk) ?_
      refine own_st (fun zw zk => XS.iload X160.here hx rfl (hb hby at_135) rfl zk) ?_
      obtain ⟨cq164, kq164, q164a, q164b, q164c⟩ := isOf hZ rfl Ab158_160
      obtain ⟨_, _, ⟨T164, L164, k164, n164⟩, -, X164, ⟨Lc164, hQ164, l164, y164, z164⟩, st164⟩ := X160.virtualBack hx (y := (⟨"com/example/passau/passau/insertion/TwoSat", "require", "(I)V"⟩ : MethodName)) (z := (⟨"com/example/passau/passau/insertion/TwoSat", "require", "(I)V"⟩ : MethodName)) hown (mvT hZ (hw _ (List.mem_of_getElem? (i := 41) rfl))) (mvT hZ (hw _ (List.mem_of_getElem? (i := 17) rfl))) (notFace_of_selects (args := #[]) (mvT hZ (hw _ (List.mem_of_getElem? (i := 19) rfl)))) (mvT hZ (hw _ (List.mem_of_getElem? (i := 19) rfl))) (mvT hZ (hw _ (List.mem_of_getElem? (i := 18) rfl))) (by decide) (backOf (W := 0) (rm3 l Z a0 hw [] b158 (2 : Int32) afr159 ato159 (2 : Int32) (2 : Int32) ([(1 : Int32), (1 : Int32), (0 : Int32), (0 : Int32), (0 : Int32), (0 : Int32), (0 : Int32), (0 : Int32), (0 : Int32), (0 : Int32), (0 : Int32), (0 : Int32), (0 : Int32), (0 : Int32), (0 : Int32), (0 : Int32)]) ([(0 : Int32), (0 : Int32), (0 : Int32), (0 : Int32), (0 : Int32), (0 : Int32), (0 : Int32), (0 : Int32), (0 : Int32), (0 : Int32), (0 : Int32), (0 : Int32), (0 : Int32), (0 : Int32), (0 : Int32), (0 : Int32)]) [(1 : Int32), (1 : Int32), (3 : Int32), (0 : Int32), (0 : Int32), (0 : Int32), (0 : Int32), (0 : Int32), (0 : Int32), (0 : Int32), (0 : Int32), (0 : Int32), (0 : Int32), (0 : Int32), (0 : Int32), (0 : Int32)] [(1 : Int32), (1 : Int32), (3 : Int32), (3 : Int32), (0 : Int32), (0 : Int32), (0 : Int32), (0 : Int32), (0 : Int32), (0 : Int32), (0 : Int32), (0 : Int32), (0 : Int32), (0 : Int32), (0 : Int32), (0 : Int32)] [(0 : Int32), (0 : Int32), (2 : Int32), (0 : Int32), (0 : Int32), (0 : Int32), (0 : Int32), (0 : Int32), (0 : Int32), (0 : Int32), (0 : Int32), (0 : Int32), (0 : Int32), (0 : Int32), (0 : Int32), (0 : Int32)] [(0 : Int32), (0 : Int32), (2 : Int32), (2 : Int32), (0 : Int32), (0 : Int32), (0 : Int32), (0 : Int32), (0 : Int32), (0 : Int32), (0 : Int32), (0 : Int32), (0 : Int32), (0 : Int32), (0 : Int32), (0 : Int32)] T160.heap n0 Z160 (Ab158_160) (O160_0) (O160_1) (J160) (O160_3) (Oafr159L_160) (Oato159L_160) (G158) (Gafr159) (Gato159) (ne_b158_afr159) (ne_b158_ato159) (P159_0) (by decide +kernel) (by decide +kernel) (by decide +kernel) (by decide +kernel) (by decide +kernel) (by decide +kernel) (by decide)) hZ (hw _ (List.mem_of_getElem? (i := 20) rfl)) (hw _ (List.mem_of_getElem? (i := 2) rfl)) (by decide) (by decide)) q164a q164c (g := (mkF m 137 #[.val (.int p0), .val (.ref b158), .val (.int (0 : Int32)), .val (.int (1 : Int32)), .val (.int (2 : Int32)), .val (.int (1 : Int32)), .unset, .unset] [(.int (2 : Int32)), (.ref b158)])) rfl (by rw [hml]; rfl) (Steps.refl _) (argsL := [(.int (2 : Int32))]) (rest := []) (lenOf pd_1 rfl) rfl (by show 2 * 0 + _ ≤ _; exact Nat.le_of_eq rfl) (hb hby at_137) (fun _ _ => ⟨rfl, rfl, (by decide : 3 + 0 ≤ _), (by decide : 36 + 0 ≤ _)⟩)
      dsimp only [Pt.U, Pt.locs, Pt.cells, Pt.slots] at X164 l164 y164 z164 st164 hQ164
      subst l164 y164 z164
      obtain ⟨rfl, N164q, K164, O164_0, O164_1, O164_2, O164_3, O164_4, O164_5⟩ := hQ164
      have Ab158_164 := Ab158_160.keep K164
      have Z164 : n0 ≤ T164.heap.size := Nat.le_trans Z160 K164.1
      have J164 : Fld Z T164.heap b158 "com/example/passau/passau/insertion/TwoSat" "implications" "I" (.int (4 : Int32)) := O164_3
      have N164 := Fr.app N160 N164q
      refine own_jp st164 ?_
      refine own_st (fun zw zk => XS.goto X164.here hx rfl (pc0 := 140) (pc' := 152) rfl (hb hby at_140) (by decide) (by decide) zk) ?_
      show own_Go p e below G (T164.setTop (mkF m 152 #[.val (.int p0), .val (.ref b158), .val (.int (0 : Int32)), .val (.int (1 : Int32)), .val (.int (2 : Int32)), .val (.int (1 : Int32)), .unset, .unset] []))
      refine own_st (fun zw zk => XS.aloadN X164.here hx rfl (hb hby at_152) rfl rfl zk) ?_
      obtain ⟨cq165, kq165, q165a, q165b, q165c⟩ := isOf hZ rfl Ab158_164
      obtain ⟨_, _, ⟨T165, L165, k165, n165⟩, -, X165, ⟨Lc165, hQ165, l165, y165, z165⟩, st165⟩ := X164.virtualBack hx (y := (⟨"com/example/passau/passau/insertion/TwoSat", "solve", "()[Z"⟩ : MethodName)) (z := (⟨"com/example/passau/passau/insertion/TwoSat", "solve", "()[Z"⟩ : MethodName)) hown (mvT hZ (hw _ (List.mem_of_getElem? (i := 42) rfl))) (mvT hZ (hw _ (List.mem_of_getElem? (i := 43) rfl))) (notFace_of_selects (args := #[]) (mvT hZ (hw _ (List.mem_of_getElem? (i := 45) rfl)))) (mvT hZ (hw _ (List.mem_of_getElem? (i := 45) rfl))) (mvT hZ (hw _ (List.mem_of_getElem? (i := 44) rfl))) (by decide) (backOf (W := 0) (rm8 l Z a0 hw [] b158 afr159 ato159 (4 : Int32) (2 : Int32) ([(1 : Int32), (1 : Int32), (3 : Int32), (3 : Int32), (0 : Int32), (0 : Int32), (0 : Int32), (0 : Int32), (0 : Int32), (0 : Int32), (0 : Int32), (0 : Int32), (0 : Int32), (0 : Int32), (0 : Int32), (0 : Int32)]) ([(0 : Int32), (0 : Int32), (2 : Int32), (2 : Int32), (0 : Int32), (0 : Int32), (0 : Int32), (0 : Int32), (0 : Int32), (0 : Int32), (0 : Int32), (0 : Int32), (0 : Int32), (0 : Int32), (0 : Int32), (0 : Int32)]) 4 4 2 [(1 : Int32), (1 : Int32)] T164.heap n0 Z164 (O164_0) (O164_1) (O164_2) (J164) (O164_4) (O164_5) (by decide) (by decide) (by decide) (by decide) (by decide) (by decide) (by decide +kernel)) hZ (hw _ (List.mem_of_getElem? (i := 46) rfl)) (hw _ (List.mem_of_getElem? (i := 2) rfl)) (by decide) (by decide)) q165a q165c (g := (mkF m 153 #[.val (.int p0), .val (.ref b158), .val (.int (0 : Int32)), .val (.int (1 : Int32)), .val (.int (2 : Int32)), .val (.int (1 : Int32)), .unset, .unset] [(.ref b158)])) rfl (by rw [hml]; rfl) (Steps.refl _) (argsL := []) (rest := []) (lenOf pd_10 rfl) rfl (by show 2 * 0 + _ ≤ _; exact Nat.le_of_eq rfl) (hb hby at_153) (fun _ _ => ⟨rfl, rfl, (by decide : 3 + 12 ≤ _), (by decide : 36 + 189 ≤ _)⟩)
      dsimp only [Pt.U, Pt.locs, Pt.cells, Pt.slots] at X165 l165 y165 z165 st165 hQ165
      subst l165 y165 z165
      obtain ⟨b165, rfl, N165q, sz165, K165, R165_0⟩ := hQ165
      have ne_b158_b165 : b158 ≠ b165 := Nat.ne_of_lt (Nat.lt_of_lt_of_le Ab158_164.lt sz165)
      have ne_afr159_b165 : afr159 ≠ b165 := Nat.ne_of_lt (Nat.lt_of_lt_of_le O164_4.lt sz165)
      have ne_ato159_b165 : ato159 ≠ b165 := Nat.ne_of_lt (Nat.lt_of_lt_of_le O164_5.lt sz165)
      have G165 : n0 ≤ b165 := Nat.le_trans Z164 sz165
      have Ab158_165 := Ab158_164.keep K165
      have Ob158from_165 := O164_0.keep K165 nin0
      have Ob158to_165 := O164_1.keep K165 nin0
      have Ob158variables_165 := O164_2.keep K165 nin0
      have Ob158implications_165 := J164.keep K165 nin0
      have Oafr159L_165 := O164_4.keep K165 nin0
      have Oato159L_165 := O164_5.keep K165 nin0
      have Z165 : n0 ≤ T165.heap.size := Nat.le_trans Z164 K165.1
      have N165 := Fr.app N164 N165q
      refine own_jp st165 ?_
      refine own_st (fun zw zk => XS.astore X165.here hx rfl (hb hby at_156) rfl rfl rfl zk) ?_
      show own_Go p e below G (T165.setTop (mkF m 158 #[.val (.int p0), .val (.ref b158), .val (.int (0 : Int32)), .val (.int (1 : Int32)), .val (.int (2 : Int32)), .val (.int (1 : Int32)), .val (.ref b165), .unset] []))
      refine own_st (fun zw zk => XS.aload X165.here hx rfl (hb hby at_158) rfl rfl zk) ?_
      refine own_st (fun zw zk => XS.ifnonnullYes X165.here hx rfl (pc0 := 160) (pc' := 165) rfl (hb hby at_160) rfl (by decide) (by decide) zk) ?_
      refine own_st (fun zw zk => XS.aload X165.here hx rfl (hb hby at_165) rfl rfl zk) ?_
      refine own_st (fun zw zk => own_len X165 hx hZ rfl R165_0 (z := (2 : Int32)) (rfl) (g := (mkF m 167 #[.val (.int p0), .val (.ref b158), .val (.int (0 : Int32)), .val (.int (1 : Int32)), .val (.int (2 : Int32)), .val (.int (1 : Int32)), .val (.ref b165), .unset] [(.ref b165)])) rfl rfl (hb hby at_167) _ zk) ?_
      refine own_st (fun zw zk => XS.iloadN X165.here hx rfl (hb hby at_168) rfl zk) ?_
      refine own_st (fun zw zk => XS.iconst X165.here hx rfl (hb hby at_169) zk) ?_
      refine own_st (fun zw zk => XS.iadd X165.here hx rfl (hb hby at_170) rfl zk) ?_
      refine own_st (fun zw zk => XS.icmpYes X165.here hx rfl (pc0 := 171) (pc' := 176) rfl (hb hby at_171) rfl (teq (by decide : (2 : Int32) = (2 : Int32))).1 (by decide) (by decide) zk) ?_
      show own_Go p e below G (T165.setTop (mkF m 176 #[.val (.int p0), .val (.ref b158), .val (.int (0 : Int32)), .val (.int (1 : Int32)), .val (.int (2 : Int32)), .val (.int (1 : Int32)), .val (.ref b165), .unset] []))
      refine own_st (fun zw zk => XS.iload X165.here hx rfl (hb hby at_176) rfl zk) ?_
      refine own_st (fun zw zk => XS.iconst X165.here hx rfl (hb hby at_178) zk) ?_
      refine own_st (fun zw zk => XS.ishr X165.here hx rfl (hb hby at_179) rfl zk) ?_
      refine own_st (fun zw zk => XS.istore X165.here hx rfl (hb hby at_180) rfl rfl zk) ?_
      show own_Go p e below G (T165.setTop (mkF m 182 #[.val (.int p0), .val (.ref b158), .val (.int (0 : Int32)), .val (.int (1 : Int32)), .val (.int (2 : Int32)), .val (.int (1 : Int32)), .val (.ref b165), .val (.int ((2 : Int32) >>> ((1 : Int32) &&& 31)))] []))
      rw [show ((2 : Int32) >>> ((1 : Int32) &&& 31)) = (1 : Int32) from by decide]
      refine own_st (fun zw zk => XS.iload X165.here hx rfl (hb hby at_182) rfl zk) ?_
      refine own_st (fun zw zk => XS.ifNo X165.here hx rfl (hb hby at_184) rfl ((if0 _ _).trans (flt (by decide : ¬ ((1 : Int32) < (0 : Int32)))).1) zk) ?_
      refine own_st (fun zw zk => XS.iload X165.here hx rfl (hb hby at_187) rfl zk) ?_
      refine own_st (fun zw zk => XS.aload X165.here hx rfl (hb hby at_189) rfl rfl zk) ?_
      refine own_st (fun zw zk => own_len X165 hx hZ rfl R165_0 (z := (2 : Int32)) (rfl) (g := (mkF m 191 #[.val (.int p0), .val (.ref b158), .val (.int (0 : Int32)), .val (.int (1 : Int32)), .val (.int (2 : Int32)), .val (.int (1 : Int32)), .val (.ref b165), .val (.int (1 : Int32))] [(.ref b165), (.int (1 : Int32))])) rfl rfl (hb hby at_191) _ zk) ?_
      refine own_st (fun zw zk => XS.icmpYes X165.here hx rfl (pc0 := 192) (pc' := 197) rfl (hb hby at_192) rfl (tlt (by decide : (1 : Int32) < (2 : Int32))).1 (by decide) (by decide) zk) ?_
      refine own_st (fun zw zk => XS.aload X165.here hx rfl (hb hby at_197) rfl rfl zk) ?_
      refine own_st (fun zw zk => XS.iload X165.here hx rfl (hb hby at_199) rfl zk) ?_
      show own_Go p e below G (T165.setTop (mkF m 201 #[.val (.int p0), .val (.ref b158), .val (.int (0 : Int32)), .val (.int (1 : Int32)), .val (.int (2 : Int32)), .val (.int (1 : Int32)), .val (.ref b165), .val (.int (1 : Int32))] [(.int (1 : Int32)), (.ref b165)]))
      refine own_st (fun zw zk => own_zld X165 hx hZ rfl R165_0 (j := (1 : Int32)) (v := (.int (1 : Int32))) (i := 1) (by decide) (by decide) rfl (g := (mkF m 201 #[.val (.int p0), .val (.ref b158), .val (.int (0 : Int32)), .val (.int (1 : Int32)), .val (.int (2 : Int32)), .val (.int (1 : Int32)), .val (.ref b165), .val (.int (1 : Int32))] [(.int (1 : Int32)), (.ref b165)])) rfl rfl (hb hby at_201) _ zk) ?_
      refine own_st (fun zw zk => XS.iload X165.here hx rfl (hb hby at_202) rfl zk) ?_
      refine own_st (fun zw zk => XS.icmpNo X165.here hx rfl (hb hby at_204) rfl (teq (by decide : (1 : Int32) = (1 : Int32))).2 zk) ?_
      refine own_st (fun zw zk => XS.aload X165.here hx rfl (hb hby at_207) rfl rfl zk) ?_
      refine own_st (fun zw zk => XS.iconst X165.here hx rfl (hb hby at_209) zk) ?_
      refine own_st (fun zw zk => own_zld X165 hx hZ rfl R165_0 (j := (0 : Int32)) (v := (.int (1 : Int32))) (i := 0) (by decide) (by decide) rfl (g := (mkF m 210 #[.val (.int p0), .val (.ref b158), .val (.int (0 : Int32)), .val (.int (1 : Int32)), .val (.int (2 : Int32)), .val (.int (1 : Int32)), .val (.ref b165), .val (.int (1 : Int32))] [(.int (0 : Int32)), (.ref b165)])) rfl rfl (hb hby at_210) _ zk) ?_
      refine own_st (fun zw zk => XS.ifNo X165.here hx rfl (hb hby at_211) rfl ((if0 _ _).trans (feq (by decide : ¬ ((1 : Int32) = (0 : Int32)))).1) zk) ?_
      refine own_st (fun zw zk => XS.iconst X165.here hx rfl (hb hby at_214) zk) ?_
      show own_Go p e below G (T165.setTop (mkF m 215 #[.val (.int p0), .val (.ref b158), .val (.int (0 : Int32)), .val (.int (1 : Int32)), .val (.int (2 : Int32)), .val (.int (1 : Int32)), .val (.ref b165), .val (.int (1 : Int32))] [(.int (1 : Int32))]))
      refine own_st (fun zw zk => XS.goto X165.here hx rfl (pc0 := 215) (pc' := 219) rfl (hb hby at_215) (by decide) (by decide) zk) ?_
      show own_Go p e below G (T165.setTop (mkF m 219 #[.val (.int p0), .val (.ref b158), .val (.int (0 : Int32)), .val (.int (1 : Int32)), .val (.int (2 : Int32)), .val (.int (1 : Int32)), .val (.ref b165), .val (.int (1 : Int32))] [(.int (1 : Int32))]))
      subst hG
      obtain ⟨fs, hr, hrun, hended, hW, hsame⟩ := X165.leave (v := some (.int (1 : Int32))) (hlocks := Bd.notSynchronized) (fun h => by rw [Bd.returns] at h; cases h)
      refine ⟨_, retN X165 hx (t := .boolean) Bd.returns (by simp) (hb hby at_219) hr, _, hrun, hended, _, _, rfl, ?_, ⟨_, rfl⟩, hW, hsame.mono (by decide) (by decide)⟩
      show Q0 Z p0 h0 n0 _ T165.heap _
      exact ⟨rfl, N165⟩
  · refine own_st (fun zw zk => XS.iconst X159.here hx rfl (hb hby at_12) zk) ?_
    refine own_st (fun zw zk => XS.istoreN X159.here hx rfl (hb hby at_13) rfl rfl zk) ?_
    show own_Go p e below G (T159.setTop (mkF m 14 #[.val (.int p0), .val (.ref b158), .val (.int (1 : Int32)), .val (.int (1 : Int32)), .unset, .unset, .unset, .unset] []))
    refine own_st (fun zw zk => XS.iloadN X159.here hx rfl (hb hby at_14) rfl zk) ?_
    refine own_st (fun zw zk => XS.iconst X159.here hx rfl (hb hby at_15) zk) ?_
    refine own_st (fun zw zk => XS.icmpNo X159.here hx rfl (hb hby at_16) rfl (flt (by decide : ¬ ((1 : Int32) < (1 : Int32)))).1 zk) ?_
    refine own_st (fun zw zk => XS.iloadN X159.here hx rfl (hb hby at_19) rfl zk) ?_
    refine own_st (fun zw zk => XS.ifNo X159.here hx rfl (hb hby at_20) rfl ((if0 _ _).trans (feq (by decide : ¬ ((1 : Int32) = (0 : Int32)))).1) zk) ?_
    refine own_st (fun zw zk => XS.aloadN X159.here hx rfl (hb hby at_23) rfl rfl zk) ?_
    obtain ⟨cq166, kq166, q166a, q166b, q166c⟩ := isOf hZ rfl Ab158_159
    obtain ⟨_, _, ⟨T166, L166, k166, n166⟩, -, X166, ⟨Lc166, hQ166, l166, y166, z166⟩, st166⟩ := X159.virtualBack hx (y := (⟨"com/example/passau/passau/insertion/TwoSat", "variable", "()I"⟩ : MethodName)) (z := (⟨"com/example/passau/passau/insertion/TwoSat", "variable", "()I"⟩ : MethodName)) hown (mvT hZ (hw _ (List.mem_of_getElem? (i := 35) rfl))) (mvT hZ (hw _ (List.mem_of_getElem? (i := 36) rfl))) (notFace_of_selects (args := #[]) (mvT hZ (hw _ (List.mem_of_getElem? (i := 38) rfl)))) (mvT hZ (hw _ (List.mem_of_getElem? (i := 38) rfl))) (mvT hZ (hw _ (List.mem_of_getElem? (i := 37) rfl))) (by decide) (backOf (W := 0) (rm7 l Z a0 hw [] b158 afr159 ato159 (2 : Int32) (1 : Int32) T159.heap n0 Z159 (Ab158_159) (O159_0) (O159_1) (O159_2) (O159_3) (G158)) hZ (hw _ (List.mem_of_getElem? (i := 39) rfl)) (hw _ (List.mem_of_getElem? (i := 2) rfl)) (by decide) (by decide)) q166a q166c (g := (mkF m 24 #[.val (.int p0), .val (.ref b158), .val (.int (1 : Int32)), .val (.int (1 : Int32)), .unset, .unset, .unset, .unset] [(.ref b158)])) rfl (by rw [hml]; rfl) (Steps.refl _) (argsL := []) (rest := []) (lenOf pd_9 rfl) rfl (by show 2 * 0 + _ ≤ _; exact Nat.le_of_eq rfl) (hb hby at_24) (fun _ _ => ⟨rfl, rfl, (by decide : 3 + 0 ≤ _), (by decide : 36 + 0 ≤ _)⟩)
    dsimp only [Pt.U, Pt.locs, Pt.cells, Pt.slots] at X166 l166 y166 z166 st166 hQ166
    subst l166 y166 z166
    obtain ⟨rfl, N166q, K166, O166_0, O166_1, O166_2, O166_3⟩ := hQ166
    have Ab158_166 := Ab158_159.keep K166
    have Oafr159L_166 := O159_4.keep K166 (ninS (Ne.symm ne_b158_afr159) nin0)
    have Oato159L_166 := O159_5.keep K166 (ninS (Ne.symm ne_b158_ato159) nin0)
    have Z166 : n0 ≤ T166.heap.size := Nat.le_trans Z159 K166.1
    have J166 : Fld Z T166.heap b158 "com/example/passau/passau/insertion/TwoSat" "variables" "I" (.int (2 : Int32)) := O166_2
    have N166 := Fr.app N159 N166q
    refine own_jp st166 ?_
    refine own_st (fun zw zk => XS.iconst X166.here hx rfl (hb hby at_27) zk) ?_
    show own_Go p e below G (T166.setTop (mkF m 28 #[.val (.int p0), .val (.ref b158), .val (.int (1 : Int32)), .val (.int (1 : Int32)), .unset, .unset, .unset, .unset] [(.int (2 : Int32)), (.int (2 : Int32))]))
    refine own_st (fun zw zk => XS.icmpNo X166.here hx rfl (hb hby at_28) rfl (teq (by decide : (2 : Int32) = (2 : Int32))).2 zk) ?_
    refine own_st (fun zw zk => XS.iconst X166.here hx rfl (hb hby at_31) zk) ?_
    refine own_st (fun zw zk => XS.goto X166.here hx rfl (pc0 := 32) (pc' := 36) rfl (hb hby at_32) (by decide) (by decide) zk) ?_
    show own_Go p e below G (T166.setTop (mkF m 36 #[.val (.int p0), .val (.ref b158), .val (.int (1 : Int32)), .val (.int (1 : Int32)), .unset, .unset, .unset, .unset] [(.int (1 : Int32))]))
    refine own_st (fun zw zk => XS.istoreN X166.here hx rfl (hb hby at_36) rfl rfl zk) ?_
    show own_Go p e below G (T166.setTop (mkF m 37 #[.val (.int p0), .val (.ref b158), .val (.int (1 : Int32)), .val (.int (1 : Int32)), .unset, .unset, .unset, .unset] []))
    refine own_st (fun zw zk => XS.iloadN X166.here hx rfl (hb hby at_37) rfl zk) ?_
    refine own_st (fun zw zk => XS.iconst X166.here hx rfl (hb hby at_38) zk) ?_
    refine own_st (fun zw zk => XS.icmpYes X166.here hx rfl (pc0 := 39) (pc' := 60) rfl (hb hby at_39) rfl (tlt (by decide : (1 : Int32) < (2 : Int32))).1 (by decide) (by decide) zk) ?_
    refine own_st (fun zw zk => XS.iloadN X166.here hx rfl (hb hby at_60) rfl zk) ?_
    refine own_st (fun zw zk => XS.iconst X166.here hx rfl (hb hby at_61) zk) ?_
    refine own_st (fun zw zk => XS.icmpYes X166.here hx rfl (pc0 := 62) (pc' := 84) rfl (hb hby at_62) rfl (tlt (by decide : (1 : Int32) < (3 : Int32))).1 (by decide) (by decide) zk) ?_
    refine own_st (fun zw zk => XS.aloadN X166.here hx rfl (hb hby at_84) rfl rfl zk) ?_
    obtain ⟨cq167, kq167, q167a, q167b, q167c⟩ := isOf hZ rfl Ab158_166
    obtain ⟨_, _, ⟨T167, L167, k167, n167⟩, -, X167, ⟨Lc167, hQ167, l167, y167, z167⟩, st167⟩ := X166.virtualBack hx (y := (⟨"com/example/passau/passau/insertion/TwoSat", "variable", "()I"⟩ : MethodName)) (z := (⟨"com/example/passau/passau/insertion/TwoSat", "variable", "()I"⟩ : MethodName)) hown (mvT hZ (hw _ (List.mem_of_getElem? (i := 35) rfl))) (mvT hZ (hw _ (List.mem_of_getElem? (i := 36) rfl))) (notFace_of_selects (args := #[]) (mvT hZ (hw _ (List.mem_of_getElem? (i := 38) rfl)))) (mvT hZ (hw _ (List.mem_of_getElem? (i := 38) rfl))) (mvT hZ (hw _ (List.mem_of_getElem? (i := 37) rfl))) (by decide) (backOf (W := 0) (rm7 l Z a0 hw [] b158 afr159 ato159 (2 : Int32) (2 : Int32) T166.heap n0 Z166 (Ab158_166) (O166_0) (O166_1) (J166) (O166_3) (G158)) hZ (hw _ (List.mem_of_getElem? (i := 39) rfl)) (hw _ (List.mem_of_getElem? (i := 2) rfl)) (by decide) (by decide)) q167a q167c (g := (mkF m 85 #[.val (.int p0), .val (.ref b158), .val (.int (1 : Int32)), .val (.int (1 : Int32)), .unset, .unset, .unset, .unset] [(.ref b158)])) rfl (by rw [hml]; rfl) (Steps.refl _) (argsL := []) (rest := []) (lenOf pd_9 rfl) rfl (by show 2 * 0 + _ ≤ _; exact Nat.le_of_eq rfl) (hb hby at_85) (fun _ _ => ⟨rfl, rfl, (by decide : 3 + 0 ≤ _), (by decide : 36 + 0 ≤ _)⟩)
    dsimp only [Pt.U, Pt.locs, Pt.cells, Pt.slots] at X167 l167 y167 z167 st167 hQ167
    subst l167 y167 z167
    obtain ⟨rfl, N167q, K167, O167_0, O167_1, O167_2, O167_3⟩ := hQ167
    have Ab158_167 := Ab158_166.keep K167
    have Oafr159L_167 := Oafr159L_166.keep K167 (ninS (Ne.symm ne_b158_afr159) nin0)
    have Oato159L_167 := Oato159L_166.keep K167 (ninS (Ne.symm ne_b158_ato159) nin0)
    have Z167 : n0 ≤ T167.heap.size := Nat.le_trans Z166 K167.1
    have J167 : Fld Z T167.heap b158 "com/example/passau/passau/insertion/TwoSat" "variables" "I" (.int (3 : Int32)) := O167_2
    have N167 := Fr.app N166 N167q
    refine own_jp st167 ?_
    show own_Go p e below G (T167.setTop (mkF m 88 #[.val (.int p0), .val (.ref b158), .val (.int (1 : Int32)), .val (.int (1 : Int32)), .unset, .unset, .unset, .unset] [(.int (4 : Int32))]))
    refine own_st (fun zw zk => XS.istore X167.here hx rfl (hb hby at_88) rfl rfl zk) ?_
    show own_Go p e below G (T167.setTop (mkF m 90 #[.val (.int p0), .val (.ref b158), .val (.int (1 : Int32)), .val (.int (1 : Int32)), .val (.int (4 : Int32)), .unset, .unset, .unset] []))
    refine own_st (fun zw zk => XS.iloadN X167.here hx rfl (hb hby at_90) rfl zk) ?_
    refine own_st (fun zw zk => XS.ifNo X167.here hx rfl (hb hby at_91) rfl ((if0 _ _).trans (feq (by decide : ¬ ((1 : Int32) = (0 : Int32)))).1) zk) ?_
    refine own_st (fun zw zk => XS.iload X167.here hx rfl (hb hby at_94) rfl zk) ?_
    refine own_st (fun zw zk => XS.iconst X167.here hx rfl (hb hby at_96) zk) ?_
    refine own_st (fun zw zk => XS.iloadN X167.here hx rfl (hb hby at_97) rfl zk) ?_
    refine own_st (fun zw zk => XS.iconst X167.here hx rfl (hb hby at_98) zk) ?_
    refine own_st (fun zw zk => XS.iadd X167.here hx rfl (hb hby at_99) rfl zk) ?_
    refine own_st (fun zw zk => XS.imul X167.here hx rfl (hb hby at_100) rfl zk) ?_
    show own_Go p e below G (T167.setTop (mkF m 101 #[.val (.int p0), .val (.ref b158), .val (.int (1 : Int32)), .val (.int (1 : Int32)), .val (.int (4 : Int32)), .unset, .unset, .unset] [(.int (4 : Int32)), (.int (4 : Int32))]))
    refine own_st (fun zw zk => XS.icmpNo X167.here hx rfl (hb hby at_101) rfl (teq (by decide : (4 : Int32) = (4 : Int32))).2 zk) ?_
    refine own_st (fun zw zk => XS.iconst X167.here hx rfl (hb hby at_104) zk) ?_
    refine own_st (fun zw zk => XS.goto X167.here hx rfl (pc0 := 105) (pc' := 109) rfl (hb hby at_105) (by decide) (by decide) zk) ?_
    show own_Go p e below G (T167.setTop (mkF m 109 #[.val (.int p0), .val (.ref b158), .val (.int (1 : Int32)), .val (.int (1 : Int32)), .val (.int (4 : Int32)), .unset, .unset, .unset] [(.int (1 : Int32))]))
    refine own_st (fun zw zk => XS.istoreN X167.here hx rfl (hb hby at_109) rfl rfl zk) ?_
    show own_Go p e below G (T167.setTop (mkF m 110 #[.val (.int p0), .val (.ref b158), .val (.int (1 : Int32)), .val (.int (1 : Int32)), .val (.int (4 : Int32)), .unset, .unset, .unset] []))
    refine own_st (fun zw zk => XS.iloadN X167.here hx rfl (hb hby at_110) rfl zk) ?_
    refine own_st (fun zw zk => XS.ifYes X167.here hx rfl (pc0 := 111) (pc' := 116) rfl (hb hby at_111) rfl ((if0 _ _).trans (feq (by decide : ¬ ((1 : Int32) = (0 : Int32)))).2) (by decide) (by decide) zk) ?_
    refine own_st (fun zw zk => XS.iloadN X167.here hx rfl (hb hby at_116) rfl zk) ?_
    refine own_st (fun zw zk => XS.iconst X167.here hx rfl (hb hby at_117) zk) ?_
    refine own_st (fun zw zk => XS.iand X167.here hx rfl (hb hby at_118) rfl zk) ?_
    by_cases hc119 : (p0 &&& (4 : Int32)) = (0 : Int32)
    · refine own_st (fun zw zk => XS.ifYes X167.here hx rfl (pc0 := 119) (pc' := 126) rfl (hb hby at_119) rfl ((if0 _ _).trans (teq hc119).1) (by decide) (by decide) zk) ?_
      refine own_st (fun zw zk => XS.iconst X167.here hx rfl (hb hby at_126) zk) ?_
      refine own_st (fun zw zk => XS.istore X167.here hx rfl (hb hby at_127) rfl rfl zk) ?_
      show own_Go p e below G (T167.setTop (mkF m 129 #[.val (.int p0), .val (.ref b158), .val (.int (1 : Int32)), .val (.int (1 : Int32)), .val (.int (4 : Int32)), .val (.int (0 : Int32)), .unset, .unset] []))
      refine own_st (fun zw zk => XS.iload X167.here hx rfl (hb hby at_129) rfl zk) ?_
      refine own_st (fun zw zk => XS.ifYes X167.here hx rfl (pc0 := 131) (pc' := 143) rfl (hb hby at_131) rfl ((if0 _ _).trans (teq (by decide : (0 : Int32) = (0 : Int32))).1) (by decide) (by decide) zk) ?_
      refine own_st (fun zw zk => XS.aloadN X167.here hx rfl (hb hby at_143) rfl rfl zk) ?_
      refine own_st (fun zw zk => XS.iload X167.here hx rfl (hb hby at_144) rfl zk) ?_
      obtain ⟨_, _, ⟨T168, L168, k168, n168⟩, -, X168, ⟨Lc168, hQ168, l168, y168, z168⟩, st168⟩ := Jvm.LawKit.callS X167 hx (y := (⟨"com/example/passau/passau/insertion/TwoSat", "not", "(I)I"⟩ : MethodName)) hown (mvT hZ (hw _ (List.mem_of_getElem? (i := 40) rfl))) (mvT hZ (hw _ (List.mem_of_getElem? (i := 27) rfl))) (mvT hZ (hw _ (List.mem_of_getElem? (i := 2) rfl))) (mvT hZ (hw _ (List.mem_of_getElem? (i := 28) rfl))) (by decide) (backOf (W := 1) (rm5 l Z a0 hw [] (4 : Int32) T167.heap n0 Z167) hZ (hw _ (List.mem_of_getElem? (i := 28) rfl)) (hw _ (List.mem_of_getElem? (i := 2) rfl)) (by decide) (by decide)) (g := (mkF m 146 #[.val (.int p0), .val (.ref b158), .val (.int (1 : Int32)), .val (.int (1 : Int32)), .val (.int (4 : Int32)), .val (.int (0 : Int32)), .unset, .unset] [(.int (4 : Int32)), (.ref b158)])) rfl (by rw [hml]; rfl) (argsL := [(.int (4 : Int32))]) (rest := [(.ref b158)]) (lenOf pd_4 rfl) rfl (by show 2 * 0 + _ ≤ _; exact Nat.le_of_eq rfl) (hb hby at_146) (fun _ _ => ⟨rfl, rfl, (by decide : 3 + 0 ≤ _), (by decide : 36 + 0 ≤ _)⟩)
      dsimp only [Pt.U, Pt.locs, Pt.cells, Pt.slots] at X168 l168 y168 z168 st168 hQ168
      subst l168 y168 z168
      obtain ⟨rfl, N168q, e168⟩ := hQ168
      have N168 := Fr.app N167 N168q
      refine own_st (fun zw zk => st168 zw zk) ?_
      show own_Go p e below G (T168.setTop (mkF m 149 #[.val (.int p0), .val (.ref b158), .val (.int (1 : Int32)), .val (.int (1 : Int32)), .val (.int (4 : Int32)), .val (.int (0 : Int32)), .unset, .unset] [(.int (own_not (4 : Int32))), (.ref b158)]))
      rw [show (own_not (4 : Int32)) = (5 : Int32) from by decide]
      obtain ⟨cq169, kq169, q169a, q169b, q169c⟩ := isOf hZ e168 Ab158_167
      obtain ⟨_, _, ⟨T169, L169, k169, n169⟩, -, X169, ⟨Lc169, hQ169, l169, y169, z169⟩, st169⟩ := X168.virtualBack hx (y := (⟨"com/example/passau/passau/insertion/TwoSat", "require", "(I)V"⟩ : MethodName)) (z := (⟨"com/example/passau/passau/insertion/TwoSat", "require", "(I)V"⟩ : MethodName)) hown (mvT hZ (hw _ (List.mem_of_getElem? (i := 41) rfl))) (mvT hZ (hw _ (List.mem_of_getElem? (i := 17) rfl))) (notFace_of_selects (args := #[]) (mvT hZ (hw _ (List.mem_of_getElem? (i := 19) rfl)))) (mvT hZ (hw _ (List.mem_of_getElem? (i := 19) rfl))) (mvT hZ (hw _ (List.mem_of_getElem? (i := 18) rfl))) (by decide) (backOf (W := 0) (rm3 l Z a0 hw [] b158 (5 : Int32) afr159 ato159 (2 : Int32) (3 : Int32) ([(1 : Int32), (1 : Int32), (0 : Int32), (0 : Int32), (0 : Int32), (0 : Int32), (0 : Int32), (0 : Int32), (0 : Int32), (0 : Int32), (0 : Int32), (0 : Int32), (0 : Int32), (0 : Int32), (0 : Int32), (0 : Int32)]) ([(0 : Int32), (0 : Int32), (0 : Int32), (0 : Int32), (0 : Int32), (0 : Int32), (0 : Int32), (0 : Int32), (0 : Int32), (0 : Int32), (0 : Int32), (0 : Int32), (0 : Int32), (0 : Int32), (0 : Int32), (0 : Int32)]) [(1 : Int32), (1 : Int32), (4 : Int32), (0 : Int32), (0 : Int32), (0 : Int32), (0 : Int32), (0 : Int32), (0 : Int32), (0 : Int32), (0 : Int32), (0 : Int32), (0 : Int32), (0 : Int32), (0 : Int32), (0 : Int32)] [(1 : Int32), (1 : Int32), (4 : Int32), (4 : Int32), (0 : Int32), (0 : Int32), (0 : Int32), (0 : Int32), (0 : Int32), (0 : Int32), (0 : Int32), (0 : Int32), (0 : Int32), (0 : Int32), (0 : Int32), (0 : Int32)] [(0 : Int32), (0 : Int32), (5 : Int32), (0 : Int32), (0 : Int32), (0 : Int32), (0 : Int32), (0 : Int32), (0 : Int32), (0 : Int32), (0 : Int32), (0 : Int32), (0 : Int32), (0 : Int32), (0 : Int32), (0 : Int32)] [(0 : Int32), (0 : Int32), (5 : Int32), (5 : Int32), (0 : Int32), (0 : Int32), (0 : Int32), (0 : Int32), (0 : Int32), (0 : Int32), (0 : Int32), (0 : Int32), (0 : Int32), (0 : Int32), (0 : Int32), (0 : Int32)] T167.heap n0 Z167 (Ab158_167) (O167_0) (O167_1) (J167) (O167_3) (Oafr159L_167) (Oato159L_167) (G158) (Gafr159) (Gato159) (ne_b158_afr159) (ne_b158_ato159) (P159_0) (by decide +kernel) (by decide +kernel) (by decide +kernel) (by decide +kernel) (by decide +kernel) (by decide +kernel) (by decide)) hZ (hw _ (List.mem_of_getElem? (i := 20) rfl)) (hw _ (List.mem_of_getElem? (i := 2) rfl)) (by decide) (by decide)) q169a q169c (g := (mkF m 149 #[.val (.int p0), .val (.ref b158), .val (.int (1 : Int32)), .val (.int (1 : Int32)), .val (.int (4 : Int32)), .val (.int (0 : Int32)), .unset, .unset] [(.int (5 : Int32)), (.ref b158)])) rfl (by rw [hml]; rfl) (Steps.refl _) (argsL := [(.int (5 : Int32))]) (rest := []) (lenOf pd_1 rfl) rfl (by show 2 * 0 + _ ≤ _; exact Nat.le_of_eq rfl) (hb hby at_149) (fun _ _ => ⟨rfl, e168, (by decide : 3 + 0 ≤ _), (by decide : 36 + 0 ≤ _)⟩)
      dsimp only [Pt.U, Pt.locs, Pt.cells, Pt.slots] at X169 l169 y169 z169 st169 hQ169
      subst l169 y169 z169
      obtain ⟨rfl, N169q, K169, O169_0, O169_1, O169_2, O169_3, O169_4, O169_5⟩ := hQ169
      have Ab158_169 := Ab158_167.keep K169
      have Z169 : n0 ≤ T169.heap.size := Nat.le_trans Z167 K169.1
      have J169 : Fld Z T169.heap b158 "com/example/passau/passau/insertion/TwoSat" "implications" "I" (.int (4 : Int32)) := O169_3
      have N169 := Fr.app N168 N169q
      refine own_jp st169 ?_
      refine own_st (fun zw zk => XS.aloadN X169.here hx rfl (hb hby at_152) rfl rfl zk) ?_
      obtain ⟨cq170, kq170, q170a, q170b, q170c⟩ := isOf hZ rfl Ab158_169
      obtain ⟨_, _, ⟨T170, L170, k170, n170⟩, -, X170, ⟨Lc170, hQ170, l170, y170, z170⟩, st170⟩ := X169.virtualBack hx (y := (⟨"com/example/passau/passau/insertion/TwoSat", "solve", "()[Z"⟩ : MethodName)) (z := (⟨"com/example/passau/passau/insertion/TwoSat", "solve", "()[Z"⟩ : MethodName)) hown (mvT hZ (hw _ (List.mem_of_getElem? (i := 42) rfl))) (mvT hZ (hw _ (List.mem_of_getElem? (i := 43) rfl))) (notFace_of_selects (args := #[]) (mvT hZ (hw _ (List.mem_of_getElem? (i := 45) rfl)))) (mvT hZ (hw _ (List.mem_of_getElem? (i := 45) rfl))) (mvT hZ (hw _ (List.mem_of_getElem? (i := 44) rfl))) (by decide) (backOf (W := 0) (rm8 l Z a0 hw [] b158 afr159 ato159 (4 : Int32) (3 : Int32) ([(1 : Int32), (1 : Int32), (4 : Int32), (4 : Int32), (0 : Int32), (0 : Int32), (0 : Int32), (0 : Int32), (0 : Int32), (0 : Int32), (0 : Int32), (0 : Int32), (0 : Int32), (0 : Int32), (0 : Int32), (0 : Int32)]) ([(0 : Int32), (0 : Int32), (5 : Int32), (5 : Int32), (0 : Int32), (0 : Int32), (0 : Int32), (0 : Int32), (0 : Int32), (0 : Int32), (0 : Int32), (0 : Int32), (0 : Int32), (0 : Int32), (0 : Int32), (0 : Int32)]) 6 4 3 [(1 : Int32), (1 : Int32), (0 : Int32)] T169.heap n0 Z169 (O169_0) (O169_1) (O169_2) (J169) (O169_4) (O169_5) (by decide) (by decide) (by decide) (by decide) (by decide) (by decide) (by decide +kernel)) hZ (hw _ (List.mem_of_getElem? (i := 46) rfl)) (hw _ (List.mem_of_getElem? (i := 2) rfl)) (by decide) (by decide)) q170a q170c (g := (mkF m 153 #[.val (.int p0), .val (.ref b158), .val (.int (1 : Int32)), .val (.int (1 : Int32)), .val (.int (4 : Int32)), .val (.int (0 : Int32)), .unset, .unset] [(.ref b158)])) rfl (by rw [hml]; rfl) (Steps.refl _) (argsL := []) (rest := []) (lenOf pd_10 rfl) rfl (by show 2 * 0 + _ ≤ _; exact Nat.le_of_eq rfl) (hb hby at_153) (fun _ _ => ⟨rfl, rfl, (by decide : 3 + 12 ≤ _), (by decide : 36 + 189 ≤ _)⟩)
      dsimp only [Pt.U, Pt.locs, Pt.cells, Pt.slots] at X170 l170 y170 z170 st170 hQ170
      subst l170 y170 z170
      obtain ⟨b170, rfl, N170q, sz170, K170, R170_0⟩ := hQ170
      have ne_b158_b170 : b158 ≠ b170 := Nat.ne_of_lt (Nat.lt_of_lt_of_le Ab158_169.lt sz170)
      have ne_afr159_b170 : afr159 ≠ b170 := Nat.ne_of_lt (Nat.lt_of_lt_of_le O169_4.lt sz170)
      have ne_ato159_b170 : ato159 ≠ b170 := Nat.ne_of_lt (Nat.lt_of_lt_of_le O169_5.lt sz170)
      have G170 : n0 ≤ b170 := Nat.le_trans Z169 sz170
      have Ab158_170 := Ab158_169.keep K170
      have Ob158from_170 := O169_0.keep K170 nin0
      have Ob158to_170 := O169_1.keep K170 nin0
      have Ob158variables_170 := O169_2.keep K170 nin0
      have Ob158implications_170 := J169.keep K170 nin0
      have Oafr159L_170 := O169_4.keep K170 nin0
      have Oato159L_170 := O169_5.keep K170 nin0
      have Z170 : n0 ≤ T170.heap.size := Nat.le_trans Z169 K170.1
      have N170 := Fr.app N169 N170q
      refine own_jp st170 ?_
      refine own_st (fun zw zk => XS.astore X170.here hx rfl (hb hby at_156) rfl rfl rfl zk) ?_
      show own_Go p e below G (T170.setTop (mkF m 158 #[.val (.int p0), .val (.ref b158), .val (.int (1 : Int32)), .val (.int (1 : Int32)), .val (.int (4 : Int32)), .val (.int (0 : Int32)), .val (.ref b170), .unset] []))
      refine own_st (fun zw zk => XS.aload X170.here hx rfl (hb hby at_158) rfl rfl zk) ?_
      refine own_st (fun zw zk => XS.ifnonnullYes X170.here hx rfl (pc0 := 160) (pc' := 165) rfl (hb hby at_160) rfl (by decide) (by decide) zk) ?_
      refine own_st (fun zw zk => XS.aload X170.here hx rfl (hb hby at_165) rfl rfl zk) ?_
      refine own_st (fun zw zk => own_len X170 hx hZ rfl R170_0 (z := (3 : Int32)) (rfl) (g := (mkF m 167 #[.val (.int p0), .val (.ref b158), .val (.int (1 : Int32)), .val (.int (1 : Int32)), .val (.int (4 : Int32)), .val (.int (0 : Int32)), .val (.ref b170), .unset] [(.ref b170)])) rfl rfl (hb hby at_167) _ zk) ?_
      refine own_st (fun zw zk => XS.iloadN X170.here hx rfl (hb hby at_168) rfl zk) ?_
      refine own_st (fun zw zk => XS.iconst X170.here hx rfl (hb hby at_169) zk) ?_
      refine own_st (fun zw zk => XS.iadd X170.here hx rfl (hb hby at_170) rfl zk) ?_
      refine own_st (fun zw zk => XS.icmpYes X170.here hx rfl (pc0 := 171) (pc' := 176) rfl (hb hby at_171) rfl (teq (by decide : (3 : Int32) = (3 : Int32))).1 (by decide) (by decide) zk) ?_
      show own_Go p e below G (T170.setTop (mkF m 176 #[.val (.int p0), .val (.ref b158), .val (.int (1 : Int32)), .val (.int (1 : Int32)), .val (.int (4 : Int32)), .val (.int (0 : Int32)), .val (.ref b170), .unset] []))
      refine own_st (fun zw zk => XS.iload X170.here hx rfl (hb hby at_176) rfl zk) ?_
      refine own_st (fun zw zk => XS.iconst X170.here hx rfl (hb hby at_178) zk) ?_
      refine own_st (fun zw zk => XS.ishr X170.here hx rfl (hb hby at_179) rfl zk) ?_
      refine own_st (fun zw zk => XS.istore X170.here hx rfl (hb hby at_180) rfl rfl zk) ?_
      show own_Go p e below G (T170.setTop (mkF m 182 #[.val (.int p0), .val (.ref b158), .val (.int (1 : Int32)), .val (.int (1 : Int32)), .val (.int (4 : Int32)), .val (.int (0 : Int32)), .val (.ref b170), .val (.int ((4 : Int32) >>> ((1 : Int32) &&& 31)))] []))
      rw [show ((4 : Int32) >>> ((1 : Int32) &&& 31)) = (2 : Int32) from by decide]
      refine own_st (fun zw zk => XS.iload X170.here hx rfl (hb hby at_182) rfl zk) ?_
      refine own_st (fun zw zk => XS.ifNo X170.here hx rfl (hb hby at_184) rfl ((if0 _ _).trans (flt (by decide : ¬ ((2 : Int32) < (0 : Int32)))).1) zk) ?_
      refine own_st (fun zw zk => XS.iload X170.here hx rfl (hb hby at_187) rfl zk) ?_
      refine own_st (fun zw zk => XS.aload X170.here hx rfl (hb hby at_189) rfl rfl zk) ?_
      refine own_st (fun zw zk => own_len X170 hx hZ rfl R170_0 (z := (3 : Int32)) (rfl) (g := (mkF m 191 #[.val (.int p0), .val (.ref b158), .val (.int (1 : Int32)), .val (.int (1 : Int32)), .val (.int (4 : Int32)), .val (.int (0 : Int32)), .val (.ref b170), .val (.int (2 : Int32))] [(.ref b170), (.int (2 : Int32))])) rfl rfl (hb hby at_191) _ zk) ?_
      refine own_st (fun zw zk => XS.icmpYes X170.here hx rfl (pc0 := 192) (pc' := 197) rfl (hb hby at_192) rfl (tlt (by decide : (2 : Int32) < (3 : Int32))).1 (by decide) (by decide) zk) ?_
      refine own_st (fun zw zk => XS.aload X170.here hx rfl (hb hby at_197) rfl rfl zk) ?_
      refine own_st (fun zw zk => XS.iload X170.here hx rfl (hb hby at_199) rfl zk) ?_
      show own_Go p e below G (T170.setTop (mkF m 201 #[.val (.int p0), .val (.ref b158), .val (.int (1 : Int32)), .val (.int (1 : Int32)), .val (.int (4 : Int32)), .val (.int (0 : Int32)), .val (.ref b170), .val (.int (2 : Int32))] [(.int (2 : Int32)), (.ref b170)]))
      refine own_st (fun zw zk => own_zld X170 hx hZ rfl R170_0 (j := (2 : Int32)) (v := (.int (0 : Int32))) (i := 2) (by decide) (by decide) rfl (g := (mkF m 201 #[.val (.int p0), .val (.ref b158), .val (.int (1 : Int32)), .val (.int (1 : Int32)), .val (.int (4 : Int32)), .val (.int (0 : Int32)), .val (.ref b170), .val (.int (2 : Int32))] [(.int (2 : Int32)), (.ref b170)])) rfl rfl (hb hby at_201) _ zk) ?_
      refine own_st (fun zw zk => XS.iload X170.here hx rfl (hb hby at_202) rfl zk) ?_
      refine own_st (fun zw zk => XS.icmpNo X170.here hx rfl (hb hby at_204) rfl (teq (by decide : (0 : Int32) = (0 : Int32))).2 zk) ?_
      refine own_st (fun zw zk => XS.aload X170.here hx rfl (hb hby at_207) rfl rfl zk) ?_
      refine own_st (fun zw zk => XS.iconst X170.here hx rfl (hb hby at_209) zk) ?_
      refine own_st (fun zw zk => own_zld X170 hx hZ rfl R170_0 (j := (0 : Int32)) (v := (.int (1 : Int32))) (i := 0) (by decide) (by decide) rfl (g := (mkF m 210 #[.val (.int p0), .val (.ref b158), .val (.int (1 : Int32)), .val (.int (1 : Int32)), .val (.int (4 : Int32)), .val (.int (0 : Int32)), .val (.ref b170), .val (.int (2 : Int32))] [(.int (0 : Int32)), (.ref b170)])) rfl rfl (hb hby at_210) _ zk) ?_
      refine own_st (fun zw zk => XS.ifNo X170.here hx rfl (hb hby at_211) rfl ((if0 _ _).trans (feq (by decide : ¬ ((1 : Int32) = (0 : Int32)))).1) zk) ?_
      refine own_st (fun zw zk => XS.iconst X170.here hx rfl (hb hby at_214) zk) ?_
      show own_Go p e below G (T170.setTop (mkF m 215 #[.val (.int p0), .val (.ref b158), .val (.int (1 : Int32)), .val (.int (1 : Int32)), .val (.int (4 : Int32)), .val (.int (0 : Int32)), .val (.ref b170), .val (.int (2 : Int32))] [(.int (1 : Int32))]))
      refine own_st (fun zw zk => XS.goto X170.here hx rfl (pc0 := 215) (pc' := 219) rfl (hb hby at_215) (by decide) (by decide) zk) ?_
      show own_Go p e below G (T170.setTop (mkF m 219 #[.val (.int p0), .val (.ref b158), .val (.int (1 : Int32)), .val (.int (1 : Int32)), .val (.int (4 : Int32)), .val (.int (0 : Int32)), .val (.ref b170), .val (.int (2 : Int32))] [(.int (1 : Int32))]))
      subst hG
      obtain ⟨fs, hr, hrun, hended, hW, hsame⟩ := X170.leave (v := some (.int (1 : Int32))) (hlocks := Bd.notSynchronized) (fun h => by rw [Bd.returns] at h; cases h)
      refine ⟨_, retN X170 hx (t := .boolean) Bd.returns (by simp) (hb hby at_219) hr, _, hrun, hended, _, _, rfl, ?_, ⟨_, rfl⟩, hW, hsame.mono (by decide) (by decide)⟩
      show Q0 Z p0 h0 n0 _ T170.heap _
      exact ⟨rfl, N170⟩
    · refine own_st (fun zw zk => XS.ifNo X167.here hx rfl (hb hby at_119) rfl ((if0 _ _).trans (feq hc119).1) zk) ?_
      refine own_st (fun zw zk => XS.iconst X167.here hx rfl (hb hby at_122) zk) ?_
      refine own_st (fun zw zk => XS.goto X167.here hx rfl (pc0 := 123) (pc' := 127) rfl (hb hby at_123) (by decide) (by decide) zk) ?_
      show own_Go p e below G (T167.setTop (mkF m 127 #[.val (.int p0), .val (.ref b158), .val (.int (1 : Int32)), .val (.int (1 : Int32)), .val (.int (4 : Int32)), .unset, .unset, .unset] [(.int (1 : Int32))]))
      refine own_st (fun zw zk => XS.istore X167.here hx rfl (hb hby at_127) rfl rfl zk) ?_
      show own_Go p e below G (T167.setTop (mkF m 129 #[.val (.int p0), .val (.ref b158), .val (.int (1 : Int32)), .val (.int (1 : Int32)), .val (.int (4 : Int32)), .val (.int (1 : Int32)), .unset, .unset] []))
      refine own_st (fun zw zk => XS.iload X167.here hx rfl (hb hby at_129) rfl zk) ?_
      refine own_st (fun zw zk => XS.ifNo X167.here hx rfl (hb hby at_131) rfl ((if0 _ _).trans (feq (by decide : ¬ ((1 : Int32) = (0 : Int32)))).1) zk) ?_
      refine own_st (fun zw zk => XS.aloadN X167.here hx rfl (hb hby at_134) rfl rfl zk) ?_
      refine own_st (fun zw zk => XS.iload X167.here hx rfl (hb hby at_135) rfl zk) ?_
      obtain ⟨cq171, kq171, q171a, q171b, q171c⟩ := isOf hZ rfl Ab158_167
      obtain ⟨_, _, ⟨T171, L171, k171, n171⟩, -, X171, ⟨Lc171, hQ171, l171, y171, z171⟩, st171⟩ := X167.virtualBack hx (y := (⟨"com/example/passau/passau/insertion/TwoSat", "require", "(I)V"⟩ : MethodName)) (z := (⟨"com/example/passau/passau/insertion/TwoSat", "require", "(I)V"⟩ : MethodName)) hown (mvT hZ (hw _ (List.mem_of_getElem? (i := 41) rfl))) (mvT hZ (hw _ (List.mem_of_getElem? (i := 17) rfl))) (notFace_of_selects (args := #[]) (mvT hZ (hw _ (List.mem_of_getElem? (i := 19) rfl)))) (mvT hZ (hw _ (List.mem_of_getElem? (i := 19) rfl))) (mvT hZ (hw _ (List.mem_of_getElem? (i := 18) rfl))) (by decide) (backOf (W := 0) (rm3 l Z a0 hw [] b158 (4 : Int32) afr159 ato159 (2 : Int32) (3 : Int32) ([(1 : Int32), (1 : Int32), (0 : Int32), (0 : Int32), (0 : Int32), (0 : Int32), (0 : Int32), (0 : Int32), (0 : Int32), (0 : Int32), (0 : Int32), (0 : Int32), (0 : Int32), (0 : Int32), (0 : Int32), (0 : Int32)]) ([(0 : Int32), (0 : Int32), (0 : Int32), (0 : Int32), (0 : Int32), (0 : Int32), (0 : Int32), (0 : Int32), (0 : Int32), (0 : Int32), (0 : Int32), (0 : Int32), (0 : Int32), (0 : Int32), (0 : Int32), (0 : Int32)]) [(1 : Int32), (1 : Int32), (5 : Int32), (0 : Int32), (0 : Int32), (0 : Int32), (0 : Int32), (0 : Int32), (0 : Int32), (0 : Int32), (0 : Int32), (0 : Int32), (0 : Int32), (0 : Int32), (0 : Int32), (0 : Int32)] [(1 : Int32), (1 : Int32), (5 : Int32), (5 : Int32), (0 : Int32), (0 : Int32), (0 : Int32), (0 : Int32), (0 : Int32), (0 : Int32), (0 : Int32), (0 : Int32), (0 : Int32), (0 : Int32), (0 : Int32), (0 : Int32)] [(0 : Int32), (0 : Int32), (4 : Int32), (0 : Int32), (0 : Int32), (0 : Int32), (0 : Int32), (0 : Int32), (0 : Int32), (0 : Int32), (0 : Int32), (0 : Int32), (0 : Int32), (0 : Int32), (0 : Int32), (0 : Int32)] [(0 : Int32), (0 : Int32), (4 : Int32), (4 : Int32), (0 : Int32), (0 : Int32), (0 : Int32), (0 : Int32), (0 : Int32), (0 : Int32), (0 : Int32), (0 : Int32), (0 : Int32), (0 : Int32), (0 : Int32), (0 : Int32)] T167.heap n0 Z167 (Ab158_167) (O167_0) (O167_1) (J167) (O167_3) (Oafr159L_167) (Oato159L_167) (G158) (Gafr159) (Gato159) (ne_b158_afr159) (ne_b158_ato159) (P159_0) (by decide +kernel) (by decide +kernel) (by decide +kernel) (by decide +kernel) (by decide +kernel) (by decide +kernel) (by decide)) hZ (hw _ (List.mem_of_getElem? (i := 20) rfl)) (hw _ (List.mem_of_getElem? (i := 2) rfl)) (by decide) (by decide)) q171a q171c (g := (mkF m 137 #[.val (.int p0), .val (.ref b158), .val (.int (1 : Int32)), .val (.int (1 : Int32)), .val (.int (4 : Int32)), .val (.int (1 : Int32)), .unset, .unset] [(.int (4 : Int32)), (.ref b158)])) rfl (by rw [hml]; rfl) (Steps.refl _) (argsL := [(.int (4 : Int32))]) (rest := []) (lenOf pd_1 rfl) rfl (by show 2 * 0 + _ ≤ _; exact Nat.le_of_eq rfl) (hb hby at_137) (fun _ _ => ⟨rfl, rfl, (by decide : 3 + 0 ≤ _), (by decide : 36 + 0 ≤ _)⟩)
      dsimp only [Pt.U, Pt.locs, Pt.cells, Pt.slots] at X171 l171 y171 z171 st171 hQ171
      subst l171 y171 z171
      obtain ⟨rfl, N171q, K171, O171_0, O171_1, O171_2, O171_3, O171_4, O171_5⟩ := hQ171
      have Ab158_171 := Ab158_167.keep K171
      have Z171 : n0 ≤ T171.heap.size := Nat.le_trans Z167 K171.1
      have J171 : Fld Z T171.heap b158 "com/example/passau/passau/insertion/TwoSat" "implications" "I" (.int (4 : Int32)) := O171_3
      have N171 := Fr.app N167 N171q
      refine own_jp st171 ?_
      refine own_st (fun zw zk => XS.goto X171.here hx rfl (pc0 := 140) (pc' := 152) rfl (hb hby at_140) (by decide) (by decide) zk) ?_
      show own_Go p e below G (T171.setTop (mkF m 152 #[.val (.int p0), .val (.ref b158), .val (.int (1 : Int32)), .val (.int (1 : Int32)), .val (.int (4 : Int32)), .val (.int (1 : Int32)), .unset, .unset] []))
      refine own_st (fun zw zk => XS.aloadN X171.here hx rfl (hb hby at_152) rfl rfl zk) ?_
      obtain ⟨cq172, kq172, q172a, q172b, q172c⟩ := isOf hZ rfl Ab158_171
      obtain ⟨_, _, ⟨T172, L172, k172, n172⟩, -, X172, ⟨Lc172, hQ172, l172, y172, z172⟩, st172⟩ := X171.virtualBack hx (y := (⟨"com/example/passau/passau/insertion/TwoSat", "solve", "()[Z"⟩ : MethodName)) (z := (⟨"com/example/passau/passau/insertion/TwoSat", "solve", "()[Z"⟩ : MethodName)) hown (mvT hZ (hw _ (List.mem_of_getElem? (i := 42) rfl))) (mvT hZ (hw _ (List.mem_of_getElem? (i := 43) rfl))) (notFace_of_selects (args := #[]) (mvT hZ (hw _ (List.mem_of_getElem? (i := 45) rfl)))) (mvT hZ (hw _ (List.mem_of_getElem? (i := 45) rfl))) (mvT hZ (hw _ (List.mem_of_getElem? (i := 44) rfl))) (by decide) (backOf (W := 0) (rm8 l Z a0 hw [] b158 afr159 ato159 (4 : Int32) (3 : Int32) ([(1 : Int32), (1 : Int32), (5 : Int32), (5 : Int32), (0 : Int32), (0 : Int32), (0 : Int32), (0 : Int32), (0 : Int32), (0 : Int32), (0 : Int32), (0 : Int32), (0 : Int32), (0 : Int32), (0 : Int32), (0 : Int32)]) ([(0 : Int32), (0 : Int32), (4 : Int32), (4 : Int32), (0 : Int32), (0 : Int32), (0 : Int32), (0 : Int32), (0 : Int32), (0 : Int32), (0 : Int32), (0 : Int32), (0 : Int32), (0 : Int32), (0 : Int32), (0 : Int32)]) 6 4 3 [(1 : Int32), (1 : Int32), (1 : Int32)] T171.heap n0 Z171 (O171_0) (O171_1) (O171_2) (J171) (O171_4) (O171_5) (by decide) (by decide) (by decide) (by decide) (by decide) (by decide) (by decide +kernel)) hZ (hw _ (List.mem_of_getElem? (i := 46) rfl)) (hw _ (List.mem_of_getElem? (i := 2) rfl)) (by decide) (by decide)) q172a q172c (g := (mkF m 153 #[.val (.int p0), .val (.ref b158), .val (.int (1 : Int32)), .val (.int (1 : Int32)), .val (.int (4 : Int32)), .val (.int (1 : Int32)), .unset, .unset] [(.ref b158)])) rfl (by rw [hml]; rfl) (Steps.refl _) (argsL := []) (rest := []) (lenOf pd_10 rfl) rfl (by show 2 * 0 + _ ≤ _; exact Nat.le_of_eq rfl) (hb hby at_153) (fun _ _ => ⟨rfl, rfl, (by decide : 3 + 12 ≤ _), (by decide : 36 + 189 ≤ _)⟩)
      dsimp only [Pt.U, Pt.locs, Pt.cells, Pt.slots] at X172 l172 y172 z172 st172 hQ172
      subst l172 y172 z172
      obtain ⟨b172, rfl, N172q, sz172, K172, R172_0⟩ := hQ172
      have ne_b158_b172 : b158 ≠ b172 := Nat.ne_of_lt (Nat.lt_of_lt_of_le Ab158_171.lt sz172)
      have ne_afr159_b172 : afr159 ≠ b172 := Nat.ne_of_lt (Nat.lt_of_lt_of_le O171_4.lt sz172)
      have ne_ato159_b172 : ato159 ≠ b172 := Nat.ne_of_lt (Nat.lt_of_lt_of_le O171_5.lt sz172)
      have G172 : n0 ≤ b172 := Nat.le_trans Z171 sz172
      have Ab158_172 := Ab158_171.keep K172
      have Ob158from_172 := O171_0.keep K172 nin0
      have Ob158to_172 := O171_1.keep K172 nin0
      have Ob158variables_172 := O171_2.keep K172 nin0
      have Ob158implications_172 := J171.keep K172 nin0
      have Oafr159L_172 := O171_4.keep K172 nin0
      have Oato159L_172 := O171_5.keep K172 nin0
      have Z172 : n0 ≤ T172.heap.size := Nat.le_trans Z171 K172.1
      have N172 := Fr.app N171 N172q
      refine own_jp st172 ?_
      refine own_st (fun zw zk => XS.astore X172.here hx rfl (hb hby at_156) rfl rfl rfl zk) ?_
      show own_Go p e below G (T172.setTop (mkF m 158 #[.val (.int p0), .val (.ref b158), .val (.int (1 : Int32)), .val (.int (1 : Int32)), .val (.int (4 : Int32)), .val (.int (1 : Int32)), .val (.ref b172), .unset] []))
      refine own_st (fun zw zk => XS.aload X172.here hx rfl (hb hby at_158) rfl rfl zk) ?_
      refine own_st (fun zw zk => XS.ifnonnullYes X172.here hx rfl (pc0 := 160) (pc' := 165) rfl (hb hby at_160) rfl (by decide) (by decide) zk) ?_
      refine own_st (fun zw zk => XS.aload X172.here hx rfl (hb hby at_165) rfl rfl zk) ?_
      refine own_st (fun zw zk => own_len X172 hx hZ rfl R172_0 (z := (3 : Int32)) (rfl) (g := (mkF m 167 #[.val (.int p0), .val (.ref b158), .val (.int (1 : Int32)), .val (.int (1 : Int32)), .val (.int (4 : Int32)), .val (.int (1 : Int32)), .val (.ref b172), .unset] [(.ref b172)])) rfl rfl (hb hby at_167) _ zk) ?_
      refine own_st (fun zw zk => XS.iloadN X172.here hx rfl (hb hby at_168) rfl zk) ?_
      refine own_st (fun zw zk => XS.iconst X172.here hx rfl (hb hby at_169) zk) ?_
      refine own_st (fun zw zk => XS.iadd X172.here hx rfl (hb hby at_170) rfl zk) ?_
      refine own_st (fun zw zk => XS.icmpYes X172.here hx rfl (pc0 := 171) (pc' := 176) rfl (hb hby at_171) rfl (teq (by decide : (3 : Int32) = (3 : Int32))).1 (by decide) (by decide) zk) ?_
      show own_Go p e below G (T172.setTop (mkF m 176 #[.val (.int p0), .val (.ref b158), .val (.int (1 : Int32)), .val (.int (1 : Int32)), .val (.int (4 : Int32)), .val (.int (1 : Int32)), .val (.ref b172), .unset] []))
      refine own_st (fun zw zk => XS.iload X172.here hx rfl (hb hby at_176) rfl zk) ?_
      refine own_st (fun zw zk => XS.iconst X172.here hx rfl (hb hby at_178) zk) ?_
      refine own_st (fun zw zk => XS.ishr X172.here hx rfl (hb hby at_179) rfl zk) ?_
      refine own_st (fun zw zk => XS.istore X172.here hx rfl (hb hby at_180) rfl rfl zk) ?_
      show own_Go p e below G (T172.setTop (mkF m 182 #[.val (.int p0), .val (.ref b158), .val (.int (1 : Int32)), .val (.int (1 : Int32)), .val (.int (4 : Int32)), .val (.int (1 : Int32)), .val (.ref b172), .val (.int ((4 : Int32) >>> ((1 : Int32) &&& 31)))] []))
      rw [show ((4 : Int32) >>> ((1 : Int32) &&& 31)) = (2 : Int32) from by decide]
      refine own_st (fun zw zk => XS.iload X172.here hx rfl (hb hby at_182) rfl zk) ?_
      refine own_st (fun zw zk => XS.ifNo X172.here hx rfl (hb hby at_184) rfl ((if0 _ _).trans (flt (by decide : ¬ ((2 : Int32) < (0 : Int32)))).1) zk) ?_
      refine own_st (fun zw zk => XS.iload X172.here hx rfl (hb hby at_187) rfl zk) ?_
      refine own_st (fun zw zk => XS.aload X172.here hx rfl (hb hby at_189) rfl rfl zk) ?_
      refine own_st (fun zw zk => own_len X172 hx hZ rfl R172_0 (z := (3 : Int32)) (rfl) (g := (mkF m 191 #[.val (.int p0), .val (.ref b158), .val (.int (1 : Int32)), .val (.int (1 : Int32)), .val (.int (4 : Int32)), .val (.int (1 : Int32)), .val (.ref b172), .val (.int (2 : Int32))] [(.ref b172), (.int (2 : Int32))])) rfl rfl (hb hby at_191) _ zk) ?_
      refine own_st (fun zw zk => XS.icmpYes X172.here hx rfl (pc0 := 192) (pc' := 197) rfl (hb hby at_192) rfl (tlt (by decide : (2 : Int32) < (3 : Int32))).1 (by decide) (by decide) zk) ?_
      refine own_st (fun zw zk => XS.aload X172.here hx rfl (hb hby at_197) rfl rfl zk) ?_
      refine own_st (fun zw zk => XS.iload X172.here hx rfl (hb hby at_199) rfl zk) ?_
      show own_Go p e below G (T172.setTop (mkF m 201 #[.val (.int p0), .val (.ref b158), .val (.int (1 : Int32)), .val (.int (1 : Int32)), .val (.int (4 : Int32)), .val (.int (1 : Int32)), .val (.ref b172), .val (.int (2 : Int32))] [(.int (2 : Int32)), (.ref b172)]))
      refine own_st (fun zw zk => own_zld X172 hx hZ rfl R172_0 (j := (2 : Int32)) (v := (.int (1 : Int32))) (i := 2) (by decide) (by decide) rfl (g := (mkF m 201 #[.val (.int p0), .val (.ref b158), .val (.int (1 : Int32)), .val (.int (1 : Int32)), .val (.int (4 : Int32)), .val (.int (1 : Int32)), .val (.ref b172), .val (.int (2 : Int32))] [(.int (2 : Int32)), (.ref b172)])) rfl rfl (hb hby at_201) _ zk) ?_
      refine own_st (fun zw zk => XS.iload X172.here hx rfl (hb hby at_202) rfl zk) ?_
      refine own_st (fun zw zk => XS.icmpNo X172.here hx rfl (hb hby at_204) rfl (teq (by decide : (1 : Int32) = (1 : Int32))).2 zk) ?_
      refine own_st (fun zw zk => XS.aload X172.here hx rfl (hb hby at_207) rfl rfl zk) ?_
      refine own_st (fun zw zk => XS.iconst X172.here hx rfl (hb hby at_209) zk) ?_
      refine own_st (fun zw zk => own_zld X172 hx hZ rfl R172_0 (j := (0 : Int32)) (v := (.int (1 : Int32))) (i := 0) (by decide) (by decide) rfl (g := (mkF m 210 #[.val (.int p0), .val (.ref b158), .val (.int (1 : Int32)), .val (.int (1 : Int32)), .val (.int (4 : Int32)), .val (.int (1 : Int32)), .val (.ref b172), .val (.int (2 : Int32))] [(.int (0 : Int32)), (.ref b172)])) rfl rfl (hb hby at_210) _ zk) ?_
      refine own_st (fun zw zk => XS.ifNo X172.here hx rfl (hb hby at_211) rfl ((if0 _ _).trans (feq (by decide : ¬ ((1 : Int32) = (0 : Int32)))).1) zk) ?_
      refine own_st (fun zw zk => XS.iconst X172.here hx rfl (hb hby at_214) zk) ?_
      show own_Go p e below G (T172.setTop (mkF m 215 #[.val (.int p0), .val (.ref b158), .val (.int (1 : Int32)), .val (.int (1 : Int32)), .val (.int (4 : Int32)), .val (.int (1 : Int32)), .val (.ref b172), .val (.int (2 : Int32))] [(.int (1 : Int32))]))
      refine own_st (fun zw zk => XS.goto X172.here hx rfl (pc0 := 215) (pc' := 219) rfl (hb hby at_215) (by decide) (by decide) zk) ?_
      show own_Go p e below G (T172.setTop (mkF m 219 #[.val (.int p0), .val (.ref b158), .val (.int (1 : Int32)), .val (.int (1 : Int32)), .val (.int (4 : Int32)), .val (.int (1 : Int32)), .val (.ref b172), .val (.int (2 : Int32))] [(.int (1 : Int32))]))
      subst hG
      obtain ⟨fs, hr, hrun, hended, hW, hsame⟩ := X172.leave (v := some (.int (1 : Int32))) (hlocks := Bd.notSynchronized) (fun h => by rw [Bd.returns] at h; cases h)
      refine ⟨_, retN X172 hx (t := .boolean) Bd.returns (by simp) (hb hby at_219) hr, _, hrun, hended, _, _, rfl, ?_, ⟨_, rfl⟩, hW, hsame.mono (by decide) (by decide)⟩
      show Q0 Z p0 h0 n0 _ T172.heap _
      exact ⟨rfl, N172⟩
  · refine own_st (fun zw zk => XS.iconst X159.here hx rfl (hb hby at_12) zk) ?_
    refine own_st (fun zw zk => XS.istoreN X159.here hx rfl (hb hby at_13) rfl rfl zk) ?_
    show own_Go p e below G (T159.setTop (mkF m 14 #[.val (.int p0), .val (.ref b158), .val (.int (2 : Int32)), .val (.int (1 : Int32)), .unset, .unset, .unset, .unset] []))
    refine own_st (fun zw zk => XS.iloadN X159.here hx rfl (hb hby at_14) rfl zk) ?_
    refine own_st (fun zw zk => XS.iconst X159.here hx rfl (hb hby at_15) zk) ?_
    refine own_st (fun zw zk => XS.icmpNo X159.here hx rfl (hb hby at_16) rfl (flt (by decide : ¬ ((2 : Int32) < (1 : Int32)))).1 zk) ?_
    refine own_st (fun zw zk => XS.iloadN X159.here hx rfl (hb hby at_19) rfl zk) ?_
    refine own_st (fun zw zk => XS.ifNo X159.here hx rfl (hb hby at_20) rfl ((if0 _ _).trans (feq (by decide : ¬ ((1 : Int32) = (0 : Int32)))).1) zk) ?_
    refine own_st (fun zw zk => XS.aloadN X159.here hx rfl (hb hby at_23) rfl rfl zk) ?_
    obtain ⟨cq173, kq173, q173a, q173b, q173c⟩ := isOf hZ rfl Ab158_159
    obtain ⟨_, _, ⟨T173, L173, k173, n173⟩, -, X173, ⟨Lc173, hQ173, l173, y173, z173⟩, st173⟩ := X159.virtualBack hx (y := (⟨"com/example/passau/passau/insertion/TwoSat", "variable", "()I"⟩ : MethodName)) (z := (⟨"com/example/passau/passau/insertion/TwoSat", "variable", "()I"⟩ : MethodName)) hown (mvT hZ (hw _ (List.mem_of_getElem? (i := 35) rfl))) (mvT hZ (hw _ (List.mem_of_getElem? (i := 36) rfl))) (notFace_of_selects (args := #[]) (mvT hZ (hw _ (List.mem_of_getElem? (i := 38) rfl)))) (mvT hZ (hw _ (List.mem_of_getElem? (i := 38) rfl))) (mvT hZ (hw _ (List.mem_of_getElem? (i := 37) rfl))) (by decide) (backOf (W := 0) (rm7 l Z a0 hw [] b158 afr159 ato159 (2 : Int32) (1 : Int32) T159.heap n0 Z159 (Ab158_159) (O159_0) (O159_1) (O159_2) (O159_3) (G158)) hZ (hw _ (List.mem_of_getElem? (i := 39) rfl)) (hw _ (List.mem_of_getElem? (i := 2) rfl)) (by decide) (by decide)) q173a q173c (g := (mkF m 24 #[.val (.int p0), .val (.ref b158), .val (.int (2 : Int32)), .val (.int (1 : Int32)), .unset, .unset, .unset, .unset] [(.ref b158)])) rfl (by rw [hml]; rfl) (Steps.refl _) (argsL := []) (rest := []) (lenOf pd_9 rfl) rfl (by show 2 * 0 + _ ≤ _; exact Nat.le_of_eq rfl) (hb hby at_24) (fun _ _ => ⟨rfl, rfl, (by decide : 3 + 0 ≤ _), (by decide : 36 + 0 ≤ _)⟩)
    dsimp only [Pt.U, Pt.locs, Pt.cells, Pt.slots] at X173 l173 y173 z173 st173 hQ173
    subst l173 y173 z173
    obtain ⟨rfl, N173q, K173, O173_0, O173_1, O173_2, O173_3⟩ := hQ173
    have Ab158_173 := Ab158_159.keep K173
    have Oafr159L_173 := O159_4.keep K173 (ninS (Ne.symm ne_b158_afr159) nin0)
    have Oato159L_173 := O159_5.keep K173 (ninS (Ne.symm ne_b158_ato159) nin0)
    have Z173 : n0 ≤ T173.heap.size := Nat.le_trans Z159 K173.1
    have J173 : Fld Z T173.heap b158 "com/example/passau/passau/insertion/TwoSat" "variables" "I" (.int (2 : Int32)) := O173_2
    have N173 := Fr.app N159 N173q
    refine own_jp st173 ?_
    refine own_st (fun zw zk => XS.iconst X173.here hx rfl (hb hby at_27) zk) ?_
    show own_Go p e below G (T173.setTop (mkF m 28 #[.val (.int p0), .val (.ref b158), .val (.int (2 : Int32)), .val (.int (1 : Int32)), .unset, .unset, .unset, .unset] [(.int (2 : Int32)), (.int (2 : Int32))]))
    refine own_st (fun zw zk => XS.icmpNo X173.here hx rfl (hb hby at_28) rfl (teq (by decide : (2 : Int32) = (2 : Int32))).2 zk) ?_
    refine own_st (fun zw zk => XS.iconst X173.here hx rfl (hb hby at_31) zk) ?_
    refine own_st (fun zw zk => XS.goto X173.here hx rfl (pc0 := 32) (pc' := 36) rfl (hb hby at_32) (by decide) (by decide) zk) ?_
    show own_Go p e below G (T173.setTop (mkF m 36 #[.val (.int p0), .val (.ref b158), .val (.int (2 : Int32)), .val (.int (1 : Int32)), .unset, .unset, .unset, .unset] [(.int (1 : Int32))]))
    refine own_st (fun zw zk => XS.istoreN X173.here hx rfl (hb hby at_36) rfl rfl zk) ?_
    show own_Go p e below G (T173.setTop (mkF m 37 #[.val (.int p0), .val (.ref b158), .val (.int (2 : Int32)), .val (.int (1 : Int32)), .unset, .unset, .unset, .unset] []))
    refine own_st (fun zw zk => XS.iloadN X173.here hx rfl (hb hby at_37) rfl zk) ?_
    refine own_st (fun zw zk => XS.iconst X173.here hx rfl (hb hby at_38) zk) ?_
    refine own_st (fun zw zk => XS.icmpNo X173.here hx rfl (hb hby at_39) rfl (flt (by decide : ¬ ((2 : Int32) < (2 : Int32)))).1 zk) ?_
    refine own_st (fun zw zk => XS.iloadN X173.here hx rfl (hb hby at_42) rfl zk) ?_
    refine own_st (fun zw zk => XS.ifNo X173.here hx rfl (hb hby at_43) rfl ((if0 _ _).trans (feq (by decide : ¬ ((1 : Int32) = (0 : Int32)))).1) zk) ?_
    refine own_st (fun zw zk => XS.aloadN X173.here hx rfl (hb hby at_46) rfl rfl zk) ?_
    obtain ⟨cq174, kq174, q174a, q174b, q174c⟩ := isOf hZ rfl Ab158_173
    obtain ⟨_, _, ⟨T174, L174, k174, n174⟩, -, X174, ⟨Lc174, hQ174, l174, y174, z174⟩, st174⟩ := X173.virtualBack hx (y := (⟨"com/example/passau/passau/insertion/TwoSat", "variable", "()I"⟩ : MethodName)) (z := (⟨"com/example/passau/passau/insertion/TwoSat", "variable", "()I"⟩ : MethodName)) hown (mvT hZ (hw _ (List.mem_of_getElem? (i := 35) rfl))) (mvT hZ (hw _ (List.mem_of_getElem? (i := 36) rfl))) (notFace_of_selects (args := #[]) (mvT hZ (hw _ (List.mem_of_getElem? (i := 38) rfl)))) (mvT hZ (hw _ (List.mem_of_getElem? (i := 38) rfl))) (mvT hZ (hw _ (List.mem_of_getElem? (i := 37) rfl))) (by decide) (backOf (W := 0) (rm7 l Z a0 hw [] b158 afr159 ato159 (2 : Int32) (2 : Int32) T173.heap n0 Z173 (Ab158_173) (O173_0) (O173_1) (J173) (O173_3) (G158)) hZ (hw _ (List.mem_of_getElem? (i := 39) rfl)) (hw _ (List.mem_of_getElem? (i := 2) rfl)) (by decide) (by decide)) q174a q174c (g := (mkF m 47 #[.val (.int p0), .val (.ref b158), .val (.int (2 : Int32)), .val (.int (1 : Int32)), .unset, .unset, .unset, .unset] [(.ref b158)])) rfl (by rw [hml]; rfl) (Steps.refl _) (argsL := []) (rest := []) (lenOf pd_9 rfl) rfl (by show 2 * 0 + _ ≤ _; exact Nat.le_of_eq rfl) (hb hby at_47) (fun _ _ => ⟨rfl, rfl, (by decide : 3 + 0 ≤ _), (by decide : 36 + 0 ≤ _)⟩)
    dsimp only [Pt.U, Pt.locs, Pt.cells, Pt.slots] at X174 l174 y174 z174 st174 hQ174
    subst l174 y174 z174
    obtain ⟨rfl, N174q, K174, O174_0, O174_1, O174_2, O174_3⟩ := hQ174
    have Ab158_174 := Ab158_173.keep K174
    have Oafr159L_174 := Oafr159L_173.keep K174 (ninS (Ne.symm ne_b158_afr159) nin0)
    have Oato159L_174 := Oato159L_173.keep K174 (ninS (Ne.symm ne_b158_ato159) nin0)
    have Z174 : n0 ≤ T174.heap.size := Nat.le_trans Z173 K174.1
    have J174 : Fld Z T174.heap b158 "com/example/passau/passau/insertion/TwoSat" "variables" "I" (.int (3 : Int32)) := O174_2
    have N174 := Fr.app N173 N174q
    refine own_jp st174 ?_
    refine own_st (fun zw zk => XS.iconst X174.here hx rfl (hb hby at_50) zk) ?_
    show own_Go p e below G (T174.setTop (mkF m 51 #[.val (.int p0), .val (.ref b158), .val (.int (2 : Int32)), .val (.int (1 : Int32)), .unset, .unset, .unset, .unset] [(.int (4 : Int32)), (.int (4 : Int32))]))
    refine own_st (fun zw zk => XS.icmpNo X174.here hx rfl (hb hby at_51) rfl (teq (by decide : (4 : Int32) = (4 : Int32))).2 zk) ?_
    refine own_st (fun zw zk => XS.iconst X174.here hx rfl (hb hby at_54) zk) ?_
    refine own_st (fun zw zk => XS.goto X174.here hx rfl (pc0 := 55) (pc' := 59) rfl (hb hby at_55) (by decide) (by decide) zk) ?_
    show own_Go p e below G (T174.setTop (mkF m 59 #[.val (.int p0), .val (.ref b158), .val (.int (2 : Int32)), .val (.int (1 : Int32)), .unset, .unset, .unset, .unset] [(.int (1 : Int32))]))
    refine own_st (fun zw zk => XS.istoreN X174.here hx rfl (hb hby at_59) rfl rfl zk) ?_
    show own_Go p e below G (T174.setTop (mkF m 60 #[.val (.int p0), .val (.ref b158), .val (.int (2 : Int32)), .val (.int (1 : Int32)), .unset, .unset, .unset, .unset] []))
    refine own_st (fun zw zk => XS.iloadN X174.here hx rfl (hb hby at_60) rfl zk) ?_
    refine own_st (fun zw zk => XS.iconst X174.here hx rfl (hb hby at_61) zk) ?_
    refine own_st (fun zw zk => XS.icmpYes X174.here hx rfl (pc0 := 62) (pc' := 84) rfl (hb hby at_62) rfl (tlt (by decide : (2 : Int32) < (3 : Int32))).1 (by decide) (by decide) zk) ?_
    refine own_st (fun zw zk => XS.aloadN X174.here hx rfl (hb hby at_84) rfl rfl zk) ?_
    obtain ⟨cq175, kq175, q175a, q175b, q175c⟩ := isOf hZ rfl Ab158_174
    obtain ⟨_, _, ⟨T175, L175, k175, n175⟩, -, X175, ⟨Lc175, hQ175, l175, y175, z175⟩, st175⟩ := X174.virtualBack hx (y := (⟨"com/example/passau/passau/insertion/TwoSat", "variable", "()I"⟩ : MethodName)) (z := (⟨"com/example/passau/passau/insertion/TwoSat", "variable", "()I"⟩ : MethodName)) hown (mvT hZ (hw _ (List.mem_of_getElem? (i := 35) rfl))) (mvT hZ (hw _ (List.mem_of_getElem? (i := 36) rfl))) (notFace_of_selects (args := #[]) (mvT hZ (hw _ (List.mem_of_getElem? (i := 38) rfl)))) (mvT hZ (hw _ (List.mem_of_getElem? (i := 38) rfl))) (mvT hZ (hw _ (List.mem_of_getElem? (i := 37) rfl))) (by decide) (backOf (W := 0) (rm7 l Z a0 hw [] b158 afr159 ato159 (2 : Int32) (3 : Int32) T174.heap n0 Z174 (Ab158_174) (O174_0) (O174_1) (J174) (O174_3) (G158)) hZ (hw _ (List.mem_of_getElem? (i := 39) rfl)) (hw _ (List.mem_of_getElem? (i := 2) rfl)) (by decide) (by decide)) q175a q175c (g := (mkF m 85 #[.val (.int p0), .val (.ref b158), .val (.int (2 : Int32)), .val (.int (1 : Int32)), .unset, .unset, .unset, .unset] [(.ref b158)])) rfl (by rw [hml]; rfl) (Steps.refl _) (argsL := []) (rest := []) (lenOf pd_9 rfl) rfl (by show 2 * 0 + _ ≤ _; exact Nat.le_of_eq rfl) (hb hby at_85) (fun _ _ => ⟨rfl, rfl, (by decide : 3 + 0 ≤ _), (by decide : 36 + 0 ≤ _)⟩)
    dsimp only [Pt.U, Pt.locs, Pt.cells, Pt.slots] at X175 l175 y175 z175 st175 hQ175
    subst l175 y175 z175
    obtain ⟨rfl, N175q, K175, O175_0, O175_1, O175_2, O175_3⟩ := hQ175
    have Ab158_175 := Ab158_174.keep K175
    have Oafr159L_175 := Oafr159L_174.keep K175 (ninS (Ne.symm ne_b158_afr159) nin0)
    have Oato159L_175 := Oato159L_174.keep K175 (ninS (Ne.symm ne_b158_ato159) nin0)
    have Z175 : n0 ≤ T175.heap.size := Nat.le_trans Z174 K175.1
    have J175 : Fld Z T175.heap b158 "com/example/passau/passau/insertion/TwoSat" "variables" "I" (.int (4 : Int32)) := O175_2
    have N175 := Fr.app N174 N175q
    refine own_jp st175 ?_
    refine own_st (fun zw zk => XS.istore X175.here hx rfl (hb hby at_88) rfl rfl zk) ?_
    show own_Go p e below G (T175.setTop (mkF m 90 #[.val (.int p0), .val (.ref b158), .val (.int (2 : Int32)), .val (.int (1 : Int32)), .val (.int (6 : Int32)), .unset, .unset, .unset] []))
    refine own_st (fun zw zk => XS.iloadN X175.here hx rfl (hb hby at_90) rfl zk) ?_
    refine own_st (fun zw zk => XS.ifNo X175.here hx rfl (hb hby at_91) rfl ((if0 _ _).trans (feq (by decide : ¬ ((1 : Int32) = (0 : Int32)))).1) zk) ?_
    refine own_st (fun zw zk => XS.iload X175.here hx rfl (hb hby at_94) rfl zk) ?_
    refine own_st (fun zw zk => XS.iconst X175.here hx rfl (hb hby at_96) zk) ?_
    refine own_st (fun zw zk => XS.iloadN X175.here hx rfl (hb hby at_97) rfl zk) ?_
    refine own_st (fun zw zk => XS.iconst X175.here hx rfl (hb hby at_98) zk) ?_
    refine own_st (fun zw zk => XS.iadd X175.here hx rfl (hb hby at_99) rfl zk) ?_
    refine own_st (fun zw zk => XS.imul X175.here hx rfl (hb hby at_100) rfl zk) ?_
    show own_Go p e below G (T175.setTop (mkF m 101 #[.val (.int p0), .val (.ref b158), .val (.int (2 : Int32)), .val (.int (1 : Int32)), .val (.int (6 : Int32)), .unset, .unset, .unset] [(.int (6 : Int32)), (.int (6 : Int32))]))
    refine own_st (fun zw zk => XS.icmpNo X175.here hx rfl (hb hby at_101) rfl (teq (by decide : (6 : Int32) = (6 : Int32))).2 zk) ?_
    refine own_st (fun zw zk => XS.iconst X175.here hx rfl (hb hby at_104) zk) ?_
    refine own_st (fun zw zk => XS.goto X175.here hx rfl (pc0 := 105) (pc' := 109) rfl (hb hby at_105) (by decide) (by decide) zk) ?_
    show own_Go p e below G (T175.setTop (mkF m 109 #[.val (.int p0), .val (.ref b158), .val (.int (2 : Int32)), .val (.int (1 : Int32)), .val (.int (6 : Int32)), .unset, .unset, .unset] [(.int (1 : Int32))]))
    refine own_st (fun zw zk => XS.istoreN X175.here hx rfl (hb hby at_109) rfl rfl zk) ?_
    show own_Go p e below G (T175.setTop (mkF m 110 #[.val (.int p0), .val (.ref b158), .val (.int (2 : Int32)), .val (.int (1 : Int32)), .val (.int (6 : Int32)), .unset, .unset, .unset] []))
    refine own_st (fun zw zk => XS.iloadN X175.here hx rfl (hb hby at_110) rfl zk) ?_
    refine own_st (fun zw zk => XS.ifYes X175.here hx rfl (pc0 := 111) (pc' := 116) rfl (hb hby at_111) rfl ((if0 _ _).trans (feq (by decide : ¬ ((1 : Int32) = (0 : Int32)))).2) (by decide) (by decide) zk) ?_
    refine own_st (fun zw zk => XS.iloadN X175.here hx rfl (hb hby at_116) rfl zk) ?_
    refine own_st (fun zw zk => XS.iconst X175.here hx rfl (hb hby at_117) zk) ?_
    refine own_st (fun zw zk => XS.iand X175.here hx rfl (hb hby at_118) rfl zk) ?_
    by_cases hc119 : (p0 &&& (4 : Int32)) = (0 : Int32)
    · refine own_st (fun zw zk => XS.ifYes X175.here hx rfl (pc0 := 119) (pc' := 126) rfl (hb hby at_119) rfl ((if0 _ _).trans (teq hc119).1) (by decide) (by decide) zk) ?_
      refine own_st (fun zw zk => XS.iconst X175.here hx rfl (hb hby at_126) zk) ?_
      refine own_st (fun zw zk => XS.istore X175.here hx rfl (hb hby at_127) rfl rfl zk) ?_
      show own_Go p e below G (T175.setTop (mkF m 129 #[.val (.int p0), .val (.ref b158), .val (.int (2 : Int32)), .val (.int (1 : Int32)), .val (.int (6 : Int32)), .val (.int (0 : Int32)), .unset, .unset] []))
      refine own_st (fun zw zk => XS.iload X175.here hx rfl (hb hby at_129) rfl zk) ?_
      refine own_st (fun zw zk => XS.ifYes X175.here hx rfl (pc0 := 131) (pc' := 143) rfl (hb hby at_131) rfl ((if0 _ _).trans (teq (by decide : (0 : Int32) = (0 : Int32))).1) (by decide) (by decide) zk) ?_
      refine own_st (fun zw zk => XS.aloadN X175.here hx rfl (hb hby at_143) rfl rfl zk) ?_
      refine own_st (fun zw zk => XS.iload X175.here hx rfl (hb hby at_144) rfl zk) ?_
      obtain ⟨_, _, ⟨T176, L176, k176, n176⟩, -, X176, ⟨Lc176, hQ176, l176, y176, z176⟩, st176⟩ := Jvm.LawKit.callS X175 hx (y := (⟨"com/example/passau/passau/insertion/TwoSat", "not", "(I)I"⟩ : MethodName)) hown (mvT hZ (hw _ (List.mem_of_getElem? (i := 40) rfl))) (mvT hZ (hw _ (List.mem_of_getElem? (i := 27) rfl))) (mvT hZ (hw _ (List.mem_of_getElem? (i := 2) rfl))) (mvT hZ (hw _ (List.mem_of_getElem? (i := 28) rfl))) (by decide) (backOf (W := 1) (rm5 l Z a0 hw [] (6 : Int32) T175.heap n0 Z175) hZ (hw _ (List.mem_of_getElem? (i := 28) rfl)) (hw _ (List.mem_of_getElem? (i := 2) rfl)) (by decide) (by decide)) (g := (mkF m 146 #[.val (.int p0), .val (.ref b158), .val (.int (2 : Int32)), .val (.int (1 : Int32)), .val (.int (6 : Int32)), .val (.int (0 : Int32)), .unset, .unset] [(.int (6 : Int32)), (.ref b158)])) rfl (by rw [hml]; rfl) (argsL := [(.int (6 : Int32))]) (rest := [(.ref b158)]) (lenOf pd_4 rfl) rfl (by show 2 * 0 + _ ≤ _; exact Nat.le_of_eq rfl) (hb hby at_146) (fun _ _ => ⟨rfl, rfl, (by decide : 3 + 0 ≤ _), (by decide : 36 + 0 ≤ _)⟩)
      dsimp only [Pt.U, Pt.locs, Pt.cells, Pt.slots] at X176 l176 y176 z176 st176 hQ176
      subst l176 y176 z176
      obtain ⟨rfl, N176q, e176⟩ := hQ176
      have N176 := Fr.app N175 N176q
      refine own_st (fun zw zk => st176 zw zk) ?_
      show own_Go p e below G (T176.setTop (mkF m 149 #[.val (.int p0), .val (.ref b158), .val (.int (2 : Int32)), .val (.int (1 : Int32)), .val (.int (6 : Int32)), .val (.int (0 : Int32)), .unset, .unset] [(.int (own_not (6 : Int32))), (.ref b158)]))
      rw [show (own_not (6 : Int32)) = (7 : Int32) from by decide]
      obtain ⟨cq177, kq177, q177a, q177b, q177c⟩ := isOf hZ e176 Ab158_175
      obtain ⟨_, _, ⟨T177, L177, k177, n177⟩, -, X177, ⟨Lc177, hQ177, l177, y177, z177⟩, st177⟩ := X176.virtualBack hx (y := (⟨"com/example/passau/passau/insertion/TwoSat", "require", "(I)V"⟩ : MethodName)) (z := (⟨"com/example/passau/passau/insertion/TwoSat", "require", "(I)V"⟩ : MethodName)) hown (mvT hZ (hw _ (List.mem_of_getElem? (i := 41) rfl))) (mvT hZ (hw _ (List.mem_of_getElem? (i := 17) rfl))) (notFace_of_selects (args := #[]) (mvT hZ (hw _ (List.mem_of_getElem? (i := 19) rfl)))) (mvT hZ (hw _ (List.mem_of_getElem? (i := 19) rfl))) (mvT hZ (hw _ (List.mem_of_getElem? (i := 18) rfl))) (by decide) (backOf (W := 0) (rm3 l Z a0 hw [] b158 (7 : Int32) afr159 ato159 (2 : Int32) (4 : Int32) ([(1 : Int32), (1 : Int32), (0 : Int32), (0 : Int32), (0 : Int32), (0 : Int32), (0 : Int32), (0 : Int32), (0 : Int32), (0 : Int32), (0 : Int32), (0 : Int32), (0 : Int32), (0 : Int32), (0 : Int32), (0 : Int32)]) ([(0 : Int32), (0 : Int32), (0 : Int32), (0 : Int32), (0 : Int32), (0 : Int32), (0 : Int32), (0 : Int32), (0 : Int32), (0 : Int32), (0 : Int32), (0 : Int32), (0 : Int32), (0 : Int32), (0 : Int32), (0 : Int32)]) [(1 : Int32), (1 : Int32), (6 : Int32), (0 : Int32), (0 : Int32), (0 : Int32), (0 : Int32), (0 : Int32), (0 : Int32), (0 : Int32), (0 : Int32), (0 : Int32), (0 : Int32), (0 : Int32), (0 : Int32), (0 : Int32)] [(1 : Int32), (1 : Int32), (6 : Int32), (6 : Int32), (0 : Int32), (0 : Int32), (0 : Int32), (0 : Int32), (0 : Int32), (0 : Int32), (0 : Int32), (0 : Int32), (0 : Int32), (0 : Int32), (0 : Int32), (0 : Int32)] [(0 : Int32), (0 : Int32), (7 : Int32), (0 : Int32), (0 : Int32), (0 : Int32), (0 : Int32), (0 : Int32), (0 : Int32), (0 : Int32), (0 : Int32), (0 : Int32), (0 : Int32), (0 : Int32), (0 : Int32), (0 : Int32)] [(0 : Int32), (0 : Int32), (7 : Int32), (7 : Int32), (0 : Int32), (0 : Int32), (0 : Int32), (0 : Int32), (0 : Int32), (0 : Int32), (0 : Int32), (0 : Int32), (0 : Int32), (0 : Int32), (0 : Int32), (0 : Int32)] T175.heap n0 Z175 (Ab158_175) (O175_0) (O175_1) (J175) (O175_3) (Oafr159L_175) (Oato159L_175) (G158) (Gafr159) (Gato159) (ne_b158_afr159) (ne_b158_ato159) (P159_0) (by decide +kernel) (by decide +kernel) (by decide +kernel) (by decide +kernel) (by decide +kernel) (by decide +kernel) (by decide)) hZ (hw _ (List.mem_of_getElem? (i := 20) rfl)) (hw _ (List.mem_of_getElem? (i := 2) rfl)) (by decide) (by decide)) q177a q177c (g := (mkF m 149 #[.val (.int p0), .val (.ref b158), .val (.int (2 : Int32)), .val (.int (1 : Int32)), .val (.int (6 : Int32)), .val (.int (0 : Int32)), .unset, .unset] [(.int (7 : Int32)), (.ref b158)])) rfl (by rw [hml]; rfl) (Steps.refl _) (argsL := [(.int (7 : Int32))]) (rest := []) (lenOf pd_1 rfl) rfl (by show 2 * 0 + _ ≤ _; exact Nat.le_of_eq rfl) (hb hby at_149) (fun _ _ => ⟨rfl, e176, (by decide : 3 + 0 ≤ _), (by decide : 36 + 0 ≤ _)⟩)
      dsimp only [Pt.U, Pt.locs, Pt.cells, Pt.slots] at X177 l177 y177 z177 st177 hQ177
      subst l177 y177 z177
      obtain ⟨rfl, N177q, K177, O177_0, O177_1, O177_2, O177_3, O177_4, O177_5⟩ := hQ177
      have Ab158_177 := Ab158_175.keep K177
      have Z177 : n0 ≤ T177.heap.size := Nat.le_trans Z175 K177.1
      have J177 : Fld Z T177.heap b158 "com/example/passau/passau/insertion/TwoSat" "implications" "I" (.int (4 : Int32)) := O177_3
      have N177 := Fr.app N176 N177q
      refine own_jp st177 ?_
      refine own_st (fun zw zk => XS.aloadN X177.here hx rfl (hb hby at_152) rfl rfl zk) ?_
      obtain ⟨cq178, kq178, q178a, q178b, q178c⟩ := isOf hZ rfl Ab158_177
      obtain ⟨_, _, ⟨T178, L178, k178, n178⟩, -, X178, ⟨Lc178, hQ178, l178, y178, z178⟩, st178⟩ := X177.virtualBack hx (y := (⟨"com/example/passau/passau/insertion/TwoSat", "solve", "()[Z"⟩ : MethodName)) (z := (⟨"com/example/passau/passau/insertion/TwoSat", "solve", "()[Z"⟩ : MethodName)) hown (mvT hZ (hw _ (List.mem_of_getElem? (i := 42) rfl))) (mvT hZ (hw _ (List.mem_of_getElem? (i := 43) rfl))) (notFace_of_selects (args := #[]) (mvT hZ (hw _ (List.mem_of_getElem? (i := 45) rfl)))) (mvT hZ (hw _ (List.mem_of_getElem? (i := 45) rfl))) (mvT hZ (hw _ (List.mem_of_getElem? (i := 44) rfl))) (by decide) (backOf (W := 0) (rm8 l Z a0 hw [] b158 afr159 ato159 (4 : Int32) (4 : Int32) ([(1 : Int32), (1 : Int32), (6 : Int32), (6 : Int32), (0 : Int32), (0 : Int32), (0 : Int32), (0 : Int32), (0 : Int32), (0 : Int32), (0 : Int32), (0 : Int32), (0 : Int32), (0 : Int32), (0 : Int32), (0 : Int32)]) ([(0 : Int32), (0 : Int32), (7 : Int32), (7 : Int32), (0 : Int32), (0 : Int32), (0 : Int32), (0 : Int32), (0 : Int32), (0 : Int32), (0 : Int32), (0 : Int32), (0 : Int32), (0 : Int32), (0 : Int32), (0 : Int32)]) 8 4 4 [(1 : Int32), (1 : Int32), (1 : Int32), (0 : Int32)] T177.heap n0 Z177 (O177_0) (O177_1) (O177_2) (J177) (O177_4) (O177_5) (by decide) (by decide) (by decide) (by decide) (by decide) (by decide) (by decide +kernel)) hZ (hw _ (List.mem_of_getElem? (i := 46) rfl)) (hw _ (List.mem_of_getElem? (i := 2) rfl)) (by decide) (by decide)) q178a q178c (g := (mkF m 153 #[.val (.int p0), .val (.ref b158), .val (.int (2 : Int32)), .val (.int (1 : Int32)), .val (.int (6 : Int32)), .val (.int (0 : Int32)), .unset, .unset] [(.ref b158)])) rfl (by rw [hml]; rfl) (Steps.refl _) (argsL := []) (rest := []) (lenOf pd_10 rfl) rfl (by show 2 * 0 + _ ≤ _; exact Nat.le_of_eq rfl) (hb hby at_153) (fun _ _ => ⟨rfl, rfl, (by decide : 3 + 12 ≤ _), (by decide : 36 + 189 ≤ _)⟩)
      dsimp only [Pt.U, Pt.locs, Pt.cells, Pt.slots] at X178 l178 y178 z178 st178 hQ178
      subst l178 y178 z178
      obtain ⟨b178, rfl, N178q, sz178, K178, R178_0⟩ := hQ178
      have ne_b158_b178 : b158 ≠ b178 := Nat.ne_of_lt (Nat.lt_of_lt_of_le Ab158_177.lt sz178)
      have ne_afr159_b178 : afr159 ≠ b178 := Nat.ne_of_lt (Nat.lt_of_lt_of_le O177_4.lt sz178)
      have ne_ato159_b178 : ato159 ≠ b178 := Nat.ne_of_lt (Nat.lt_of_lt_of_le O177_5.lt sz178)
      have G178 : n0 ≤ b178 := Nat.le_trans Z177 sz178
      have Ab158_178 := Ab158_177.keep K178
      have Ob158from_178 := O177_0.keep K178 nin0
      have Ob158to_178 := O177_1.keep K178 nin0
      have Ob158variables_178 := O177_2.keep K178 nin0
      have Ob158implications_178 := J177.keep K178 nin0
      have Oafr159L_178 := O177_4.keep K178 nin0
      have Oato159L_178 := O177_5.keep K178 nin0
      have Z178 : n0 ≤ T178.heap.size := Nat.le_trans Z177 K178.1
      have N178 := Fr.app N177 N178q
      refine own_jp st178 ?_
      refine own_st (fun zw zk => XS.astore X178.here hx rfl (hb hby at_156) rfl rfl rfl zk) ?_
      show own_Go p e below G (T178.setTop (mkF m 158 #[.val (.int p0), .val (.ref b158), .val (.int (2 : Int32)), .val (.int (1 : Int32)), .val (.int (6 : Int32)), .val (.int (0 : Int32)), .val (.ref b178), .unset] []))
      refine own_st (fun zw zk => XS.aload X178.here hx rfl (hb hby at_158) rfl rfl zk) ?_
      refine own_st (fun zw zk => XS.ifnonnullYes X178.here hx rfl (pc0 := 160) (pc' := 165) rfl (hb hby at_160) rfl (by decide) (by decide) zk) ?_
      refine own_st (fun zw zk => XS.aload X178.here hx rfl (hb hby at_165) rfl rfl zk) ?_
      refine own_st (fun zw zk => own_len X178 hx hZ rfl R178_0 (z := (4 : Int32)) (rfl) (g := (mkF m 167 #[.val (.int p0), .val (.ref b158), .val (.int (2 : Int32)), .val (.int (1 : Int32)), .val (.int (6 : Int32)), .val (.int (0 : Int32)), .val (.ref b178), .unset] [(.ref b178)])) rfl rfl (hb hby at_167) _ zk) ?_
      refine own_st (fun zw zk => XS.iloadN X178.here hx rfl (hb hby at_168) rfl zk) ?_
      refine own_st (fun zw zk => XS.iconst X178.here hx rfl (hb hby at_169) zk) ?_
      refine own_st (fun zw zk => XS.iadd X178.here hx rfl (hb hby at_170) rfl zk) ?_
      refine own_st (fun zw zk => XS.icmpYes X178.here hx rfl (pc0 := 171) (pc' := 176) rfl (hb hby at_171) rfl (teq (by decide : (4 : Int32) = (4 : Int32))).1 (by decide) (by decide) zk) ?_
      show own_Go p e below G (T178.setTop (mkF m 176 #[.val (.int p0), .val (.ref b158), .val (.int (2 : Int32)), .val (.int (1 : Int32)), .val (.int (6 : Int32)), .val (.int (0 : Int32)), .val (.ref b178), .unset] []))
      refine own_st (fun zw zk => XS.iload X178.here hx rfl (hb hby at_176) rfl zk) ?_
      refine own_st (fun zw zk => XS.iconst X178.here hx rfl (hb hby at_178) zk) ?_
      refine own_st (fun zw zk => XS.ishr X178.here hx rfl (hb hby at_179) rfl zk) ?_
      refine own_st (fun zw zk => XS.istore X178.here hx rfl (hb hby at_180) rfl rfl zk) ?_
      show own_Go p e below G (T178.setTop (mkF m 182 #[.val (.int p0), .val (.ref b158), .val (.int (2 : Int32)), .val (.int (1 : Int32)), .val (.int (6 : Int32)), .val (.int (0 : Int32)), .val (.ref b178), .val (.int ((6 : Int32) >>> ((1 : Int32) &&& 31)))] []))
      rw [show ((6 : Int32) >>> ((1 : Int32) &&& 31)) = (3 : Int32) from by decide]
      refine own_st (fun zw zk => XS.iload X178.here hx rfl (hb hby at_182) rfl zk) ?_
      refine own_st (fun zw zk => XS.ifNo X178.here hx rfl (hb hby at_184) rfl ((if0 _ _).trans (flt (by decide : ¬ ((3 : Int32) < (0 : Int32)))).1) zk) ?_
      refine own_st (fun zw zk => XS.iload X178.here hx rfl (hb hby at_187) rfl zk) ?_
      refine own_st (fun zw zk => XS.aload X178.here hx rfl (hb hby at_189) rfl rfl zk) ?_
      refine own_st (fun zw zk => own_len X178 hx hZ rfl R178_0 (z := (4 : Int32)) (rfl) (g := (mkF m 191 #[.val (.int p0), .val (.ref b158), .val (.int (2 : Int32)), .val (.int (1 : Int32)), .val (.int (6 : Int32)), .val (.int (0 : Int32)), .val (.ref b178), .val (.int (3 : Int32))] [(.ref b178), (.int (3 : Int32))])) rfl rfl (hb hby at_191) _ zk) ?_
      refine own_st (fun zw zk => XS.icmpYes X178.here hx rfl (pc0 := 192) (pc' := 197) rfl (hb hby at_192) rfl (tlt (by decide : (3 : Int32) < (4 : Int32))).1 (by decide) (by decide) zk) ?_
      refine own_st (fun zw zk => XS.aload X178.here hx rfl (hb hby at_197) rfl rfl zk) ?_
      refine own_st (fun zw zk => XS.iload X178.here hx rfl (hb hby at_199) rfl zk) ?_
      show own_Go p e below G (T178.setTop (mkF m 201 #[.val (.int p0), .val (.ref b158), .val (.int (2 : Int32)), .val (.int (1 : Int32)), .val (.int (6 : Int32)), .val (.int (0 : Int32)), .val (.ref b178), .val (.int (3 : Int32))] [(.int (3 : Int32)), (.ref b178)]))
      refine own_st (fun zw zk => own_zld X178 hx hZ rfl R178_0 (j := (3 : Int32)) (v := (.int (0 : Int32))) (i := 3) (by decide) (by decide) rfl (g := (mkF m 201 #[.val (.int p0), .val (.ref b158), .val (.int (2 : Int32)), .val (.int (1 : Int32)), .val (.int (6 : Int32)), .val (.int (0 : Int32)), .val (.ref b178), .val (.int (3 : Int32))] [(.int (3 : Int32)), (.ref b178)])) rfl rfl (hb hby at_201) _ zk) ?_
      refine own_st (fun zw zk => XS.iload X178.here hx rfl (hb hby at_202) rfl zk) ?_
      refine own_st (fun zw zk => XS.icmpNo X178.here hx rfl (hb hby at_204) rfl (teq (by decide : (0 : Int32) = (0 : Int32))).2 zk) ?_
      refine own_st (fun zw zk => XS.aload X178.here hx rfl (hb hby at_207) rfl rfl zk) ?_
      refine own_st (fun zw zk => XS.iconst X178.here hx rfl (hb hby at_209) zk) ?_
      refine own_st (fun zw zk => own_zld X178 hx hZ rfl R178_0 (j := (0 : Int32)) (v := (.int (1 : Int32))) (i := 0) (by decide) (by decide) rfl (g := (mkF m 210 #[.val (.int p0), .val (.ref b158), .val (.int (2 : Int32)), .val (.int (1 : Int32)), .val (.int (6 : Int32)), .val (.int (0 : Int32)), .val (.ref b178), .val (.int (3 : Int32))] [(.int (0 : Int32)), (.ref b178)])) rfl rfl (hb hby at_210) _ zk) ?_
      refine own_st (fun zw zk => XS.ifNo X178.here hx rfl (hb hby at_211) rfl ((if0 _ _).trans (feq (by decide : ¬ ((1 : Int32) = (0 : Int32)))).1) zk) ?_
      refine own_st (fun zw zk => XS.iconst X178.here hx rfl (hb hby at_214) zk) ?_
      show own_Go p e below G (T178.setTop (mkF m 215 #[.val (.int p0), .val (.ref b158), .val (.int (2 : Int32)), .val (.int (1 : Int32)), .val (.int (6 : Int32)), .val (.int (0 : Int32)), .val (.ref b178), .val (.int (3 : Int32))] [(.int (1 : Int32))]))
      refine own_st (fun zw zk => XS.goto X178.here hx rfl (pc0 := 215) (pc' := 219) rfl (hb hby at_215) (by decide) (by decide) zk) ?_
      show own_Go p e below G (T178.setTop (mkF m 219 #[.val (.int p0), .val (.ref b158), .val (.int (2 : Int32)), .val (.int (1 : Int32)), .val (.int (6 : Int32)), .val (.int (0 : Int32)), .val (.ref b178), .val (.int (3 : Int32))] [(.int (1 : Int32))]))
      subst hG
      obtain ⟨fs, hr, hrun, hended, hW, hsame⟩ := X178.leave (v := some (.int (1 : Int32))) (hlocks := Bd.notSynchronized) (fun h => by rw [Bd.returns] at h; cases h)
      refine ⟨_, retN X178 hx (t := .boolean) Bd.returns (by simp) (hb hby at_219) hr, _, hrun, hended, _, _, rfl, ?_, ⟨_, rfl⟩, hW, hsame.mono (by decide) (by decide)⟩
      show Q0 Z p0 h0 n0 _ T178.heap _
      exact ⟨rfl, N178⟩
    · refine own_st (fun zw zk => XS.ifNo X175.here hx rfl (hb hby at_119) rfl ((if0 _ _).trans (feq hc119).1) zk) ?_
      refine own_st (fun zw zk => XS.iconst X175.here hx rfl (hb hby at_122) zk) ?_
      refine own_st (fun zw zk => XS.goto X175.here hx rfl (pc0 := 123) (pc' := 127) rfl (hb hby at_123) (by decide) (by decide) zk) ?_
      show own_Go p e below G (T175.setTop (mkF m 127 #[.val (.int p0), .val (.ref b158), .val (.int (2 : Int32)), .val (.int (1 : Int32)), .val (.int (6 : Int32)), .unset, .unset, .unset] [(.int (1 : Int32))]))
      refine own_st (fun zw zk => XS.istore X175.here hx rfl (hb hby at_127) rfl rfl zk) ?_
      show own_Go p e below G (T175.setTop (mkF m 129 #[.val (.int p0), .val (.ref b158), .val (.int (2 : Int32)), .val (.int (1 : Int32)), .val (.int (6 : Int32)), .val (.int (1 : Int32)), .unset, .unset] []))
      refine own_st (fun zw zk => XS.iload X175.here hx rfl (hb hby at_129) rfl zk) ?_
      refine own_st (fun zw zk => XS.ifNo X175.here hx rfl (hb hby at_131) rfl ((if0 _ _).trans (feq (by decide : ¬ ((1 : Int32) = (0 : Int32)))).1) zk) ?_
      refine own_st (fun zw zk => XS.aloadN X175.here hx rfl (hb hby at_134) rfl rfl zk) ?_
      refine own_st (fun zw zk => XS.iload X175.here hx rfl (hb hby at_135) rfl zk) ?_
      obtain ⟨cq179, kq179, q179a, q179b, q179c⟩ := isOf hZ rfl Ab158_175
      obtain ⟨_, _, ⟨T179, L179, k179, n179⟩, -, X179, ⟨Lc179, hQ179, l179, y179, z179⟩, st179⟩ := X175.virtualBack hx (y := (⟨"com/example/passau/passau/insertion/TwoSat", "require", "(I)V"⟩ : MethodName)) (z := (⟨"com/example/passau/passau/insertion/TwoSat", "require", "(I)V"⟩ : MethodName)) hown (mvT hZ (hw _ (List.mem_of_getElem? (i := 41) rfl))) (mvT hZ (hw _ (List.mem_of_getElem? (i := 17) rfl))) (notFace_of_selects (args := #[]) (mvT hZ (hw _ (List.mem_of_getElem? (i := 19) rfl)))) (mvT hZ (hw _ (List.mem_of_getElem? (i := 19) rfl))) (mvT hZ (hw _ (List.mem_of_getElem? (i := 18) rfl))) (by decide) (backOf (W := 0) (rm3 l Z a0 hw [] b158 (6 : Int32) afr159 ato159 (2 : Int32) (4 : Int32) ([(1 : Int32), (1 : Int32), (0 : Int32), (0 : Int32), (0 : Int32), (0 : Int32), (0 : Int32), (0 : Int32), (0 : Int32), (0 : Int32), (0 : Int32), (0 : Int32), (0 : Int32), (0 : Int32), (0 : Int32), (0 : Int32)]) ([(0 : Int32), (0 : Int32), (0 : Int32), (0 : Int32), (0 : Int32), (0 : Int32), (0 : Int32), (0 : Int32), (0 : Int32), (0 : Int32), (0 : Int32), (0 : Int32), (0 : Int32), (0 : Int32), (0 : Int32), (0 : Int32)]) [(1 : Int32), (1 : Int32), (7 : Int32), (0 : Int32), (0 : Int32), (0 : Int32), (0 : Int32), (0 : Int32), (0 : Int32), (0 : Int32), (0 : Int32), (0 : Int32), (0 : Int32), (0 : Int32), (0 : Int32), (0 : Int32)] [(1 : Int32), (1 : Int32), (7 : Int32), (7 : Int32), (0 : Int32), (0 : Int32), (0 : Int32), (0 : Int32), (0 : Int32), (0 : Int32), (0 : Int32), (0 : Int32), (0 : Int32), (0 : Int32), (0 : Int32), (0 : Int32)] [(0 : Int32), (0 : Int32), (6 : Int32), (0 : Int32), (0 : Int32), (0 : Int32), (0 : Int32), (0 : Int32), (0 : Int32), (0 : Int32), (0 : Int32), (0 : Int32), (0 : Int32), (0 : Int32), (0 : Int32), (0 : Int32)] [(0 : Int32), (0 : Int32), (6 : Int32), (6 : Int32), (0 : Int32), (0 : Int32), (0 : Int32), (0 : Int32), (0 : Int32), (0 : Int32), (0 : Int32), (0 : Int32), (0 : Int32), (0 : Int32), (0 : Int32), (0 : Int32)] T175.heap n0 Z175 (Ab158_175) (O175_0) (O175_1) (J175) (O175_3) (Oafr159L_175) (Oato159L_175) (G158) (Gafr159) (Gato159) (ne_b158_afr159) (ne_b158_ato159) (P159_0) (by decide +kernel) (by decide +kernel) (by decide +kernel) (by decide +kernel) (by decide +kernel) (by decide +kernel) (by decide)) hZ (hw _ (List.mem_of_getElem? (i := 20) rfl)) (hw _ (List.mem_of_getElem? (i := 2) rfl)) (by decide) (by decide)) q179a q179c (g := (mkF m 137 #[.val (.int p0), .val (.ref b158), .val (.int (2 : Int32)), .val (.int (1 : Int32)), .val (.int (6 : Int32)), .val (.int (1 : Int32)), .unset, .unset] [(.int (6 : Int32)), (.ref b158)])) rfl (by rw [hml]; rfl) (Steps.refl _) (argsL := [(.int (6 : Int32))]) (rest := []) (lenOf pd_1 rfl) rfl (by show 2 * 0 + _ ≤ _; exact Nat.le_of_eq rfl) (hb hby at_137) (fun _ _ => ⟨rfl, rfl, (by decide : 3 + 0 ≤ _), (by decide : 36 + 0 ≤ _)⟩)
      dsimp only [Pt.U, Pt.locs, Pt.cells, Pt.slots] at X179 l179 y179 z179 st179 hQ179
      subst l179 y179 z179
      obtain ⟨rfl, N179q, K179, O179_0, O179_1, O179_2, O179_3, O179_4, O179_5⟩ := hQ179
      have Ab158_179 := Ab158_175.keep K179
      have Z179 : n0 ≤ T179.heap.size := Nat.le_trans Z175 K179.1
      have J179 : Fld Z T179.heap b158 "com/example/passau/passau/insertion/TwoSat" "implications" "I" (.int (4 : Int32)) := O179_3
      have N179 := Fr.app N175 N179q
      refine own_jp st179 ?_
      refine own_st (fun zw zk => XS.goto X179.here hx rfl (pc0 := 140) (pc' := 152) rfl (hb hby at_140) (by decide) (by decide) zk) ?_
      show own_Go p e below G (T179.setTop (mkF m 152 #[.val (.int p0), .val (.ref b158), .val (.int (2 : Int32)), .val (.int (1 : Int32)), .val (.int (6 : Int32)), .val (.int (1 : Int32)), .unset, .unset] []))
      refine own_st (fun zw zk => XS.aloadN X179.here hx rfl (hb hby at_152) rfl rfl zk) ?_
      obtain ⟨cq180, kq180, q180a, q180b, q180c⟩ := isOf hZ rfl Ab158_179
      obtain ⟨_, _, ⟨T180, L180, k180, n180⟩, -, X180, ⟨Lc180, hQ180, l180, y180, z180⟩, st180⟩ := X179.virtualBack hx (y := (⟨"com/example/passau/passau/insertion/TwoSat", "solve", "()[Z"⟩ : MethodName)) (z := (⟨"com/example/passau/passau/insertion/TwoSat", "solve", "()[Z"⟩ : MethodName)) hown (mvT hZ (hw _ (List.mem_of_getElem? (i := 42) rfl))) (mvT hZ (hw _ (List.mem_of_getElem? (i := 43) rfl))) (notFace_of_selects (args := #[]) (mvT hZ (hw _ (List.mem_of_getElem? (i := 45) rfl)))) (mvT hZ (hw _ (List.mem_of_getElem? (i := 45) rfl))) (mvT hZ (hw _ (List.mem_of_getElem? (i := 44) rfl))) (by decide) (backOf (W := 0) (rm8 l Z a0 hw [] b158 afr159 ato159 (4 : Int32) (4 : Int32) ([(1 : Int32), (1 : Int32), (7 : Int32), (7 : Int32), (0 : Int32), (0 : Int32), (0 : Int32), (0 : Int32), (0 : Int32), (0 : Int32), (0 : Int32), (0 : Int32), (0 : Int32), (0 : Int32), (0 : Int32), (0 : Int32)]) ([(0 : Int32), (0 : Int32), (6 : Int32), (6 : Int32), (0 : Int32), (0 : Int32), (0 : Int32), (0 : Int32), (0 : Int32), (0 : Int32), (0 : Int32), (0 : Int32), (0 : Int32), (0 : Int32), (0 : Int32), (0 : Int32)]) 8 4 4 [(1 : Int32), (1 : Int32), (1 : Int32), (1 : Int32)] T179.heap n0 Z179 (O179_0) (O179_1) (O179_2) (J179) (O179_4) (O179_5) (by decide) (by decide) (by decide) (by decide) (by decide) (by decide) (by decide +kernel)) hZ (hw _ (List.mem_of_getElem? (i := 46) rfl)) (hw _ (List.mem_of_getElem? (i := 2) rfl)) (by decide) (by decide)) q180a q180c (g := (mkF m 153 #[.val (.int p0), .val (.ref b158), .val (.int (2 : Int32)), .val (.int (1 : Int32)), .val (.int (6 : Int32)), .val (.int (1 : Int32)), .unset, .unset] [(.ref b158)])) rfl (by rw [hml]; rfl) (Steps.refl _) (argsL := []) (rest := []) (lenOf pd_10 rfl) rfl (by show 2 * 0 + _ ≤ _; exact Nat.le_of_eq rfl) (hb hby at_153) (fun _ _ => ⟨rfl, rfl, (by decide : 3 + 12 ≤ _), (by decide : 36 + 189 ≤ _)⟩)
      dsimp only [Pt.U, Pt.locs, Pt.cells, Pt.slots] at X180 l180 y180 z180 st180 hQ180
      subst l180 y180 z180
      obtain ⟨b180, rfl, N180q, sz180, K180, R180_0⟩ := hQ180
      have ne_b158_b180 : b158 ≠ b180 := Nat.ne_of_lt (Nat.lt_of_lt_of_le Ab158_179.lt sz180)
      have ne_afr159_b180 : afr159 ≠ b180 := Nat.ne_of_lt (Nat.lt_of_lt_of_le O179_4.lt sz180)
      have ne_ato159_b180 : ato159 ≠ b180 := Nat.ne_of_lt (Nat.lt_of_lt_of_le O179_5.lt sz180)
      have G180 : n0 ≤ b180 := Nat.le_trans Z179 sz180
      have Ab158_180 := Ab158_179.keep K180
      have Ob158from_180 := O179_0.keep K180 nin0
      have Ob158to_180 := O179_1.keep K180 nin0
      have Ob158variables_180 := O179_2.keep K180 nin0
      have Ob158implications_180 := J179.keep K180 nin0
      have Oafr159L_180 := O179_4.keep K180 nin0
      have Oato159L_180 := O179_5.keep K180 nin0
      have Z180 : n0 ≤ T180.heap.size := Nat.le_trans Z179 K180.1
      have N180 := Fr.app N179 N180q
      refine own_jp st180 ?_
      refine own_st (fun zw zk => XS.astore X180.here hx rfl (hb hby at_156) rfl rfl rfl zk) ?_
      show own_Go p e below G (T180.setTop (mkF m 158 #[.val (.int p0), .val (.ref b158), .val (.int (2 : Int32)), .val (.int (1 : Int32)), .val (.int (6 : Int32)), .val (.int (1 : Int32)), .val (.ref b180), .unset] []))
      refine own_st (fun zw zk => XS.aload X180.here hx rfl (hb hby at_158) rfl rfl zk) ?_
      refine own_st (fun zw zk => XS.ifnonnullYes X180.here hx rfl (pc0 := 160) (pc' := 165) rfl (hb hby at_160) rfl (by decide) (by decide) zk) ?_
      refine own_st (fun zw zk => XS.aload X180.here hx rfl (hb hby at_165) rfl rfl zk) ?_
      refine own_st (fun zw zk => own_len X180 hx hZ rfl R180_0 (z := (4 : Int32)) (rfl) (g := (mkF m 167 #[.val (.int p0), .val (.ref b158), .val (.int (2 : Int32)), .val (.int (1 : Int32)), .val (.int (6 : Int32)), .val (.int (1 : Int32)), .val (.ref b180), .unset] [(.ref b180)])) rfl rfl (hb hby at_167) _ zk) ?_
      refine own_st (fun zw zk => XS.iloadN X180.here hx rfl (hb hby at_168) rfl zk) ?_
      refine own_st (fun zw zk => XS.iconst X180.here hx rfl (hb hby at_169) zk) ?_
      refine own_st (fun zw zk => XS.iadd X180.here hx rfl (hb hby at_170) rfl zk) ?_
      refine own_st (fun zw zk => XS.icmpYes X180.here hx rfl (pc0 := 171) (pc' := 176) rfl (hb hby at_171) rfl (teq (by decide : (4 : Int32) = (4 : Int32))).1 (by decide) (by decide) zk) ?_
      show own_Go p e below G (T180.setTop (mkF m 176 #[.val (.int p0), .val (.ref b158), .val (.int (2 : Int32)), .val (.int (1 : Int32)), .val (.int (6 : Int32)), .val (.int (1 : Int32)), .val (.ref b180), .unset] []))
      refine own_st (fun zw zk => XS.iload X180.here hx rfl (hb hby at_176) rfl zk) ?_
      refine own_st (fun zw zk => XS.iconst X180.here hx rfl (hb hby at_178) zk) ?_
      refine own_st (fun zw zk => XS.ishr X180.here hx rfl (hb hby at_179) rfl zk) ?_
      refine own_st (fun zw zk => XS.istore X180.here hx rfl (hb hby at_180) rfl rfl zk) ?_
      show own_Go p e below G (T180.setTop (mkF m 182 #[.val (.int p0), .val (.ref b158), .val (.int (2 : Int32)), .val (.int (1 : Int32)), .val (.int (6 : Int32)), .val (.int (1 : Int32)), .val (.ref b180), .val (.int ((6 : Int32) >>> ((1 : Int32) &&& 31)))] []))
      rw [show ((6 : Int32) >>> ((1 : Int32) &&& 31)) = (3 : Int32) from by decide]
      refine own_st (fun zw zk => XS.iload X180.here hx rfl (hb hby at_182) rfl zk) ?_
      refine own_st (fun zw zk => XS.ifNo X180.here hx rfl (hb hby at_184) rfl ((if0 _ _).trans (flt (by decide : ¬ ((3 : Int32) < (0 : Int32)))).1) zk) ?_
      refine own_st (fun zw zk => XS.iload X180.here hx rfl (hb hby at_187) rfl zk) ?_
      refine own_st (fun zw zk => XS.aload X180.here hx rfl (hb hby at_189) rfl rfl zk) ?_
      refine own_st (fun zw zk => own_len X180 hx hZ rfl R180_0 (z := (4 : Int32)) (rfl) (g := (mkF m 191 #[.val (.int p0), .val (.ref b158), .val (.int (2 : Int32)), .val (.int (1 : Int32)), .val (.int (6 : Int32)), .val (.int (1 : Int32)), .val (.ref b180), .val (.int (3 : Int32))] [(.ref b180), (.int (3 : Int32))])) rfl rfl (hb hby at_191) _ zk) ?_
      refine own_st (fun zw zk => XS.icmpYes X180.here hx rfl (pc0 := 192) (pc' := 197) rfl (hb hby at_192) rfl (tlt (by decide : (3 : Int32) < (4 : Int32))).1 (by decide) (by decide) zk) ?_
      refine own_st (fun zw zk => XS.aload X180.here hx rfl (hb hby at_197) rfl rfl zk) ?_
      refine own_st (fun zw zk => XS.iload X180.here hx rfl (hb hby at_199) rfl zk) ?_
      show own_Go p e below G (T180.setTop (mkF m 201 #[.val (.int p0), .val (.ref b158), .val (.int (2 : Int32)), .val (.int (1 : Int32)), .val (.int (6 : Int32)), .val (.int (1 : Int32)), .val (.ref b180), .val (.int (3 : Int32))] [(.int (3 : Int32)), (.ref b180)]))
      refine own_st (fun zw zk => own_zld X180 hx hZ rfl R180_0 (j := (3 : Int32)) (v := (.int (1 : Int32))) (i := 3) (by decide) (by decide) rfl (g := (mkF m 201 #[.val (.int p0), .val (.ref b158), .val (.int (2 : Int32)), .val (.int (1 : Int32)), .val (.int (6 : Int32)), .val (.int (1 : Int32)), .val (.ref b180), .val (.int (3 : Int32))] [(.int (3 : Int32)), (.ref b180)])) rfl rfl (hb hby at_201) _ zk) ?_
      refine own_st (fun zw zk => XS.iload X180.here hx rfl (hb hby at_202) rfl zk) ?_
      refine own_st (fun zw zk => XS.icmpNo X180.here hx rfl (hb hby at_204) rfl (teq (by decide : (1 : Int32) = (1 : Int32))).2 zk) ?_
      refine own_st (fun zw zk => XS.aload X180.here hx rfl (hb hby at_207) rfl rfl zk) ?_
      refine own_st (fun zw zk => XS.iconst X180.here hx rfl (hb hby at_209) zk) ?_
      refine own_st (fun zw zk => own_zld X180 hx hZ rfl R180_0 (j := (0 : Int32)) (v := (.int (1 : Int32))) (i := 0) (by decide) (by decide) rfl (g := (mkF m 210 #[.val (.int p0), .val (.ref b158), .val (.int (2 : Int32)), .val (.int (1 : Int32)), .val (.int (6 : Int32)), .val (.int (1 : Int32)), .val (.ref b180), .val (.int (3 : Int32))] [(.int (0 : Int32)), (.ref b180)])) rfl rfl (hb hby at_210) _ zk) ?_
      refine own_st (fun zw zk => XS.ifNo X180.here hx rfl (hb hby at_211) rfl ((if0 _ _).trans (feq (by decide : ¬ ((1 : Int32) = (0 : Int32)))).1) zk) ?_
      refine own_st (fun zw zk => XS.iconst X180.here hx rfl (hb hby at_214) zk) ?_
      show own_Go p e below G (T180.setTop (mkF m 215 #[.val (.int p0), .val (.ref b158), .val (.int (2 : Int32)), .val (.int (1 : Int32)), .val (.int (6 : Int32)), .val (.int (1 : Int32)), .val (.ref b180), .val (.int (3 : Int32))] [(.int (1 : Int32))]))
      refine own_st (fun zw zk => XS.goto X180.here hx rfl (pc0 := 215) (pc' := 219) rfl (hb hby at_215) (by decide) (by decide) zk) ?_
      show own_Go p e below G (T180.setTop (mkF m 219 #[.val (.int p0), .val (.ref b158), .val (.int (2 : Int32)), .val (.int (1 : Int32)), .val (.int (6 : Int32)), .val (.int (1 : Int32)), .val (.ref b180), .val (.int (3 : Int32))] [(.int (1 : Int32))]))
      subst hG
      obtain ⟨fs, hr, hrun, hended, hW, hsame⟩ := X180.leave (v := some (.int (1 : Int32))) (hlocks := Bd.notSynchronized) (fun h => by rw [Bd.returns] at h; cases h)
      refine ⟨_, retN X180 hx (t := .boolean) Bd.returns (by simp) (hb hby at_219) hr, _, hrun, hended, _, _, rfl, ?_, ⟨_, rfl⟩, hW, hsame.mono (by decide) (by decide)⟩
      show Q0 Z p0 h0 n0 _ T180.heap _
      exact ⟨rfl, N180⟩
  · refine own_st (fun zw zk => XS.iconst X159.here hx rfl (hb hby at_12) zk) ?_
    refine own_st (fun zw zk => XS.istoreN X159.here hx rfl (hb hby at_13) rfl rfl zk) ?_
    show own_Go p e below G (T159.setTop (mkF m 14 #[.val (.int p0), .val (.ref b158), .val (.int (3 : Int32)), .val (.int (1 : Int32)), .unset, .unset, .unset, .unset] []))
    refine own_st (fun zw zk => XS.iloadN X159.here hx rfl (hb hby at_14) rfl zk) ?_
    refine own_st (fun zw zk => XS.iconst X159.here hx rfl (hb hby at_15) zk) ?_
    refine own_st (fun zw zk => XS.icmpNo X159.here hx rfl (hb hby at_16) rfl (flt (by decide : ¬ ((3 : Int32) < (1 : Int32)))).1 zk) ?_
    refine own_st (fun zw zk => XS.iloadN X159.here hx rfl (hb hby at_19) rfl zk) ?_
    refine own_st (fun zw zk => XS.ifNo X159.here hx rfl (hb hby at_20) rfl ((if0 _ _).trans (feq (by decide : ¬ ((1 : Int32) = (0 : Int32)))).1) zk) ?_
    refine own_st (fun zw zk => XS.aloadN X159.here hx rfl (hb hby at_23) rfl rfl zk) ?_
    obtain ⟨cq181, kq181, q181a, q181b, q181c⟩ := isOf hZ rfl Ab158_159
    obtain ⟨_, _, ⟨T181, L181, k181, n181⟩, -, X181, ⟨Lc181, hQ181, l181, y181, z181⟩, st181⟩ := X159.virtualBack hx (y := (⟨"com/example/passau/passau/insertion/TwoSat", "variable", "()I"⟩ : MethodName)) (z := (⟨"com/example/passau/passau/insertion/TwoSat", "variable", "()I"⟩ : MethodName)) hown (mvT hZ (hw _ (List.mem_of_getElem? (i := 35) rfl))) (mvT hZ (hw _ (List.mem_of_getElem? (i := 36) rfl))) (notFace_of_selects (args := #[]) (mvT hZ (hw _ (List.mem_of_getElem? (i := 38) rfl)))) (mvT hZ (hw _ (List.mem_of_getElem? (i := 38) rfl))) (mvT hZ (hw _ (List.mem_of_getElem? (i := 37) rfl))) (by decide) (backOf (W := 0) (rm7 l Z a0 hw [] b158 afr159 ato159 (2 : Int32) (1 : Int32) T159.heap n0 Z159 (Ab158_159) (O159_0) (O159_1) (O159_2) (O159_3) (G158)) hZ (hw _ (List.mem_of_getElem? (i := 39) rfl)) (hw _ (List.mem_of_getElem? (i := 2) rfl)) (by decide) (by decide)) q181a q181c (g := (mkF m 24 #[.val (.int p0), .val (.ref b158), .val (.int (3 : Int32)), .val (.int (1 : Int32)), .unset, .unset, .unset, .unset] [(.ref b158)])) rfl (by rw [hml]; rfl) (Steps.refl _) (argsL := []) (rest := []) (lenOf pd_9 rfl) rfl (by show 2 * 0 + _ ≤ _; exact Nat.le_of_eq rfl) (hb hby at_24) (fun _ _ => ⟨rfl, rfl, (by decide : 3 + 0 ≤ _), (by decide : 36 + 0 ≤ _)⟩)
    dsimp only [Pt.U, Pt.locs, Pt.cells, Pt.slots] at X181 l181 y181 z181 st181 hQ181
    subst l181 y181 z181
    obtain ⟨rfl, N181q, K181, O181_0, O181_1, O181_2, O181_3⟩ := hQ181
    have Ab158_181 := Ab158_159.keep K181
    have Oafr159L_181 := O159_4.keep K181 (ninS (Ne.symm ne_b158_afr159) nin0)
    have Oato159L_181 := O159_5.keep K181 (ninS (Ne.symm ne_b158_ato159) nin0)
    have Z181 : n0 ≤ T181.heap.size := Nat.le_trans Z159 K181.1
    have J181 : Fld Z T181.heap b158 "com/example/passau/passau/insertion/TwoSat" "variables" "I" (.int (2 : Int32)) := O181_2
    have N181 := Fr.app N159 N181q
    refine own_jp st181 ?_
    refine own_st (fun zw zk => XS.iconst X181.here hx rfl (hb hby at_27) zk) ?_
    show own_Go p e below G (T181.setTop (mkF m 28 #[.val (.int p0), .val (.ref b158), .val (.int (3 : Int32)), .val (.int (1 : Int32)), .unset, .unset, .unset, .unset] [(.int (2 : Int32)), (.int (2 : Int32))]))
    refine own_st (fun zw zk => XS.icmpNo X181.here hx rfl (hb hby at_28) rfl (teq (by decide : (2 : Int32) = (2 : Int32))).2 zk) ?_
    refine own_st (fun zw zk => XS.iconst X181.here hx rfl (hb hby at_31) zk) ?_
    refine own_st (fun zw zk => XS.goto X181.here hx rfl (pc0 := 32) (pc' := 36) rfl (hb hby at_32) (by decide) (by decide) zk) ?_
    show own_Go p e below G (T181.setTop (mkF m 36 #[.val (.int p0), .val (.ref b158), .val (.int (3 : Int32)), .val (.int (1 : Int32)), .unset, .unset, .unset, .unset] [(.int (1 : Int32))]))
    refine own_st (fun zw zk => XS.istoreN X181.here hx rfl (hb hby at_36) rfl rfl zk) ?_
    show own_Go p e below G (T181.setTop (mkF m 37 #[.val (.int p0), .val (.ref b158), .val (.int (3 : Int32)), .val (.int (1 : Int32)), .unset, .unset, .unset, .unset] []))
    refine own_st (fun zw zk => XS.iloadN X181.here hx rfl (hb hby at_37) rfl zk) ?_
    refine own_st (fun zw zk => XS.iconst X181.here hx rfl (hb hby at_38) zk) ?_
    refine own_st (fun zw zk => XS.icmpNo X181.here hx rfl (hb hby at_39) rfl (flt (by decide : ¬ ((3 : Int32) < (2 : Int32)))).1 zk) ?_
    refine own_st (fun zw zk => XS.iloadN X181.here hx rfl (hb hby at_42) rfl zk) ?_
    refine own_st (fun zw zk => XS.ifNo X181.here hx rfl (hb hby at_43) rfl ((if0 _ _).trans (feq (by decide : ¬ ((1 : Int32) = (0 : Int32)))).1) zk) ?_
    refine own_st (fun zw zk => XS.aloadN X181.here hx rfl (hb hby at_46) rfl rfl zk) ?_
    obtain ⟨cq182, kq182, q182a, q182b, q182c⟩ := isOf hZ rfl Ab158_181
    obtain ⟨_, _, ⟨T182, L182, k182, n182⟩, -, X182, ⟨Lc182, hQ182, l182, y182, z182⟩, st182⟩ := X181.virtualBack hx (y := (⟨"com/example/passau/passau/insertion/TwoSat", "variable", "()I"⟩ : MethodName)) (z := (⟨"com/example/passau/passau/insertion/TwoSat", "variable", "()I"⟩ : MethodName)) hown (mvT hZ (hw _ (List.mem_of_getElem? (i := 35) rfl))) (mvT hZ (hw _ (List.mem_of_getElem? (i := 36) rfl))) (notFace_of_selects (args := #[]) (mvT hZ (hw _ (List.mem_of_getElem? (i := 38) rfl)))) (mvT hZ (hw _ (List.mem_of_getElem? (i := 38) rfl))) (mvT hZ (hw _ (List.mem_of_getElem? (i := 37) rfl))) (by decide) (backOf (W := 0) (rm7 l Z a0 hw [] b158 afr159 ato159 (2 : Int32) (2 : Int32) T181.heap n0 Z181 (Ab158_181) (O181_0) (O181_1) (J181) (O181_3) (G158)) hZ (hw _ (List.mem_of_getElem? (i := 39) rfl)) (hw _ (List.mem_of_getElem? (i := 2) rfl)) (by decide) (by decide)) q182a q182c (g := (mkF m 47 #[.val (.int p0), .val (.ref b158), .val (.int (3 : Int32)), .val (.int (1 : Int32)), .unset, .unset, .unset, .unset] [(.ref b158)])) rfl (by rw [hml]; rfl) (Steps.refl _) (argsL := []) (rest := []) (lenOf pd_9 rfl) rfl (by show 2 * 0 + _ ≤ _; exact Nat.le_of_eq rfl) (hb hby at_47) (fun _ _ => ⟨rfl, rfl, (by decide : 3 + 0 ≤ _), (by decide : 36 + 0 ≤ _)⟩)
    dsimp only [Pt.U, Pt.locs, Pt.cells, Pt.slots] at X182 l182 y182 z182 st182 hQ182
    subst l182 y182 z182
    obtain ⟨rfl, N182q, K182, O182_0, O182_1, O182_2, O182_3⟩ := hQ182
    have Ab158_182 := Ab158_181.keep K182
    have Oafr159L_182 := Oafr159L_181.keep K182 (ninS (Ne.symm ne_b158_afr159) nin0)
    have Oato159L_182 := Oato159L_181.keep K182 (ninS (Ne.symm ne_b158_ato159) nin0)
    have Z182 : n0 ≤ T182.heap.size := Nat.le_trans Z181 K182.1
    have J182 : Fld Z T182.heap b158 "com/example/passau/passau/insertion/TwoSat" "variables" "I" (.int (3 : Int32)) := O182_2
    have N182 := Fr.app N181 N182q
    refine own_jp st182 ?_
    refine own_st (fun zw zk => XS.iconst X182.here hx rfl (hb hby at_50) zk) ?_
    show own_Go p e below G (T182.setTop (mkF m 51 #[.val (.int p0), .val (.ref b158), .val (.int (3 : Int32)), .val (.int (1 : Int32)), .unset, .unset, .unset, .unset] [(.int (4 : Int32)), (.int (4 : Int32))]))
    refine own_st (fun zw zk => XS.icmpNo X182.here hx rfl (hb hby at_51) rfl (teq (by decide : (4 : Int32) = (4 : Int32))).2 zk) ?_
    refine own_st (fun zw zk => XS.iconst X182.here hx rfl (hb hby at_54) zk) ?_
    refine own_st (fun zw zk => XS.goto X182.here hx rfl (pc0 := 55) (pc' := 59) rfl (hb hby at_55) (by decide) (by decide) zk) ?_
    show own_Go p e below G (T182.setTop (mkF m 59 #[.val (.int p0), .val (.ref b158), .val (.int (3 : Int32)), .val (.int (1 : Int32)), .unset, .unset, .unset, .unset] [(.int (1 : Int32))]))
    refine own_st (fun zw zk => XS.istoreN X182.here hx rfl (hb hby at_59) rfl rfl zk) ?_
    show own_Go p e below G (T182.setTop (mkF m 60 #[.val (.int p0), .val (.ref b158), .val (.int (3 : Int32)), .val (.int (1 : Int32)), .unset, .unset, .unset, .unset] []))
    refine own_st (fun zw zk => XS.iloadN X182.here hx rfl (hb hby at_60) rfl zk) ?_
    refine own_st (fun zw zk => XS.iconst X182.here hx rfl (hb hby at_61) zk) ?_
    refine own_st (fun zw zk => XS.icmpNo X182.here hx rfl (hb hby at_62) rfl (flt (by decide : ¬ ((3 : Int32) < (3 : Int32)))).1 zk) ?_
    refine own_st (fun zw zk => XS.iloadN X182.here hx rfl (hb hby at_65) rfl zk) ?_
    refine own_st (fun zw zk => XS.ifNo X182.here hx rfl (hb hby at_66) rfl ((if0 _ _).trans (feq (by decide : ¬ ((1 : Int32) = (0 : Int32)))).1) zk) ?_
    refine own_st (fun zw zk => XS.aloadN X182.here hx rfl (hb hby at_69) rfl rfl zk) ?_
    obtain ⟨cq183, kq183, q183a, q183b, q183c⟩ := isOf hZ rfl Ab158_182
    obtain ⟨_, _, ⟨T183, L183, k183, n183⟩, -, X183, ⟨Lc183, hQ183, l183, y183, z183⟩, st183⟩ := X182.virtualBack hx (y := (⟨"com/example/passau/passau/insertion/TwoSat", "variable", "()I"⟩ : MethodName)) (z := (⟨"com/example/passau/passau/insertion/TwoSat", "variable", "()I"⟩ : MethodName)) hown (mvT hZ (hw _ (List.mem_of_getElem? (i := 35) rfl))) (mvT hZ (hw _ (List.mem_of_getElem? (i := 36) rfl))) (notFace_of_selects (args := #[]) (mvT hZ (hw _ (List.mem_of_getElem? (i := 38) rfl)))) (mvT hZ (hw _ (List.mem_of_getElem? (i := 38) rfl))) (mvT hZ (hw _ (List.mem_of_getElem? (i := 37) rfl))) (by decide) (backOf (W := 0) (rm7 l Z a0 hw [] b158 afr159 ato159 (2 : Int32) (3 : Int32) T182.heap n0 Z182 (Ab158_182) (O182_0) (O182_1) (J182) (O182_3) (G158)) hZ (hw _ (List.mem_of_getElem? (i := 39) rfl)) (hw _ (List.mem_of_getElem? (i := 2) rfl)) (by decide) (by decide)) q183a q183c (g := (mkF m 70 #[.val (.int p0), .val (.ref b158), .val (.int (3 : Int32)), .val (.int (1 : Int32)), .unset, .unset, .unset, .unset] [(.ref b158)])) rfl (by rw [hml]; rfl) (Steps.refl _) (argsL := []) (rest := []) (lenOf pd_9 rfl) rfl (by show 2 * 0 + _ ≤ _; exact Nat.le_of_eq rfl) (hb hby at_70) (fun _ _ => ⟨rfl, rfl, (by decide : 3 + 0 ≤ _), (by decide : 36 + 0 ≤ _)⟩)
    dsimp only [Pt.U, Pt.locs, Pt.cells, Pt.slots] at X183 l183 y183 z183 st183 hQ183
    subst l183 y183 z183
    obtain ⟨rfl, N183q, K183, O183_0, O183_1, O183_2, O183_3⟩ := hQ183
    have Ab158_183 := Ab158_182.keep K183
    have Oafr159L_183 := Oafr159L_182.keep K183 (ninS (Ne.symm ne_b158_afr159) nin0)
    have Oato159L_183 := Oato159L_182.keep K183 (ninS (Ne.symm ne_b158_ato159) nin0)
    have Z183 : n0 ≤ T183.heap.size := Nat.le_trans Z182 K183.1
    have J183 : Fld Z T183.heap b158 "com/example/passau/passau/insertion/TwoSat" "variables" "I" (.int (4 : Int32)) := O183_2
    have N183 := Fr.app N182 N183q
    refine own_jp st183 ?_
    refine own_st (fun zw zk => XS.bipush X183.here hx rfl (hb hby at_73) zk) ?_
    show own_Go p e below G (T183.setTop (mkF m 75 #[.val (.int p0), .val (.ref b158), .val (.int (3 : Int32)), .val (.int (1 : Int32)), .unset, .unset, .unset, .unset] [(.int (6 : Int32)), (.int (6 : Int32))]))
    refine own_st (fun zw zk => XS.icmpNo X183.here hx rfl (hb hby at_75) rfl (teq (by decide : (6 : Int32) = (6 : Int32))).2 zk) ?_
    refine own_st (fun zw zk => XS.iconst X183.here hx rfl (hb hby at_78) zk) ?_
    refine own_st (fun zw zk => XS.goto X183.here hx rfl (pc0 := 79) (pc' := 83) rfl (hb hby at_79) (by decide) (by decide) zk) ?_
    show own_Go p e below G (T183.setTop (mkF m 83 #[.val (.int p0), .val (.ref b158), .val (.int (3 : Int32)), .val (.int (1 : Int32)), .unset, .unset, .unset, .unset] [(.int (1 : Int32))]))
    refine own_st (fun zw zk => XS.istoreN X183.here hx rfl (hb hby at_83) rfl rfl zk) ?_
    show own_Go p e below G (T183.setTop (mkF m 84 #[.val (.int p0), .val (.ref b158), .val (.int (3 : Int32)), .val (.int (1 : Int32)), .unset, .unset, .unset, .unset] []))
    refine own_st (fun zw zk => XS.aloadN X183.here hx rfl (hb hby at_84) rfl rfl zk) ?_
    obtain ⟨cq184, kq184, q184a, q184b, q184c⟩ := isOf hZ rfl Ab158_183
    obtain ⟨_, _, ⟨T184, L184, k184, n184⟩, -, X184, ⟨Lc184, hQ184, l184, y184, z184⟩, st184⟩ := X183.virtualBack hx (y := (⟨"com/example/passau/passau/insertion/TwoSat", "variable", "()I"⟩ : MethodName)) (z := (⟨"com/example/passau/passau/insertion/TwoSat", "variable", "()I"⟩ : MethodName)) hown (mvT hZ (hw _ (List.mem_of_getElem? (i := 35) rfl))) (mvT hZ (hw _ (List.mem_of_getElem? (i := 36) rfl))) (notFace_of_selects (args := #[]) (mvT hZ (hw _ (List.mem_of_getElem? (i := 38) rfl)))) (mvT hZ (hw _ (List.mem_of_getElem? (i := 38) rfl))) (mvT hZ (hw _ (List.mem_of_getElem? (i := 37) rfl))) (by decide) (backOf (W := 0) (rm7 l Z a0 hw [] b158 afr159 ato159 (2 : Int32) (4 : Int32) T183.heap n0 Z183 (Ab158_183) (O183_0) (O183_1) (J183) (O183_3) (G158)) hZ (hw _ (List.mem_of_getElem? (i := 39) rfl)) (hw _ (List.mem_of_getElem? (i := 2) rfl)) (by decide) (by decide)) q184a q184c (g := (mkF m 85 #[.val (.int p0), .val (.ref b158), .val (.int (3 : Int32)), .val (.int (1 : Int32)), .unset, .unset, .unset, .unset] [(.ref b158)])) rfl (by rw [hml]; rfl) (Steps.refl _) (argsL := []) (rest := []) (lenOf pd_9 rfl) rfl (by show 2 * 0 + _ ≤ _; exact Nat.le_of_eq rfl) (hb hby at_85) (fun _ _ => ⟨rfl, rfl, (by decide : 3 + 0 ≤ _), (by decide : 36 + 0 ≤ _)⟩)
    dsimp only [Pt.U, Pt.locs, Pt.cells, Pt.slots] at X184 l184 y184 z184 st184 hQ184
    subst l184 y184 z184
    obtain ⟨rfl, N184q, K184, O184_0, O184_1, O184_2, O184_3⟩ := hQ184
    have Ab158_184 := Ab158_183.keep K184
    have Oafr159L_184 := Oafr159L_183.keep K184 (ninS (Ne.symm ne_b158_afr159) nin0)
    have Oato159L_184 := Oato159L_183.keep K184 (ninS (Ne.symm ne_b158_ato159) nin0)
    have Z184 : n0 ≤ T184.heap.size := Nat.le_trans Z183 K184.1
    have J184 : Fld Z T184.heap b158 "com/example/passau/passau/insertion/TwoSat" "variables" "I" (.int (5 : Int32)) := O184_2
    have N184 := Fr.app N183 N184q
    refine own_jp st184 ?_
    refine own_st (fun zw zk => XS.istore X184.here hx rfl (hb hby at_88) rfl rfl zk) ?_
    show own_Go p e below G (T184.setTop (mkF m 90 #[.val (.int p0), .val (.ref b158), .val (.int (3 : Int32)), .val (.int (1 : Int32)), .val (.int (8 : Int32)), .unset, .unset, .unset] []))
    refine own_st (fun zw zk => XS.iloadN X184.here hx rfl (hb hby at_90) rfl zk) ?_
    refine own_st (fun zw zk => XS.ifNo X184.here hx rfl (hb hby at_91) rfl ((if0 _ _).trans (feq (by decide : ¬ ((1 : Int32) = (0 : Int32)))).1) zk) ?_
    refine own_st (fun zw zk => XS.iload X184.here hx rfl (hb hby at_94) rfl zk) ?_
    refine own_st (fun zw zk => XS.iconst X184.here hx rfl (hb hby at_96) zk) ?_
    refine own_st (fun zw zk => XS.iloadN X184.here hx rfl (hb hby at_97) rfl zk) ?_
    refine own_st (fun zw zk => XS.iconst X184.here hx rfl (hb hby at_98) zk) ?_
    refine own_st (fun zw zk => XS.iadd X184.here hx rfl (hb hby at_99) rfl zk) ?_
    refine own_st (fun zw zk => XS.imul X184.here hx rfl (hb hby at_100) rfl zk) ?_
    show own_Go p e below G (T184.setTop (mkF m 101 #[.val (.int p0), .val (.ref b158), .val (.int (3 : Int32)), .val (.int (1 : Int32)), .val (.int (8 : Int32)), .unset, .unset, .unset] [(.int (8 : Int32)), (.int (8 : Int32))]))
    refine own_st (fun zw zk => XS.icmpNo X184.here hx rfl (hb hby at_101) rfl (teq (by decide : (8 : Int32) = (8 : Int32))).2 zk) ?_
    refine own_st (fun zw zk => XS.iconst X184.here hx rfl (hb hby at_104) zk) ?_
    refine own_st (fun zw zk => XS.goto X184.here hx rfl (pc0 := 105) (pc' := 109) rfl (hb hby at_105) (by decide) (by decide) zk) ?_
    show own_Go p e below G (T184.setTop (mkF m 109 #[.val (.int p0), .val (.ref b158), .val (.int (3 : Int32)), .val (.int (1 : Int32)), .val (.int (8 : Int32)), .unset, .unset, .unset] [(.int (1 : Int32))]))
    refine own_st (fun zw zk => XS.istoreN X184.here hx rfl (hb hby at_109) rfl rfl zk) ?_
    show own_Go p e below G (T184.setTop (mkF m 110 #[.val (.int p0), .val (.ref b158), .val (.int (3 : Int32)), .val (.int (1 : Int32)), .val (.int (8 : Int32)), .unset, .unset, .unset] []))
    refine own_st (fun zw zk => XS.iloadN X184.here hx rfl (hb hby at_110) rfl zk) ?_
    refine own_st (fun zw zk => XS.ifYes X184.here hx rfl (pc0 := 111) (pc' := 116) rfl (hb hby at_111) rfl ((if0 _ _).trans (feq (by decide : ¬ ((1 : Int32) = (0 : Int32)))).2) (by decide) (by decide) zk) ?_
    refine own_st (fun zw zk => XS.iloadN X184.here hx rfl (hb hby at_116) rfl zk) ?_
    refine own_st (fun zw zk => XS.iconst X184.here hx rfl (hb hby at_117) zk) ?_
    refine own_st (fun zw zk => XS.iand X184.here hx rfl (hb hby at_118) rfl zk) ?_
    by_cases hc119 : (p0 &&& (4 : Int32)) = (0 : Int32)
    · refine own_st (fun zw zk => XS.ifYes X184.here hx rfl (pc0 := 119) (pc' := 126) rfl (hb hby at_119) rfl ((if0 _ _).trans (teq hc119).1) (by decide) (by decide) zk) ?_
      refine own_st (fun zw zk => XS.iconst X184.here hx rfl (hb hby at_126) zk) ?_
      refine own_st (fun zw zk => XS.istore X184.here hx rfl (hb hby at_127) rfl rfl zk) ?_
      show own_Go p e below G (T184.setTop (mkF m 129 #[.val (.int p0), .val (.ref b158), .val (.int (3 : Int32)), .val (.int (1 : Int32)), .val (.int (8 : Int32)), .val (.int (0 : Int32)), .unset, .unset] []))
      refine own_st (fun zw zk => XS.iload X184.here hx rfl (hb hby at_129) rfl zk) ?_
      refine own_st (fun zw zk => XS.ifYes X184.here hx rfl (pc0 := 131) (pc' := 143) rfl (hb hby at_131) rfl ((if0 _ _).trans (teq (by decide : (0 : Int32) = (0 : Int32))).1) (by decide) (by decide) zk) ?_
      refine own_st (fun zw zk => XS.aloadN X184.here hx rfl (hb hby at_143) rfl rfl zk) ?_
      refine own_st (fun zw zk => XS.iload X184.here hx rfl (hb hby at_144) rfl zk) ?_
      obtain ⟨_, _, ⟨T185, L185, k185, n185⟩, -, X185, ⟨Lc185, hQ185, l185, y185, z185⟩, st185⟩ := Jvm.LawKit.callS X184 hx (y := (⟨"com/example/passau/passau/insertion/TwoSat", "not", "(I)I"⟩ : MethodName)) hown (mvT hZ (hw _ (List.mem_of_getElem? (i := 40) rfl))) (mvT hZ (hw _ (List.mem_of_getElem? (i := 27) rfl))) (mvT hZ (hw _ (List.mem_of_getElem? (i := 2) rfl))) (mvT hZ (hw _ (List.mem_of_getElem? (i := 28) rfl))) (by decide) (backOf (W := 1) (rm5 l Z a0 hw [] (8 : Int32) T184.heap n0 Z184) hZ (hw _ (List.mem_of_getElem? (i := 28) rfl)) (hw _ (List.mem_of_getElem? (i := 2) rfl)) (by decide) (by decide)) (g := (mkF m 146 #[.val (.int p0), .val (.ref b158), .val (.int (3 : Int32)), .val (.int (1 : Int32)), .val (.int (8 : Int32)), .val (.int (0 : Int32)), .unset, .unset] [(.int (8 : Int32)), (.ref b158)])) rfl (by rw [hml]; rfl) (argsL := [(.int (8 : Int32))]) (rest := [(.ref b158)]) (lenOf pd_4 rfl) rfl (by show 2 * 0 + _ ≤ _; exact Nat.le_of_eq rfl) (hb hby at_146) (fun _ _ => ⟨rfl, rfl, (by decide : 3 + 0 ≤ _), (by decide : 36 + 0 ≤ _)⟩)
      dsimp only [Pt.U, Pt.locs, Pt.cells, Pt.slots] at X185 l185 y185 z185 st185 hQ185
      subst l185 y185 z185
      obtain ⟨rfl, N185q, e185⟩ := hQ185
      have N185 := Fr.app N184 N185q
      refine own_st (fun zw zk => st185 zw zk) ?_
      show own_Go p e below G (T185.setTop (mkF m 149 #[.val (.int p0), .val (.ref b158), .val (.int (3 : Int32)), .val (.int (1 : Int32)), .val (.int (8 : Int32)), .val (.int (0 : Int32)), .unset, .unset] [(.int (own_not (8 : Int32))), (.ref b158)]))
      rw [show (own_not (8 : Int32)) = (9 : Int32) from by decide]
      obtain ⟨cq186, kq186, q186a, q186b, q186c⟩ := isOf hZ e185 Ab158_184
      obtain ⟨_, _, ⟨T186, L186, k186, n186⟩, -, X186, ⟨Lc186, hQ186, l186, y186, z186⟩, st186⟩ := X185.virtualBack hx (y := (⟨"com/example/passau/passau/insertion/TwoSat", "require", "(I)V"⟩ : MethodName)) (z := (⟨"com/example/passau/passau/insertion/TwoSat", "require", "(I)V"⟩ : MethodName)) hown (mvT hZ (hw _ (List.mem_of_getElem? (i := 41) rfl))) (mvT hZ (hw _ (List.mem_of_getElem? (i := 17) rfl))) (notFace_of_selects (args := #[]) (mvT hZ (hw _ (List.mem_of_getElem? (i := 19) rfl)))) (mvT hZ (hw _ (List.mem_of_getElem? (i := 19) rfl))) (mvT hZ (hw _ (List.mem_of_getElem? (i := 18) rfl))) (by decide) (backOf (W := 0) (rm3 l Z a0 hw [] b158 (9 : Int32) afr159 ato159 (2 : Int32) (5 : Int32) ([(1 : Int32), (1 : Int32), (0 : Int32), (0 : Int32), (0 : Int32), (0 : Int32), (0 : Int32), (0 : Int32), (0 : Int32), (0 : Int32), (0 : Int32), (0 : Int32), (0 : Int32), (0 : Int32), (0 : Int32), (0 : Int32)]) ([(0 : Int32), (0 : Int32), (0 : Int32), (0 : Int32), (0 : Int32), (0 : Int32), (0 : Int32), (0 : Int32), (0 : Int32), (0 : Int32), (0 : Int32), (0 : Int32), (0 : Int32), (0 : Int32), (0 : Int32), (0 : Int32)]) [(1 : Int32), (1 : Int32), (8 : Int32), (0 : Int32), (0 : Int32), (0 : Int32), (0 : Int32), (0 : Int32), (0 : Int32), (0 : Int32), (0 : Int32), (0 : Int32), (0 : Int32), (0 : Int32), (0 : Int32), (0 : Int32)] [(1 : Int32), (1 : Int32), (8 : Int32), (8 : Int32), (0 : Int32), (0 : Int32), (0 : Int32), (0 : Int32), (0 : Int32), (0 : Int32), (0 : Int32), (0 : Int32), (0 : Int32), (0 : Int32), (0 : Int32), (0 : Int32)] [(0 : Int32), (0 : Int32), (9 : Int32), (0 : Int32), (0 : Int32), (0 : Int32), (0 : Int32), (0 : Int32), (0 : Int32), (0 : Int32), (0 : Int32), (0 : Int32), (0 : Int32), (0 : Int32), (0 : Int32), (0 : Int32)] [(0 : Int32), (0 : Int32), (9 : Int32), (9 : Int32), (0 : Int32), (0 : Int32), (0 : Int32), (0 : Int32), (0 : Int32), (0 : Int32), (0 : Int32), (0 : Int32), (0 : Int32), (0 : Int32), (0 : Int32), (0 : Int32)] T184.heap n0 Z184 (Ab158_184) (O184_0) (O184_1) (J184) (O184_3) (Oafr159L_184) (Oato159L_184) (G158) (Gafr159) (Gato159) (ne_b158_afr159) (ne_b158_ato159) (P159_0) (by decide +kernel) (by decide +kernel) (by decide +kernel) (by decide +kernel) (by decide +kernel) (by decide +kernel) (by decide)) hZ (hw _ (List.mem_of_getElem? (i := 20) rfl)) (hw _ (List.mem_of_getElem? (i := 2) rfl)) (by decide) (by decide)) q186a q186c (g := (mkF m 149 #[.val (.int p0), .val (.ref b158), .val (.int (3 : Int32)), .val (.int (1 : Int32)), .val (.int (8 : Int32)), .val (.int (0 : Int32)), .unset, .unset] [(.int (9 : Int32)), (.ref b158)])) rfl (by rw [hml]; rfl) (Steps.refl _) (argsL := [(.int (9 : Int32))]) (rest := []) (lenOf pd_1 rfl) rfl (by show 2 * 0 + _ ≤ _; exact Nat.le_of_eq rfl) (hb hby at_149) (fun _ _ => ⟨rfl, e185, (by decide : 3 + 0 ≤ _), (by decide : 36 + 0 ≤ _)⟩)
      dsimp only [Pt.U, Pt.locs, Pt.cells, Pt.slots] at X186 l186 y186 z186 st186 hQ186
      subst l186 y186 z186
      obtain ⟨rfl, N186q, K186, O186_0, O186_1, O186_2, O186_3, O186_4, O186_5⟩ := hQ186
      have Ab158_186 := Ab158_184.keep K186
      have Z186 : n0 ≤ T186.heap.size := Nat.le_trans Z184 K186.1
      have J186 : Fld Z T186.heap b158 "com/example/passau/passau/insertion/TwoSat" "implications" "I" (.int (4 : Int32)) := O186_3
      have N186 := Fr.app N185 N186q
      refine own_jp st186 ?_
      refine own_st (fun zw zk => XS.aloadN X186.here hx rfl (hb hby at_152) rfl rfl zk) ?_
      obtain ⟨cq187, kq187, q187a, q187b, q187c⟩ := isOf hZ rfl Ab158_186
      obtain ⟨_, _, ⟨T187, L187, k187, n187⟩, -, X187, ⟨Lc187, hQ187, l187, y187, z187⟩, st187⟩ := X186.virtualBack hx (y := (⟨"com/example/passau/passau/insertion/TwoSat", "solve", "()[Z"⟩ : MethodName)) (z := (⟨"com/example/passau/passau/insertion/TwoSat", "solve", "()[Z"⟩ : MethodName)) hown (mvT hZ (hw _ (List.mem_of_getElem? (i := 42) rfl))) (mvT hZ (hw _ (List.mem_of_getElem? (i := 43) rfl))) (notFace_of_selects (args := #[]) (mvT hZ (hw _ (List.mem_of_getElem? (i := 45) rfl)))) (mvT hZ (hw _ (List.mem_of_getElem? (i := 45) rfl))) (mvT hZ (hw _ (List.mem_of_getElem? (i := 44) rfl))) (by decide) (backOf (W := 0) (rm8 l Z a0 hw [] b158 afr159 ato159 (4 : Int32) (5 : Int32) ([(1 : Int32), (1 : Int32), (8 : Int32), (8 : Int32), (0 : Int32), (0 : Int32), (0 : Int32), (0 : Int32), (0 : Int32), (0 : Int32), (0 : Int32), (0 : Int32), (0 : Int32), (0 : Int32), (0 : Int32), (0 : Int32)]) ([(0 : Int32), (0 : Int32), (9 : Int32), (9 : Int32), (0 : Int32), (0 : Int32), (0 : Int32), (0 : Int32), (0 : Int32), (0 : Int32), (0 : Int32), (0 : Int32), (0 : Int32), (0 : Int32), (0 : Int32), (0 : Int32)]) 10 4 5 [(1 : Int32), (1 : Int32), (1 : Int32), (1 : Int32), (0 : Int32)] T186.heap n0 Z186 (O186_0) (O186_1) (O186_2) (J186) (O186_4) (O186_5) (by decide) (by decide) (by decide) (by decide) (by decide) (by decide) (by decide +kernel)) hZ (hw _ (List.mem_of_getElem? (i := 46) rfl)) (hw _ (List.mem_of_getElem? (i := 2) rfl)) (by decide) (by decide)) q187a q187c (g := (mkF m 153 #[.val (.int p0), .val (.ref b158), .val (.int (3 : Int32)), .val (.int (1 : Int32)), .val (.int (8 : Int32)), .val (.int (0 : Int32)), .unset, .unset] [(.ref b158)])) rfl (by rw [hml]; rfl) (Steps.refl _) (argsL := []) (rest := []) (lenOf pd_10 rfl) rfl (by show 2 * 0 + _ ≤ _; exact Nat.le_of_eq rfl) (hb hby at_153) (fun _ _ => ⟨rfl, rfl, (by decide : 3 + 12 ≤ _), (by decide : 36 + 189 ≤ _)⟩)
      dsimp only [Pt.U, Pt.locs, Pt.cells, Pt.slots] at X187 l187 y187 z187 st187 hQ187
      subst l187 y187 z187
      obtain ⟨b187, rfl, N187q, sz187, K187, R187_0⟩ := hQ187
      have ne_b158_b187 : b158 ≠ b187 := Nat.ne_of_lt (Nat.lt_of_lt_of_le Ab158_186.lt sz187)
      have ne_afr159_b187 : afr159 ≠ b187 := Nat.ne_of_lt (Nat.lt_of_lt_of_le O186_4.lt sz187)
      have ne_ato159_b187 : ato159 ≠ b187 := Nat.ne_of_lt (Nat.lt_of_lt_of_le O186_5.lt sz187)
      have G187 : n0 ≤ b187 := Nat.le_trans Z186 sz187
      have Ab158_187 := Ab158_186.keep K187
      have Ob158from_187 := O186_0.keep K187 nin0
      have Ob158to_187 := O186_1.keep K187 nin0
      have Ob158variables_187 := O186_2.keep K187 nin0
      have Ob158implications_187 := J186.keep K187 nin0
      have Oafr159L_187 := O186_4.keep K187 nin0
      have Oato159L_187 := O186_5.keep K187 nin0
      have Z187 : n0 ≤ T187.heap.size := Nat.le_trans Z186 K187.1
      have N187 := Fr.app N186 N187q
      refine own_jp st187 ?_
      refine own_st (fun zw zk => XS.astore X187.here hx rfl (hb hby at_156) rfl rfl rfl zk) ?_
      show own_Go p e below G (T187.setTop (mkF m 158 #[.val (.int p0), .val (.ref b158), .val (.int (3 : Int32)), .val (.int (1 : Int32)), .val (.int (8 : Int32)), .val (.int (0 : Int32)), .val (.ref b187), .unset] []))
      refine own_st (fun zw zk => XS.aload X187.here hx rfl (hb hby at_158) rfl rfl zk) ?_
      refine own_st (fun zw zk => XS.ifnonnullYes X187.here hx rfl (pc0 := 160) (pc' := 165) rfl (hb hby at_160) rfl (by decide) (by decide) zk) ?_
      refine own_st (fun zw zk => XS.aload X187.here hx rfl (hb hby at_165) rfl rfl zk) ?_
      refine own_st (fun zw zk => own_len X187 hx hZ rfl R187_0 (z := (5 : Int32)) (rfl) (g := (mkF m 167 #[.val (.int p0), .val (.ref b158), .val (.int (3 : Int32)), .val (.int (1 : Int32)), .val (.int (8 : Int32)), .val (.int (0 : Int32)), .val (.ref b187), .unset] [(.ref b187)])) rfl rfl (hb hby at_167) _ zk) ?_
      refine own_st (fun zw zk => XS.iloadN X187.here hx rfl (hb hby at_168) rfl zk) ?_
      refine own_st (fun zw zk => XS.iconst X187.here hx rfl (hb hby at_169) zk) ?_
      refine own_st (fun zw zk => XS.iadd X187.here hx rfl (hb hby at_170) rfl zk) ?_
      refine own_st (fun zw zk => XS.icmpYes X187.here hx rfl (pc0 := 171) (pc' := 176) rfl (hb hby at_171) rfl (teq (by decide : (5 : Int32) = (5 : Int32))).1 (by decide) (by decide) zk) ?_
      show own_Go p e below G (T187.setTop (mkF m 176 #[.val (.int p0), .val (.ref b158), .val (.int (3 : Int32)), .val (.int (1 : Int32)), .val (.int (8 : Int32)), .val (.int (0 : Int32)), .val (.ref b187), .unset] []))
      refine own_st (fun zw zk => XS.iload X187.here hx rfl (hb hby at_176) rfl zk) ?_
      refine own_st (fun zw zk => XS.iconst X187.here hx rfl (hb hby at_178) zk) ?_
      refine own_st (fun zw zk => XS.ishr X187.here hx rfl (hb hby at_179) rfl zk) ?_
      refine own_st (fun zw zk => XS.istore X187.here hx rfl (hb hby at_180) rfl rfl zk) ?_
      show own_Go p e below G (T187.setTop (mkF m 182 #[.val (.int p0), .val (.ref b158), .val (.int (3 : Int32)), .val (.int (1 : Int32)), .val (.int (8 : Int32)), .val (.int (0 : Int32)), .val (.ref b187), .val (.int ((8 : Int32) >>> ((1 : Int32) &&& 31)))] []))
      rw [show ((8 : Int32) >>> ((1 : Int32) &&& 31)) = (4 : Int32) from by decide]
      refine own_st (fun zw zk => XS.iload X187.here hx rfl (hb hby at_182) rfl zk) ?_
      refine own_st (fun zw zk => XS.ifNo X187.here hx rfl (hb hby at_184) rfl ((if0 _ _).trans (flt (by decide : ¬ ((4 : Int32) < (0 : Int32)))).1) zk) ?_
      refine own_st (fun zw zk => XS.iload X187.here hx rfl (hb hby at_187) rfl zk) ?_
      refine own_st (fun zw zk => XS.aload X187.here hx rfl (hb hby at_189) rfl rfl zk) ?_
      refine own_st (fun zw zk => own_len X187 hx hZ rfl R187_0 (z := (5 : Int32)) (rfl) (g := (mkF m 191 #[.val (.int p0), .val (.ref b158), .val (.int (3 : Int32)), .val (.int (1 : Int32)), .val (.int (8 : Int32)), .val (.int (0 : Int32)), .val (.ref b187), .val (.int (4 : Int32))] [(.ref b187), (.int (4 : Int32))])) rfl rfl (hb hby at_191) _ zk) ?_
      refine own_st (fun zw zk => XS.icmpYes X187.here hx rfl (pc0 := 192) (pc' := 197) rfl (hb hby at_192) rfl (tlt (by decide : (4 : Int32) < (5 : Int32))).1 (by decide) (by decide) zk) ?_
      refine own_st (fun zw zk => XS.aload X187.here hx rfl (hb hby at_197) rfl rfl zk) ?_
      refine own_st (fun zw zk => XS.iload X187.here hx rfl (hb hby at_199) rfl zk) ?_
      show own_Go p e below G (T187.setTop (mkF m 201 #[.val (.int p0), .val (.ref b158), .val (.int (3 : Int32)), .val (.int (1 : Int32)), .val (.int (8 : Int32)), .val (.int (0 : Int32)), .val (.ref b187), .val (.int (4 : Int32))] [(.int (4 : Int32)), (.ref b187)]))
      refine own_st (fun zw zk => own_zld X187 hx hZ rfl R187_0 (j := (4 : Int32)) (v := (.int (0 : Int32))) (i := 4) (by decide) (by decide) rfl (g := (mkF m 201 #[.val (.int p0), .val (.ref b158), .val (.int (3 : Int32)), .val (.int (1 : Int32)), .val (.int (8 : Int32)), .val (.int (0 : Int32)), .val (.ref b187), .val (.int (4 : Int32))] [(.int (4 : Int32)), (.ref b187)])) rfl rfl (hb hby at_201) _ zk) ?_
      refine own_st (fun zw zk => XS.iload X187.here hx rfl (hb hby at_202) rfl zk) ?_
      refine own_st (fun zw zk => XS.icmpNo X187.here hx rfl (hb hby at_204) rfl (teq (by decide : (0 : Int32) = (0 : Int32))).2 zk) ?_
      refine own_st (fun zw zk => XS.aload X187.here hx rfl (hb hby at_207) rfl rfl zk) ?_
      refine own_st (fun zw zk => XS.iconst X187.here hx rfl (hb hby at_209) zk) ?_
      refine own_st (fun zw zk => own_zld X187 hx hZ rfl R187_0 (j := (0 : Int32)) (v := (.int (1 : Int32))) (i := 0) (by decide) (by decide) rfl (g := (mkF m 210 #[.val (.int p0), .val (.ref b158), .val (.int (3 : Int32)), .val (.int (1 : Int32)), .val (.int (8 : Int32)), .val (.int (0 : Int32)), .val (.ref b187), .val (.int (4 : Int32))] [(.int (0 : Int32)), (.ref b187)])) rfl rfl (hb hby at_210) _ zk) ?_
      refine own_st (fun zw zk => XS.ifNo X187.here hx rfl (hb hby at_211) rfl ((if0 _ _).trans (feq (by decide : ¬ ((1 : Int32) = (0 : Int32)))).1) zk) ?_
      refine own_st (fun zw zk => XS.iconst X187.here hx rfl (hb hby at_214) zk) ?_
      show own_Go p e below G (T187.setTop (mkF m 215 #[.val (.int p0), .val (.ref b158), .val (.int (3 : Int32)), .val (.int (1 : Int32)), .val (.int (8 : Int32)), .val (.int (0 : Int32)), .val (.ref b187), .val (.int (4 : Int32))] [(.int (1 : Int32))]))
      refine own_st (fun zw zk => XS.goto X187.here hx rfl (pc0 := 215) (pc' := 219) rfl (hb hby at_215) (by decide) (by decide) zk) ?_
      show own_Go p e below G (T187.setTop (mkF m 219 #[.val (.int p0), .val (.ref b158), .val (.int (3 : Int32)), .val (.int (1 : Int32)), .val (.int (8 : Int32)), .val (.int (0 : Int32)), .val (.ref b187), .val (.int (4 : Int32))] [(.int (1 : Int32))]))
      subst hG
      obtain ⟨fs, hr, hrun, hended, hW, hsame⟩ := X187.leave (v := some (.int (1 : Int32))) (hlocks := Bd.notSynchronized) (fun h => by rw [Bd.returns] at h; cases h)
      refine ⟨_, retN X187 hx (t := .boolean) Bd.returns (by simp) (hb hby at_219) hr, _, hrun, hended, _, _, rfl, ?_, ⟨_, rfl⟩, hW, hsame.mono (by decide) (by decide)⟩
      show Q0 Z p0 h0 n0 _ T187.heap _
      exact ⟨rfl, N187⟩
    · refine own_st (fun zw zk => XS.ifNo X184.here hx rfl (hb hby at_119) rfl ((if0 _ _).trans (feq hc119).1) zk) ?_
      refine own_st (fun zw zk => XS.iconst X184.here hx rfl (hb hby at_122) zk) ?_
      refine own_st (fun zw zk => XS.goto X184.here hx rfl (pc0 := 123) (pc' := 127) rfl (hb hby at_123) (by decide) (by decide) zk) ?_
      show own_Go p e below G (T184.setTop (mkF m 127 #[.val (.int p0), .val (.ref b158), .val (.int (3 : Int32)), .val (.int (1 : Int32)), .val (.int (8 : Int32)), .unset, .unset, .unset] [(.int (1 : Int32))]))
      refine own_st (fun zw zk => XS.istore X184.here hx rfl (hb hby at_127) rfl rfl zk) ?_
      show own_Go p e below G (T184.setTop (mkF m 129 #[.val (.int p0), .val (.ref b158), .val (.int (3 : Int32)), .val (.int (1 : Int32)), .val (.int (8 : Int32)), .val (.int (1 : Int32)), .unset, .unset] []))
      refine own_st (fun zw zk => XS.iload X184.here hx rfl (hb hby at_129) rfl zk) ?_
      refine own_st (fun zw zk => XS.ifNo X184.here hx rfl (hb hby at_131) rfl ((if0 _ _).trans (feq (by decide : ¬ ((1 : Int32) = (0 : Int32)))).1) zk) ?_
      refine own_st (fun zw zk => XS.aloadN X184.here hx rfl (hb hby at_134) rfl rfl zk) ?_
      refine own_st (fun zw zk => XS.iload X184.here hx rfl (hb hby at_135) rfl zk) ?_
      obtain ⟨cq188, kq188, q188a, q188b, q188c⟩ := isOf hZ rfl Ab158_184
      obtain ⟨_, _, ⟨T188, L188, k188, n188⟩, -, X188, ⟨Lc188, hQ188, l188, y188, z188⟩, st188⟩ := X184.virtualBack hx (y := (⟨"com/example/passau/passau/insertion/TwoSat", "require", "(I)V"⟩ : MethodName)) (z := (⟨"com/example/passau/passau/insertion/TwoSat", "require", "(I)V"⟩ : MethodName)) hown (mvT hZ (hw _ (List.mem_of_getElem? (i := 41) rfl))) (mvT hZ (hw _ (List.mem_of_getElem? (i := 17) rfl))) (notFace_of_selects (args := #[]) (mvT hZ (hw _ (List.mem_of_getElem? (i := 19) rfl)))) (mvT hZ (hw _ (List.mem_of_getElem? (i := 19) rfl))) (mvT hZ (hw _ (List.mem_of_getElem? (i := 18) rfl))) (by decide) (backOf (W := 0) (rm3 l Z a0 hw [] b158 (8 : Int32) afr159 ato159 (2 : Int32) (5 : Int32) ([(1 : Int32), (1 : Int32), (0 : Int32), (0 : Int32), (0 : Int32), (0 : Int32), (0 : Int32), (0 : Int32), (0 : Int32), (0 : Int32), (0 : Int32), (0 : Int32), (0 : Int32), (0 : Int32), (0 : Int32), (0 : Int32)]) ([(0 : Int32), (0 : Int32), (0 : Int32), (0 : Int32), (0 : Int32), (0 : Int32), (0 : Int32), (0 : Int32), (0 : Int32), (0 : Int32), (0 : Int32), (0 : Int32), (0 : Int32), (0 : Int32), (0 : Int32), (0 : Int32)]) [(1 : Int32), (1 : Int32), (9 : Int32), (0 : Int32), (0 : Int32), (0 : Int32), (0 : Int32), (0 : Int32), (0 : Int32), (0 : Int32), (0 : Int32), (0 : Int32), (0 : Int32), (0 : Int32), (0 : Int32), (0 : Int32)] [(1 : Int32), (1 : Int32), (9 : Int32), (9 : Int32), (0 : Int32), (0 : Int32), (0 : Int32), (0 : Int32), (0 : Int32), (0 : Int32), (0 : Int32), (0 : Int32), (0 : Int32), (0 : Int32), (0 : Int32), (0 : Int32)] [(0 : Int32), (0 : Int32), (8 : Int32), (0 : Int32), (0 : Int32), (0 : Int32), (0 : Int32), (0 : Int32), (0 : Int32), (0 : Int32), (0 : Int32), (0 : Int32), (0 : Int32), (0 : Int32), (0 : Int32), (0 : Int32)] [(0 : Int32), (0 : Int32), (8 : Int32), (8 : Int32), (0 : Int32), (0 : Int32), (0 : Int32), (0 : Int32), (0 : Int32), (0 : Int32), (0 : Int32), (0 : Int32), (0 : Int32), (0 : Int32), (0 : Int32), (0 : Int32)] T184.heap n0 Z184 (Ab158_184) (O184_0) (O184_1) (J184) (O184_3) (Oafr159L_184) (Oato159L_184) (G158) (Gafr159) (Gato159) (ne_b158_afr159) (ne_b158_ato159) (P159_0) (by decide +kernel) (by decide +kernel) (by decide +kernel) (by decide +kernel) (by decide +kernel) (by decide +kernel) (by decide)) hZ (hw _ (List.mem_of_getElem? (i := 20) rfl)) (hw _ (List.mem_of_getElem? (i := 2) rfl)) (by decide) (by decide)) q188a q188c (g := (mkF m 137 #[.val (.int p0), .val (.ref b158), .val (.int (3 : Int32)), .val (.int (1 : Int32)), .val (.int (8 : Int32)), .val (.int (1 : Int32)), .unset, .unset] [(.int (8 : Int32)), (.ref b158)])) rfl (by rw [hml]; rfl) (Steps.refl _) (argsL := [(.int (8 : Int32))]) (rest := []) (lenOf pd_1 rfl) rfl (by show 2 * 0 + _ ≤ _; exact Nat.le_of_eq rfl) (hb hby at_137) (fun _ _ => ⟨rfl, rfl, (by decide : 3 + 0 ≤ _), (by decide : 36 + 0 ≤ _)⟩)
      dsimp only [Pt.U, Pt.locs, Pt.cells, Pt.slots] at X188 l188 y188 z188 st188 hQ188
      subst l188 y188 z188
      obtain ⟨rfl, N188q, K188, O188_0, O188_1, O188_2, O188_3, O188_4, O188_5⟩ := hQ188
      have Ab158_188 := Ab158_184.keep K188
      have Z188 : n0 ≤ T188.heap.size := Nat.le_trans Z184 K188.1
      have J188 : Fld Z T188.heap b158 "com/example/passau/passau/insertion/TwoSat" "implications" "I" (.int (4 : Int32)) := O188_3
      have N188 := Fr.app N184 N188q
      refine own_jp st188 ?_
      refine own_st (fun zw zk => XS.goto X188.here hx rfl (pc0 := 140) (pc' := 152) rfl (hb hby at_140) (by decide) (by decide) zk) ?_
      show own_Go p e below G (T188.setTop (mkF m 152 #[.val (.int p0), .val (.ref b158), .val (.int (3 : Int32)), .val (.int (1 : Int32)), .val (.int (8 : Int32)), .val (.int (1 : Int32)), .unset, .unset] []))
      refine own_st (fun zw zk => XS.aloadN X188.here hx rfl (hb hby at_152) rfl rfl zk) ?_
      obtain ⟨cq189, kq189, q189a, q189b, q189c⟩ := isOf hZ rfl Ab158_188
      obtain ⟨_, _, ⟨T189, L189, k189, n189⟩, -, X189, ⟨Lc189, hQ189, l189, y189, z189⟩, st189⟩ := X188.virtualBack hx (y := (⟨"com/example/passau/passau/insertion/TwoSat", "solve", "()[Z"⟩ : MethodName)) (z := (⟨"com/example/passau/passau/insertion/TwoSat", "solve", "()[Z"⟩ : MethodName)) hown (mvT hZ (hw _ (List.mem_of_getElem? (i := 42) rfl))) (mvT hZ (hw _ (List.mem_of_getElem? (i := 43) rfl))) (notFace_of_selects (args := #[]) (mvT hZ (hw _ (List.mem_of_getElem? (i := 45) rfl)))) (mvT hZ (hw _ (List.mem_of_getElem? (i := 45) rfl))) (mvT hZ (hw _ (List.mem_of_getElem? (i := 44) rfl))) (by decide) (backOf (W := 0) (rm8 l Z a0 hw [] b158 afr159 ato159 (4 : Int32) (5 : Int32) ([(1 : Int32), (1 : Int32), (9 : Int32), (9 : Int32), (0 : Int32), (0 : Int32), (0 : Int32), (0 : Int32), (0 : Int32), (0 : Int32), (0 : Int32), (0 : Int32), (0 : Int32), (0 : Int32), (0 : Int32), (0 : Int32)]) ([(0 : Int32), (0 : Int32), (8 : Int32), (8 : Int32), (0 : Int32), (0 : Int32), (0 : Int32), (0 : Int32), (0 : Int32), (0 : Int32), (0 : Int32), (0 : Int32), (0 : Int32), (0 : Int32), (0 : Int32), (0 : Int32)]) 10 4 5 [(1 : Int32), (1 : Int32), (1 : Int32), (1 : Int32), (1 : Int32)] T188.heap n0 Z188 (O188_0) (O188_1) (O188_2) (J188) (O188_4) (O188_5) (by decide) (by decide) (by decide) (by decide) (by decide) (by decide) (by decide +kernel)) hZ (hw _ (List.mem_of_getElem? (i := 46) rfl)) (hw _ (List.mem_of_getElem? (i := 2) rfl)) (by decide) (by decide)) q189a q189c (g := (mkF m 153 #[.val (.int p0), .val (.ref b158), .val (.int (3 : Int32)), .val (.int (1 : Int32)), .val (.int (8 : Int32)), .val (.int (1 : Int32)), .unset, .unset] [(.ref b158)])) rfl (by rw [hml]; rfl) (Steps.refl _) (argsL := []) (rest := []) (lenOf pd_10 rfl) rfl (by show 2 * 0 + _ ≤ _; exact Nat.le_of_eq rfl) (hb hby at_153) (fun _ _ => ⟨rfl, rfl, (by decide : 3 + 12 ≤ _), (by decide : 36 + 189 ≤ _)⟩)
      dsimp only [Pt.U, Pt.locs, Pt.cells, Pt.slots] at X189 l189 y189 z189 st189 hQ189
      subst l189 y189 z189
      obtain ⟨b189, rfl, N189q, sz189, K189, R189_0⟩ := hQ189
      have ne_b158_b189 : b158 ≠ b189 := Nat.ne_of_lt (Nat.lt_of_lt_of_le Ab158_188.lt sz189)
      have ne_afr159_b189 : afr159 ≠ b189 := Nat.ne_of_lt (Nat.lt_of_lt_of_le O188_4.lt sz189)
      have ne_ato159_b189 : ato159 ≠ b189 := Nat.ne_of_lt (Nat.lt_of_lt_of_le O188_5.lt sz189)
      have G189 : n0 ≤ b189 := Nat.le_trans Z188 sz189
      have Ab158_189 := Ab158_188.keep K189
      have Ob158from_189 := O188_0.keep K189 nin0
      have Ob158to_189 := O188_1.keep K189 nin0
      have Ob158variables_189 := O188_2.keep K189 nin0
      have Ob158implications_189 := J188.keep K189 nin0
      have Oafr159L_189 := O188_4.keep K189 nin0
      have Oato159L_189 := O188_5.keep K189 nin0
      have Z189 : n0 ≤ T189.heap.size := Nat.le_trans Z188 K189.1
      have N189 := Fr.app N188 N189q
      refine own_jp st189 ?_
      refine own_st (fun zw zk => XS.astore X189.here hx rfl (hb hby at_156) rfl rfl rfl zk) ?_
      show own_Go p e below G (T189.setTop (mkF m 158 #[.val (.int p0), .val (.ref b158), .val (.int (3 : Int32)), .val (.int (1 : Int32)), .val (.int (8 : Int32)), .val (.int (1 : Int32)), .val (.ref b189), .unset] []))
      refine own_st (fun zw zk => XS.aload X189.here hx rfl (hb hby at_158) rfl rfl zk) ?_
      refine own_st (fun zw zk => XS.ifnonnullYes X189.here hx rfl (pc0 := 160) (pc' := 165) rfl (hb hby at_160) rfl (by decide) (by decide) zk) ?_
      refine own_st (fun zw zk => XS.aload X189.here hx rfl (hb hby at_165) rfl rfl zk) ?_
      refine own_st (fun zw zk => own_len X189 hx hZ rfl R189_0 (z := (5 : Int32)) (rfl) (g := (mkF m 167 #[.val (.int p0), .val (.ref b158), .val (.int (3 : Int32)), .val (.int (1 : Int32)), .val (.int (8 : Int32)), .val (.int (1 : Int32)), .val (.ref b189), .unset] [(.ref b189)])) rfl rfl (hb hby at_167) _ zk) ?_
      refine own_st (fun zw zk => XS.iloadN X189.here hx rfl (hb hby at_168) rfl zk) ?_
      refine own_st (fun zw zk => XS.iconst X189.here hx rfl (hb hby at_169) zk) ?_
      refine own_st (fun zw zk => XS.iadd X189.here hx rfl (hb hby at_170) rfl zk) ?_
      refine own_st (fun zw zk => XS.icmpYes X189.here hx rfl (pc0 := 171) (pc' := 176) rfl (hb hby at_171) rfl (teq (by decide : (5 : Int32) = (5 : Int32))).1 (by decide) (by decide) zk) ?_
      show own_Go p e below G (T189.setTop (mkF m 176 #[.val (.int p0), .val (.ref b158), .val (.int (3 : Int32)), .val (.int (1 : Int32)), .val (.int (8 : Int32)), .val (.int (1 : Int32)), .val (.ref b189), .unset] []))
      refine own_st (fun zw zk => XS.iload X189.here hx rfl (hb hby at_176) rfl zk) ?_
      refine own_st (fun zw zk => XS.iconst X189.here hx rfl (hb hby at_178) zk) ?_
      refine own_st (fun zw zk => XS.ishr X189.here hx rfl (hb hby at_179) rfl zk) ?_
      refine own_st (fun zw zk => XS.istore X189.here hx rfl (hb hby at_180) rfl rfl zk) ?_
      show own_Go p e below G (T189.setTop (mkF m 182 #[.val (.int p0), .val (.ref b158), .val (.int (3 : Int32)), .val (.int (1 : Int32)), .val (.int (8 : Int32)), .val (.int (1 : Int32)), .val (.ref b189), .val (.int ((8 : Int32) >>> ((1 : Int32) &&& 31)))] []))
      rw [show ((8 : Int32) >>> ((1 : Int32) &&& 31)) = (4 : Int32) from by decide]
      refine own_st (fun zw zk => XS.iload X189.here hx rfl (hb hby at_182) rfl zk) ?_
      refine own_st (fun zw zk => XS.ifNo X189.here hx rfl (hb hby at_184) rfl ((if0 _ _).trans (flt (by decide : ¬ ((4 : Int32) < (0 : Int32)))).1) zk) ?_
      refine own_st (fun zw zk => XS.iload X189.here hx rfl (hb hby at_187) rfl zk) ?_
      refine own_st (fun zw zk => XS.aload X189.here hx rfl (hb hby at_189) rfl rfl zk) ?_
      refine own_st (fun zw zk => own_len X189 hx hZ rfl R189_0 (z := (5 : Int32)) (rfl) (g := (mkF m 191 #[.val (.int p0), .val (.ref b158), .val (.int (3 : Int32)), .val (.int (1 : Int32)), .val (.int (8 : Int32)), .val (.int (1 : Int32)), .val (.ref b189), .val (.int (4 : Int32))] [(.ref b189), (.int (4 : Int32))])) rfl rfl (hb hby at_191) _ zk) ?_
      refine own_st (fun zw zk => XS.icmpYes X189.here hx rfl (pc0 := 192) (pc' := 197) rfl (hb hby at_192) rfl (tlt (by decide : (4 : Int32) < (5 : Int32))).1 (by decide) (by decide) zk) ?_
      refine own_st (fun zw zk => XS.aload X189.here hx rfl (hb hby at_197) rfl rfl zk) ?_
      refine own_st (fun zw zk => XS.iload X189.here hx rfl (hb hby at_199) rfl zk) ?_
      show own_Go p e below G (T189.setTop (mkF m 201 #[.val (.int p0), .val (.ref b158), .val (.int (3 : Int32)), .val (.int (1 : Int32)), .val (.int (8 : Int32)), .val (.int (1 : Int32)), .val (.ref b189), .val (.int (4 : Int32))] [(.int (4 : Int32)), (.ref b189)]))
      refine own_st (fun zw zk => own_zld X189 hx hZ rfl R189_0 (j := (4 : Int32)) (v := (.int (1 : Int32))) (i := 4) (by decide) (by decide) rfl (g := (mkF m 201 #[.val (.int p0), .val (.ref b158), .val (.int (3 : Int32)), .val (.int (1 : Int32)), .val (.int (8 : Int32)), .val (.int (1 : Int32)), .val (.ref b189), .val (.int (4 : Int32))] [(.int (4 : Int32)), (.ref b189)])) rfl rfl (hb hby at_201) _ zk) ?_
      refine own_st (fun zw zk => XS.iload X189.here hx rfl (hb hby at_202) rfl zk) ?_
      refine own_st (fun zw zk => XS.icmpNo X189.here hx rfl (hb hby at_204) rfl (teq (by decide : (1 : Int32) = (1 : Int32))).2 zk) ?_
      refine own_st (fun zw zk => XS.aload X189.here hx rfl (hb hby at_207) rfl rfl zk) ?_
      refine own_st (fun zw zk => XS.iconst X189.here hx rfl (hb hby at_209) zk) ?_
      refine own_st (fun zw zk => own_zld X189 hx hZ rfl R189_0 (j := (0 : Int32)) (v := (.int (1 : Int32))) (i := 0) (by decide) (by decide) rfl (g := (mkF m 210 #[.val (.int p0), .val (.ref b158), .val (.int (3 : Int32)), .val (.int (1 : Int32)), .val (.int (8 : Int32)), .val (.int (1 : Int32)), .val (.ref b189), .val (.int (4 : Int32))] [(.int (0 : Int32)), (.ref b189)])) rfl rfl (hb hby at_210) _ zk) ?_
      refine own_st (fun zw zk => XS.ifNo X189.here hx rfl (hb hby at_211) rfl ((if0 _ _).trans (feq (by decide : ¬ ((1 : Int32) = (0 : Int32)))).1) zk) ?_
      refine own_st (fun zw zk => XS.iconst X189.here hx rfl (hb hby at_214) zk) ?_
      show own_Go p e below G (T189.setTop (mkF m 215 #[.val (.int p0), .val (.ref b158), .val (.int (3 : Int32)), .val (.int (1 : Int32)), .val (.int (8 : Int32)), .val (.int (1 : Int32)), .val (.ref b189), .val (.int (4 : Int32))] [(.int (1 : Int32))]))
      refine own_st (fun zw zk => XS.goto X189.here hx rfl (pc0 := 215) (pc' := 219) rfl (hb hby at_215) (by decide) (by decide) zk) ?_
      show own_Go p e below G (T189.setTop (mkF m 219 #[.val (.int p0), .val (.ref b158), .val (.int (3 : Int32)), .val (.int (1 : Int32)), .val (.int (8 : Int32)), .val (.int (1 : Int32)), .val (.ref b189), .val (.int (4 : Int32))] [(.int (1 : Int32))]))
      subst hG
      obtain ⟨fs, hr, hrun, hended, hW, hsame⟩ := X189.leave (v := some (.int (1 : Int32))) (hlocks := Bd.notSynchronized) (fun h => by rw [Bd.returns] at h; cases h)
      refine ⟨_, retN X189 hx (t := .boolean) Bd.returns (by simp) (hb hby at_219) hr, _, hrun, hended, _, _, rfl, ?_, ⟨_, rfl⟩, hW, hsame.mono (by decide) (by decide)⟩
      show Q0 Z p0 h0 n0 _ T189.heap _
      exact ⟨rfl, N189⟩
set_option maxRecDepth 65536 in
set_option maxHeartbeats 40000000 in
theorem comes_1 {Post : Tables → Env → Array Value → State → Outcome → State → Prop} (hpost : ∀ tb e args s v u, (limb_1_1.after args s (.returned v) u = true ∧ limb_1_2.after args s (.returned v) u = true ∧ True) → FrameEnd s (.returned v) u (Jvm.fieldLocs frame_1_writes args s ++ Jvm.arrayLocs frame_1_arrays args s ++ Jvm.staticLocs frame_1_statics s) 40 384 → Post tb e args s (.returned v) u) :
    ArmFor flags0 classFile x code maxLocals ret World_1 tables_1 room_1 Calls_1 rest_1 Pre_1 Post := by
  intro l hfl _ _ p e ha hc hk s m args below hf hA hF happ hP
  obtain ⟨hcalls, hrest, hpre⟩ := hP
  obtain ⟨-, -, -, hnamed, -, -, -, hat⟩ := (Spec.applies_iff hf).mp happ
  obtain ⟨hg, hn⟩ := and_e (Cond.before_iff.mp (show (Jvm.Cond.and given_1 narrow_1).before args s = true from hpre))
  obtain ⟨g1, g2⟩ := and_e hg
  obtain ⟨w0, rfl⟩ : ∃ w0 : Value, args = #[w0] := by
    have hs : args.size = 1 := by simpa [Cond.value, given_1] using g1
    obtain ⟨L⟩ := args
    match L, hs with
    | [w0], _ => exact ⟨w0, rfl⟩
  have hw := fun d (hd : d ∈ tables_1) => atoms_spec (ws := Jvm.Cond.code x code maxLocals ret :: tables_1) hat d (List.mem_cons_of_mem _ hd)
  obtain ⟨i0, ei0⟩ := is_v g2
  obtain rfl : w0 = (.int i0) := Option.some.inj ei0
  obtain ⟨n, o, h1, h2, h3, _, L, rfl, ⟨rfl, N⟩, hq⟩ := rm0 l s _ hw tables_1 i0 s.heap s.heap.size (Nat.le_refl _) p e ha hc hk s m _ below hf ((Spec.applies_iff_loose hf).mp happ).1 ⟨rfl, State.Warmed39.refl s, rfl⟩ trivial
  refine ⟨n, _, h1, h2, h3, hpost _ _ _ _ _ _ ⟨Cond.after_iff.mpr rfl, Cond.after_iff.mpr (eq_i res_at (Term.int_eval (1)) rfl), trivial⟩ ⟨hq.1, hq.2.1, (hq.2.2.sift fun y hy => Or.inr (N y hy)).mono (by decide) (by decide)⟩⟩
theorem main_1_1 : Claimed_1_1 := comes_1 fun _ _ _ _ _ _ h hF => ⟨h.1, hF⟩
theorem main_1_2 : Claimed_1_2 := comes_1 fun _ _ _ _ _ _ h hF => ⟨h.2.1, hF⟩
end Jvm.Pilot.@@N@@
namespace Jvm.Pilot.@@N@@
open Jvm Jvm.ClassFile Sem Op Lib Jvm.Free Jvm.Stand Jvm.Pilot.@@N@@.Jvm.D
/-! MADE BY PROGRAM (witnessworld.py) out of the Statement's table words and the real class files: 15 classes; the members and pool entries that the words name. The judged class is class 1, her method 1. -/
namespace start1
open Jvm.ClassFile
def u (s : String) : CpInfo := .utf8 (stringToUtf16 s)
/-- a pool by its gaps: so many unusable entries, then the entry; so many at the end -/
def gap : Nat → List CpInfo → List CpInfo
  | 0, r => r
  | n + 1, r => .unusable :: gap n r
def poolList (es : List (Nat × CpInfo)) (last : Nat) : List CpInfo := es.foldr (fun e r => gap e.1 (e.2 :: r)) (gap last [])
def pool (es : List (Nat × CpInfo)) (last : Nat) : Array CpInfo := ⟨poolList es last⟩
def fileOf (pool : Array CpInfo) (this : Nat) (attrs : Array Attribute := #[]) (ms : Array MethodInfo := #[]) (fl : Nat := 33) (sup : Nat := 0) (ifs : Array Nat := #[]) (fds : Array FieldInfo := #[]) : ClassFile where
  minorVersion := 0
  majorVersion := 65
  constantPool := pool
  accessFlags := fl
  thisClass := this
  superClass := sup
  interfaces := ifs
  fields := fds
  methods := ms
  attributes := attrs
def plain (name : String) (sup : Option ClassId) : Class where
  name := name
  kind := .ordinary
  loader := none
  accessFlags := 33
  super := sup
  interfaces := #[]
  cf := none
  fields := #[]
  methods := #[]
  instanceTypes := #[]
  staticTypes := #[]
  resolved := #[]
  callSites := []
  init := .initialized
  statics := none
  mirror := none

def pool0 : Array CpInfo := pool [(5, u "<init>"), (0, u "()V"), (1, .class_ 10), (1, u "java/lang/Object")] 113

def k0c0 : Code := { maxStack := 0, maxLocals := 1, code := object_method_1_code, exceptionTable := #[], attributes := #[] }
def k0m0 : Method := { name := "<init>", desc := "()V", sig := { parameters := [], returnType := none }, accessFlags := 1, code := some k0c0 }
/-- java/lang/Object -/
def k0 : Class := { plain "java/lang/Object" none with
  accessFlags := 33
  interfaces := #[]
  cf := some (fileOf pool0 8 #[] #[{ accessFlags := 1, nameIndex := 5, descriptorIndex := 6, attributes := #[] }] 33 0 #[] #[])
  fields := #[]
  methods := #[k0m0]
  instanceTypes := #[]
  staticTypes := #[]
  resolved := Array.replicate 124 none
  statics := none }

def pool1 : Array CpInfo := pool [(2, .class_ 4), (0, .nameAndType 5 6), (0, u "java/lang/Object"), (0, u "<init>"), (0, u "()V"), (0, .class_ 8), (0, u "com/example/passau/passau/insertion/TwoSat"), (0, .methodref 7 3), (0, .methodref 7 11), (0, .nameAndType 12 13), (0, u "variable"), (0, u "()I"), (0, .methodref 7 15), (0, .nameAndType 16 17), (0, u "require"), (0, u "(I)V"), (0, .methodref 7 19), (0, .nameAndType 20 21), (0, u "not"), (0, u "(I)I"), (0, .methodref 7 23), (0, .nameAndType 24 25), (0, u "solve"), (0, u "()[Z"), (0, .class_ 27), (0, u "com/example/passau/passau/insertion/TwoSatVariablePinLaw"), (2, u "law"), (0, u "(I)Z")] 5

def k1m0 : Method := { name := "<init>", desc := "()V", sig := { parameters := [], returnType := none }, accessFlags := 2, code := none }
def k1c1 : Code := { maxStack := 4, maxLocals := 8, code := code, exceptionTable := #[], attributes := #[] }
def k1m1 : Method := { name := "law", desc := "(I)Z", sig := { parameters := [.int], returnType := some .boolean }, accessFlags := 9, code := some k1c1 }
/-- com/example/passau/passau/insertion/TwoSatVariablePinLaw -/
def k1 : Class := { plain "com/example/passau/passau/insertion/TwoSatVariablePinLaw" (some 0) with
  accessFlags := 49
  interfaces := #[]
  cf := some (fileOf pool1 26 #[] #[{ accessFlags := 2, nameIndex := 5, descriptorIndex := 6, attributes := #[] }, { accessFlags := 9, nameIndex := 30, descriptorIndex := 31, attributes := #[] }] 49 2 #[] #[])
  fields := #[]
  methods := #[k1m0, k1m1]
  instanceTypes := #[]
  staticTypes := #[]
  resolved := Array.replicate 37 none
  statics := none }

def pool2 : Array CpInfo := pool [(1, .methodref 2 3), (0, .class_ 4), (0, .nameAndType 5 6), (0, u "java/lang/Object"), (0, u "<init>"), (0, u "()V"), (0, .fieldref 8 9), (0, .class_ 10), (0, .nameAndType 11 12), (0, u "com/example/passau/passau/insertion/TwoSat"), (0, u "from"), (0, u "[I"), (0, .fieldref 8 14), (0, .nameAndType 15 12), (0, u "to"), (0, .fieldref 8 17), (0, .nameAndType 18 19), (0, u "variables"), (0, u "I"), (0, .methodref 8 21), (0, .nameAndType 22 23), (0, u "require"), (0, u "(I)V"), (0, .methodref 8 25), (0, .nameAndType 26 27), (0, u "not"), (0, u "(I)I"), (0, .methodref 8 29), (0, .nameAndType 30 31), (0, u "arc"), (0, u "(II)V"), (0, .methodref 8 33), (0, .nameAndType 34 31), (0, u "either"), (21, u "()I"), (2, u "variable"), (3, .fieldref 8 64), (0, .nameAndType 65 19), (0, u "implications"), (0, .methodref 67 68), (0, .class_ 69), (0, .nameAndType 70 71), (0, u "java/util/Arrays"), (0, u "copyOf"), (0, u "([II)[I"), (0, .methodref 73 74), (0, .class_ 75), (0, .nameAndType 76 77), (0, u "com/example/passau/passau/insertion/TwoSat$Components"), (0, u "of"), (0, u "([I[II)[I"), (0, u "TRUE"), (9, u "solve"), (0, u "()[Z")] 8

def k2c0 : Code := { maxStack := 2, maxLocals := 1, code := prog_53_method_1_code, exceptionTable := #[], attributes := #[] }
def k2m0 : Method := { name := "<init>", desc := "()V", sig := { parameters := [], returnType := none }, accessFlags := 0, code := some k2c0 }
def k2c1 : Code := { maxStack := 5, maxLocals := 1, code := prog_53_method_2_code, exceptionTable := #[], attributes := #[] }
def k2m1 : Method := { name := "variable", desc := "()I", sig := { parameters := [], returnType := some .int }, accessFlags := 0, code := some k2c1 }
def k2c2 : Code := { maxStack := 2, maxLocals := 1, code := prog_53_method_3_code, exceptionTable := #[], attributes := #[] }
def k2m2 : Method := { name := "not", desc := "(I)I", sig := { parameters := [.int], returnType := some .int }, accessFlags := 8, code := some k2c2 }
def k2c3 : Code := { maxStack := 3, maxLocals := 3, code := prog_53_method_4_code, exceptionTable := #[], attributes := #[] }
def k2m3 : Method := { name := "either", desc := "(II)V", sig := { parameters := [.int, .int], returnType := none }, accessFlags := 0, code := some k2c3 }
def k2c4 : Code := { maxStack := 3, maxLocals := 2, code := prog_53_method_6_code, exceptionTable := #[], attributes := #[] }
def k2m4 : Method := { name := "require", desc := "(I)V", sig := { parameters := [.int], returnType := none }, accessFlags := 0, code := some k2c4 }
def k2c5 : Code := { maxStack := 6, maxLocals := 8, code := prog_53_method_8_code, exceptionTable := #[], attributes := #[] }
def k2m5 : Method := { name := "solve", desc := "()[Z", sig := { parameters := [], returnType := some (.array .boolean) }, accessFlags := 0, code := some k2c5 }
def k2c6 : Code := { maxStack := 4, maxLocals := 3, code := prog_53_method_9_code, exceptionTable := #[], attributes := #[] }
def k2m6 : Method := { name := "arc", desc := "(II)V", sig := { parameters := [.int, .int], returnType := none }, accessFlags := 2, code := some k2c6 }
/-- com/example/passau/passau/insertion/TwoSat -/
def k2 : Class := { plain "com/example/passau/passau/insertion/TwoSat" (some 0) with
  accessFlags := 48
  interfaces := #[]
  cf := some (fileOf pool2 8 #[.nestMembers #[73]] #[{ accessFlags := 0, nameIndex := 5, descriptorIndex := 6, attributes := #[] }, { accessFlags := 0, nameIndex := 59, descriptorIndex := 56, attributes := #[] }, { accessFlags := 8, nameIndex := 26, descriptorIndex := 27, attributes := #[] }, { accessFlags := 0, nameIndex := 34, descriptorIndex := 31, attributes := #[] }, { accessFlags := 0, nameIndex := 22, descriptorIndex := 23, attributes := #[] }, { accessFlags := 0, nameIndex := 88, descriptorIndex := 89, attributes := #[] }, { accessFlags := 2, nameIndex := 30, descriptorIndex := 31, attributes := #[] }] 48 2 #[] #[{ accessFlags := 24, nameIndex := 78, descriptorIndex := 19, attributes := #[] }, { accessFlags := 2, nameIndex := 18, descriptorIndex := 19, attributes := #[] }, { accessFlags := 2, nameIndex := 11, descriptorIndex := 12, attributes := #[] }, { accessFlags := 2, nameIndex := 15, descriptorIndex := 12, attributes := #[] }, { accessFlags := 2, nameIndex := 65, descriptorIndex := 19, attributes := #[] }])
  fields := #[{ name := "TRUE", type := .int, accessFlags := 24, slot := 0, constantValue := 0 }, { name := "variables", type := .int, accessFlags := 2, slot := 0, constantValue := 0 }, { name := "from", type := (.array .int), accessFlags := 2, slot := 1, constantValue := 0 }, { name := "to", type := (.array .int), accessFlags := 2, slot := 2, constantValue := 0 }, { name := "implications", type := .int, accessFlags := 2, slot := 3, constantValue := 0 }]
  methods := #[k2m0, k2m1, k2m2, k2m3, k2m4, k2m5, k2m6]
  instanceTypes := #[.int, (.array .int), (.array .int), .int]
  staticTypes := #[.int]
  resolved := Array.replicate 98 none
  statics := none }

def pool3 : Array CpInfo := pool [(2, .class_ 4), (1, u "java/lang/Object"), (0, u "<init>"), (0, u "()V"), (7, .class_ 16), (1, u "java/util/Arrays"), (57, .class_ 76), (1, u "java/util/Arrays$NaturalOrder"), (36, .class_ 115), (1, u "java/util/Arrays$LegacyMergeSort"), (1, u "Z"), (32, .methodref 151 152), (0, .class_ 153), (0, .nameAndType 154 155), (0, u "java/lang/System"), (0, u "arraycopy"), (0, u "(Ljava/lang/Object;ILjava/lang/Object;II)V"), (146, u "copyOf"), (1, .methodref 305 306), (0, .class_ 307), (0, .nameAndType 308 309), (0, u "java/lang/Math"), (0, u "min"), (0, u "(II)I"), (65, .class_ 376), (0, u "java/util/Arrays$ArrayList"), (68, u "$assertionsDisabled"), (269, u "MIN_ARRAY_SORT_GRAN"), (0, u "I"), (2, u "INSERTIONSORT_THRESHOLD"), (120, u "fill"), (4, u "([II)V"), (25, u "([II)[I"), (103, .class_ 976), (0, u "java/util/Arrays$ArrayItr")] 52

def k3m0 : Method := { name := "<init>", desc := "()V", sig := { parameters := [], returnType := none }, accessFlags := 2, code := none }
def k3c1 : Code := { maxStack := 3, maxLocals := 4, code := jdk_65_method_103_code, exceptionTable := #[], attributes := #[] }
def k3m1 : Method := { name := "fill", desc := "([II)V", sig := { parameters := [(.array .int), .int], returnType := none }, accessFlags := 9, code := some k3c1 }
def k3c2 : Code := { maxStack := 6, maxLocals := 3, code := jdk_65_method_123_code, exceptionTable := #[], attributes := #[] }
def k3m2 : Method := { name := "copyOf", desc := "([II)[I", sig := { parameters := [(.array .int), .int], returnType := some (.array .int) }, accessFlags := 9, code := some k3c2 }
/-- java/util/Arrays -/
def k3 : Class := { plain "java/util/Arrays" (some 0) with
  accessFlags := 49
  interfaces := #[]
  cf := some (fileOf pool3 14 #[.nestMembers #[975, 375, 113, 74]] #[{ accessFlags := 2, nameIndex := 5, descriptorIndex := 6, attributes := #[] }, { accessFlags := 9, nameIndex := 840, descriptorIndex := 845, attributes := #[] }, { accessFlags := 9, nameIndex := 302, descriptorIndex := 871, attributes := #[] }] 49 2 #[] #[{ accessFlags := 26, nameIndex := 715, descriptorIndex := 716, attributes := #[] }, { accessFlags := 26, nameIndex := 719, descriptorIndex := 716, attributes := #[] }, { accessFlags := 4120, nameIndex := 445, descriptorIndex := 117, attributes := #[] }])
  fields := #[{ name := "MIN_ARRAY_SORT_GRAN", type := .int, accessFlags := 26, slot := 0, constantValue := 0 }, { name := "INSERTIONSORT_THRESHOLD", type := .int, accessFlags := 26, slot := 1, constantValue := 0 }, { name := "$assertionsDisabled", type := .boolean, accessFlags := 4120, slot := 2, constantValue := 0 }]
  methods := #[k3m0, k3m1, k3m2]
  instanceTypes := #[]
  staticTypes := #[.int, .int, .boolean]
  resolved := Array.replicate 1029 none
  statics := none }

def pool4 : Array CpInfo := pool [(1, .class_ 2), (0, u "java/lang/Math"), (1, .class_ 6), (1, u "java/lang/Object"), (0, u "<init>"), (0, u "()V"), (89, .class_ 100), (1, u "java/lang/Math$RandomNumberGeneratorHolder"), (71, u "negativeZeroFloatBits"), (0, u "J"), (2, u "negativeZeroDoubleBits"), (24, u "min"), (43, u "$assertionsDisabled"), (0, u "Z"), (88, u "(II)I"), (2, u "twoToTheDoubleScaleDown"), (0, u "D"), (4, u "twoToTheDoubleScaleUp"), (9, u "E"), (3, u "PI"), (2, u "TAU"), (2, u "DEGREES_TO_RADIANS"), (0, u "RADIANS_TO_DEGREES")] 94

def k4m0 : Method := { name := "<init>", desc := "()V", sig := { parameters := [], returnType := none }, accessFlags := 2, code := none }
def k4c1 : Code := { maxStack := 2, maxLocals := 2, code := jdk_29_method_69_code, exceptionTable := #[], attributes := #[] }
def k4m1 : Method := { name := "min", desc := "(II)I", sig := { parameters := [.int, .int], returnType := some .int }, accessFlags := 9, code := some k4c1 }
/-- java/lang/Math -/
def k4 : Class := { plain "java/lang/Math" (some 0) with
  accessFlags := 49
  interfaces := #[]
  cf := some (fileOf pool4 1 #[.nestMembers #[98]] #[{ accessFlags := 2, nameIndex := 7, descriptorIndex := 8, attributes := #[] }, { accessFlags := 9, nameIndex := 201, descriptorIndex := 335, attributes := #[] }] 49 4 #[] #[{ accessFlags := 25, nameIndex := 354, descriptorIndex := 339, attributes := #[] }, { accessFlags := 25, nameIndex := 358, descriptorIndex := 339, attributes := #[] }, { accessFlags := 25, nameIndex := 361, descriptorIndex := 339, attributes := #[] }, { accessFlags := 26, nameIndex := 364, descriptorIndex := 339, attributes := #[] }, { accessFlags := 26, nameIndex := 365, descriptorIndex := 339, attributes := #[] }, { accessFlags := 26, nameIndex := 172, descriptorIndex := 173, attributes := #[] }, { accessFlags := 26, nameIndex := 176, descriptorIndex := 173, attributes := #[] }, { accessFlags := 8, nameIndex := 344, descriptorIndex := 339, attributes := #[] }, { accessFlags := 8, nameIndex := 338, descriptorIndex := 339, attributes := #[] }, { accessFlags := 4120, nameIndex := 245, descriptorIndex := 246, attributes := #[] }])
  fields := #[{ name := "E", type := .double, accessFlags := 25, slot := 0, constantValue := 0 }, { name := "PI", type := .double, accessFlags := 25, slot := 1, constantValue := 0 }, { name := "TAU", type := .double, accessFlags := 25, slot := 2, constantValue := 0 }, { name := "DEGREES_TO_RADIANS", type := .double, accessFlags := 26, slot := 3, constantValue := 0 }, { name := "RADIANS_TO_DEGREES", type := .double, accessFlags := 26, slot := 4, constantValue := 0 }, { name := "negativeZeroFloatBits", type := .long, accessFlags := 26, slot := 5, constantValue := 0 }, { name := "negativeZeroDoubleBits", type := .long, accessFlags := 26, slot := 6, constantValue := 0 }, { name := "twoToTheDoubleScaleUp", type := .double, accessFlags := 8, slot := 7, constantValue := 0 }, { name := "twoToTheDoubleScaleDown", type := .double, accessFlags := 8, slot := 8, constantValue := 0 }, { name := "$assertionsDisabled", type := .boolean, accessFlags := 4120, slot := 9, constantValue := 0 }]
  methods := #[k4m0, k4m1]
  instanceTypes := #[]
  staticTypes := #[.double, .double, .double, .double, .double, .long, .long, .double, .double, .boolean]
  resolved := Array.replicate 460 none
  statics := none }

def pool5 : Array CpInfo := pool [(2, .class_ 4), (1, u "java/lang/Object"), (0, u "<init>"), (0, u "()V"), (1, .class_ 10), (1, u "java/lang/System"), (0, u "allowSecurityManager"), (0, u "I"), (16, u "cons"), (0, u "Ljava/io/Console;"), (77, .class_ 110), (1, u "java/lang/System$CallersHolder"), (43, u "initialErrStream"), (0, u "Ljava/io/PrintStream;"), (19, u "security"), (0, u "Ljava/lang/SecurityManager;"), (31, .class_ 209), (0, u "java/lang/System$1"), (7, u "props"), (0, u "Ljava/util/Properties;"), (2, u "lineSeparator"), (0, u "Ljava/lang/String;"), (96, .class_ 321), (1, u "java/lang/System$LoggerFinder"), (5, .class_ 328), (0, u "java/lang/System$Logger"), (67, u "err"), (2, u "out"), (91, u "notSupportedJnuEncoding"), (15, u "in"), (17, u "initialIn"), (0, u "Ljava/io/InputStream;"), (35, u "bootLayer"), (0, u "Ljava/lang/ModuleLayer;"), (99, .class_ 664), (0, u "java/lang/System$2"), (9, u "NEVER"), (2, u "MAYBE"), (49, u "arraycopy"), (0, u "(Ljava/lang/Object;ILjava/lang/Object;II)V"), (72, .class_ 802), (0, u "java/lang/System$Logger$Level")] 31

def k5m0 : Method := { name := "<init>", desc := "()V", sig := { parameters := [], returnType := none }, accessFlags := 2, code := none }
def k5m1 : Method := { name := "arraycopy", desc := "(Ljava/lang/Object;ILjava/lang/Object;II)V", sig := { parameters := [(.object "java/lang/Object"), .int, (.object "java/lang/Object"), .int, .int], returnType := none }, accessFlags := 265, code := none }
/-- java/lang/System -/
def k5 : Class := { plain "java/lang/System" (some 0) with
  accessFlags := 49
  interfaces := #[]
  cf := some (fileOf pool5 8 #[.nestMembers #[319, 327, 801, 108, 663, 208]] #[{ accessFlags := 2, nameIndex := 5, descriptorIndex := 6, attributes := #[] }, { accessFlags := 265, nameIndex := 727, descriptorIndex := 728, attributes := #[] }] 49 2 #[] #[{ accessFlags := 25, nameIndex := 507, descriptorIndex := 526, attributes := #[] }, { accessFlags := 25, nameIndex := 399, descriptorIndex := 155, attributes := #[] }, { accessFlags := 25, nameIndex := 396, descriptorIndex := 155, attributes := #[] }, { accessFlags := 10, nameIndex := 525, descriptorIndex := 526, attributes := #[] }, { accessFlags := 26, nameIndex := 674, descriptorIndex := 12, attributes := #[] }, { accessFlags := 26, nameIndex := 677, descriptorIndex := 12, attributes := #[] }, { accessFlags := 10, nameIndex := 11, descriptorIndex := 12, attributes := #[] }, { accessFlags := 74, nameIndex := 175, descriptorIndex := 176, attributes := #[] }, { accessFlags := 10, nameIndex := 491, descriptorIndex := 222, attributes := #[] }, { accessFlags := 74, nameIndex := 29, descriptorIndex := 30, attributes := #[] }, { accessFlags := 74, nameIndex := 154, descriptorIndex := 155, attributes := #[] }, { accessFlags := 10, nameIndex := 217, descriptorIndex := 218, attributes := #[] }, { accessFlags := 10, nameIndex := 221, descriptorIndex := 222, attributes := #[] }, { accessFlags := 8, nameIndex := 562, descriptorIndex := 563, attributes := #[] }])
  fields := #[{ name := "in", type := (.object "java/io/InputStream"), accessFlags := 25, slot := 0, constantValue := 0 }, { name := "out", type := (.object "java/io/PrintStream"), accessFlags := 25, slot := 1, constantValue := 0 }, { name := "err", type := (.object "java/io/PrintStream"), accessFlags := 25, slot := 2, constantValue := 0 }, { name := "initialIn", type := (.object "java/io/InputStream"), accessFlags := 10, slot := 3, constantValue := 0 }, { name := "NEVER", type := .int, accessFlags := 26, slot := 4, constantValue := 0 }, { name := "MAYBE", type := .int, accessFlags := 26, slot := 5, constantValue := 0 }, { name := "allowSecurityManager", type := .int, accessFlags := 10, slot := 6, constantValue := 0 }, { name := "security", type := (.object "java/lang/SecurityManager"), accessFlags := 74, slot := 7, constantValue := 0 }, { name := "notSupportedJnuEncoding", type := (.object "java/lang/String"), accessFlags := 10, slot := 8, constantValue := 0 }, { name := "cons", type := (.object "java/io/Console"), accessFlags := 74, slot := 9, constantValue := 0 }, { name := "initialErrStream", type := (.object "java/io/PrintStream"), accessFlags := 74, slot := 10, constantValue := 0 }, { name := "props", type := (.object "java/util/Properties"), accessFlags := 10, slot := 11, constantValue := 0 }, { name := "lineSeparator", type := (.object "java/lang/String"), accessFlags := 10, slot := 12, constantValue := 0 }, { name := "bootLayer", type := (.object "java/lang/ModuleLayer"), accessFlags := 8, slot := 13, constantValue := 0 }]
  methods := #[k5m0, k5m1]
  instanceTypes := #[]
  staticTypes := #[(.object "java/io/InputStream"), (.object "java/io/PrintStream"), (.object "java/io/PrintStream"), (.object "java/io/InputStream"), .int, .int, .int, (.object "java/lang/SecurityManager"), (.object "java/lang/String"), (.object "java/io/Console"), (.object "java/io/PrintStream"), (.object "java/util/Properties"), (.object "java/lang/String"), (.object "java/lang/ModuleLayer")]
  resolved := Array.replicate 834 none
  statics := none }

def pool6 : Array CpInfo := pool [(1, .class_ 2), (0, u "com/example/passau/passau/insertion/TwoSat$Components"), (0, .methodref 1 4), (0, .nameAndType 5 6), (0, u "<init>"), (0, u "([I[II)V"), (0, .fieldref 1 8), (0, .nameAndType 9 10), (0, u "index"), (0, u "[I"), (0, .methodref 1 12), (0, .nameAndType 13 14), (0, u "walkFrom"), (0, u "(I)V"), (0, .fieldref 1 16), (0, .nameAndType 17 10), (0, u "number"), (0, .methodref 19 20), (0, .class_ 21), (0, .nameAndType 5 22), (0, u "java/lang/Object"), (0, u "()V"), (0, .fieldref 1 24), (0, .nameAndType 25 10), (0, u "start"), (0, .fieldref 1 27), (0, .nameAndType 28 10), (0, u "next"), (0, .fieldref 1 30), (0, .nameAndType 31 10), (0, u "low"), (0, .fieldref 1 33), (0, .nameAndType 34 10), (0, u "stack"), (0, .fieldref 1 36), (0, .nameAndType 37 38), (0, u "onStack"), (0, u "[Z"), (0, .fieldref 1 40), (0, .nameAndType 41 10), (0, u "path"), (0, .fieldref 1 43), (0, .nameAndType 44 10), (0, u "edge"), (0, .methodref 46 47), (0, .class_ 48), (0, .nameAndType 49 50), (0, u "java/util/Arrays"), (0, u "fill"), (0, u "([II)V"), (0, .fieldref 1 52), (0, .nameAndType 53 54), (0, u "depth"), (0, u "I"), (0, .methodref 1 56), (0, .nameAndType 57 14), (0, u "enter"), (0, .methodref 59 60), (0, .class_ 61), (0, .nameAndType 62 63), (0, u "java/lang/Math"), (0, u "min"), (0, u "(II)I"), (0, .methodref 1 65), (0, .nameAndType 66 14), (0, u "leave"), (0, .fieldref 1 68), (0, .nameAndType 69 54), (0, u "counter"), (0, .fieldref 1 71), (0, .nameAndType 72 54), (0, u "stacked"), (0, .fieldref 1 74), (0, .nameAndType 75 54), (0, u "components"), (0, u "of"), (0, u "([I[II)[I"), (6, .class_ 85), (0, u "com/example/passau/passau/insertion/TwoSat")] 2

def k6c0 : Code := { maxStack := 5, maxLocals := 5, code := prog_54_method_1_code, exceptionTable := #[], attributes := #[] }
def k6m0 : Method := { name := "of", desc := "([I[II)[I", sig := { parameters := [(.array .int), (.array .int), .int], returnType := some (.array .int) }, accessFlags := 8, code := some k6c0 }
def k6c1 : Code := { maxStack := 2, maxLocals := 4, code := prog_54_method_2_code, exceptionTable := #[], attributes := #[] }
def k6m1 : Method := { name := "<init>", desc := "([I[II)V", sig := { parameters := [(.array .int), (.array .int), .int], returnType := none }, accessFlags := 2, code := some k6c1 }
def k6c2 : Code := { maxStack := 6, maxLocals := 4, code := prog_54_method_3_code, exceptionTable := #[], attributes := #[] }
def k6m2 : Method := { name := "walkFrom", desc := "(I)V", sig := { parameters := [.int], returnType := none }, accessFlags := 2, code := some k6c2 }
def k6c3 : Code := { maxStack := 5, maxLocals := 2, code := prog_54_method_4_code, exceptionTable := #[], attributes := #[] }
def k6m3 : Method := { name := "enter", desc := "(I)V", sig := { parameters := [.int], returnType := none }, accessFlags := 2, code := some k6c3 }
def k6c4 : Code := { maxStack := 5, maxLocals := 3, code := prog_54_method_5_code, exceptionTable := #[], attributes := #[] }
def k6m4 : Method := { name := "leave", desc := "(I)V", sig := { parameters := [.int], returnType := none }, accessFlags := 2, code := some k6c4 }
/-- com/example/passau/passau/insertion/TwoSat$Components -/
def k6 : Class := { plain "com/example/passau/passau/insertion/TwoSat$Components" (some 0) with
  accessFlags := 48
  interfaces := #[]
  cf := some (fileOf pool6 1 #[.nestHost 84] #[{ accessFlags := 8, nameIndex := 76, descriptorIndex := 77, attributes := #[] }, { accessFlags := 2, nameIndex := 5, descriptorIndex := 6, attributes := #[] }, { accessFlags := 2, nameIndex := 13, descriptorIndex := 14, attributes := #[] }, { accessFlags := 2, nameIndex := 57, descriptorIndex := 14, attributes := #[] }, { accessFlags := 2, nameIndex := 66, descriptorIndex := 14, attributes := #[] }] 48 19 #[] #[{ accessFlags := 18, nameIndex := 25, descriptorIndex := 10, attributes := #[] }, { accessFlags := 18, nameIndex := 28, descriptorIndex := 10, attributes := #[] }, { accessFlags := 18, nameIndex := 9, descriptorIndex := 10, attributes := #[] }, { accessFlags := 18, nameIndex := 31, descriptorIndex := 10, attributes := #[] }, { accessFlags := 18, nameIndex := 17, descriptorIndex := 10, attributes := #[] }, { accessFlags := 18, nameIndex := 34, descriptorIndex := 10, attributes := #[] }, { accessFlags := 18, nameIndex := 37, descriptorIndex := 38, attributes := #[] }, { accessFlags := 18, nameIndex := 41, descriptorIndex := 10, attributes := #[] }, { accessFlags := 18, nameIndex := 44, descriptorIndex := 10, attributes := #[] }, { accessFlags := 2, nameIndex := 72, descriptorIndex := 54, attributes := #[] }, { accessFlags := 2, nameIndex := 53, descriptorIndex := 54, attributes := #[] }, { accessFlags := 2, nameIndex := 69, descriptorIndex := 54, attributes := #[] }, { accessFlags := 2, nameIndex := 75, descriptorIndex := 54, attributes := #[] }])
  fields := #[{ name := "start", type := (.array .int), accessFlags := 18, slot := 0, constantValue := 0 }, { name := "next", type := (.array .int), accessFlags := 18, slot := 1, constantValue := 0 }, { name := "index", type := (.array .int), accessFlags := 18, slot := 2, constantValue := 0 }, { name := "low", type := (.array .int), accessFlags := 18, slot := 3, constantValue := 0 }, { name := "number", type := (.array .int), accessFlags := 18, slot := 4, constantValue := 0 }, { name := "stack", type := (.array .int), accessFlags := 18, slot := 5, constantValue := 0 }, { name := "onStack", type := (.array .boolean), accessFlags := 18, slot := 6, constantValue := 0 }, { name := "path", type := (.array .int), accessFlags := 18, slot := 7, constantValue := 0 }, { name := "edge", type := (.array .int), accessFlags := 18, slot := 8, constantValue := 0 }, { name := "stacked", type := .int, accessFlags := 2, slot := 9, constantValue := 0 }, { name := "depth", type := .int, accessFlags := 2, slot := 10, constantValue := 0 }, { name := "counter", type := .int, accessFlags := 2, slot := 11, constantValue := 0 }, { name := "components", type := .int, accessFlags := 2, slot := 12, constantValue := 0 }]
  methods := #[k6m0, k6m1, k6m2, k6m3, k6m4]
  instanceTypes := #[(.array .int), (.array .int), (.array .int), (.array .int), (.array .int), (.array .int), (.array .boolean), (.array .int), (.array .int), .int, .int, .int, .int]
  staticTypes := #[]
  resolved := Array.replicate 88 none
  statics := none }

def pool7 : Array CpInfo := pool [(1, u "java/lang/Cloneable"), (0, .class_ 1), (0, u "java/lang/Object"), (0, .class_ 3)] 3

/-- java/lang/Cloneable -/
def k7 : Class := { plain "java/lang/Cloneable" (some 0) with
  accessFlags := 1537
  interfaces := #[]
  cf := some (fileOf pool7 2 #[] #[] 1537 4 #[] #[])
  fields := #[]
  methods := #[]
  instanceTypes := #[]
  staticTypes := #[]
  resolved := Array.replicate 8 none
  statics := none }

def pool8 : Array CpInfo := pool [(1, u "java/io/Serializable"), (0, .class_ 1), (0, u "java/lang/Object"), (0, .class_ 3)] 3

/-- java/io/Serializable -/
def k8 : Class := { plain "java/io/Serializable" (some 0) with
  accessFlags := 1537
  interfaces := #[]
  cf := some (fileOf pool8 2 #[] #[] 1537 4 #[] #[])
  fields := #[]
  methods := #[]
  instanceTypes := #[]
  staticTypes := #[]
  resolved := Array.replicate 8 none
  statics := none }

/-- the primitive boolean -/
def k9 : Class := { plain "boolean" none with kind := .primitive 'Z', accessFlags := 0x411 }
/-- [Z -/
def k10 : Class := { plain "[Z" (some 0) with kind := .array 9 .boolean, interfaces := #[7, 8], accessFlags := 1041 }

/-- the primitive byte -/
def k11 : Class := { plain "byte" none with kind := .primitive 'B', accessFlags := 0x411 }
/-- [B -/
def k12 : Class := { plain "[B" (some 0) with kind := .array 11 .byte, interfaces := #[7, 8], accessFlags := 1041 }

/-- the primitive int -/
def k13 : Class := { plain "int" none with kind := .primitive 'I', accessFlags := 0x411 }
/-- [I -/
def k14 : Class := { plain "[I" (some 0) with kind := .array 13 .int, interfaces := #[7, 8], accessFlags := 1041 }

def heap : Heap := #[]
def classes : Array Class := #[k0, k1, k2, k3, k4, k5, k6, k7, k8, k9, k10, k11, k12, k13, k14]
def interned : List (Array UInt16 × Addr) := []
def slotsUsed : Nat := 0
def theMethod : MethodId := ⟨1, 1⟩
def args0 : Array Value := #[.int 5]
def aboutOver (below : List Frame) : State where
  vm := { classes := classes, interned := interned.toArray }
  heap := heap
  slotsUsed := slotsUsed
  threads := #[{ frames := .invoking theMethod args0 :: below }]
def below0 : List Frame := [.native { method := ⟨0, 0⟩, args := #[] }]
def about1 : State := aboutOver below0
def p0 : Program := .bare "" "" ""
def e0 : Env := launch0.env 0 0 0
theorem w_frames : about1.frames = Frame.invoking theMethod args0 :: below0 := rfl
set_option maxRecDepth 65536 in
theorem w_args : argsFit about1.vm theMethod args0 = true := by decide +kernel
set_option maxRecDepth 65536 in
theorem w_heap : heapFits about1 = true := by decide +kernel
set_option maxRecDepth 65536 in
theorem w_runnable : about1.curStatus? = some .runnable := by decide +kernel
set_option maxRecDepth 65536 in
theorem w_alone : about1.alone = true := by decide +kernel
set_option maxRecDepth 65536 in
theorem w_named : about1.methodNamed? x = some theMethod := by decide +kernel
set_option maxRecDepth 65536 in
theorem w_hears : about1.hears theMethod below0 = true := by decide +kernel
set_option maxRecDepth 65536 in
theorem w_ripe : about1.ripe theMethod args0 below0 = true := by decide +kernel
theorem w_running : about1.status = .running := rfl
set_option maxRecDepth 65536 in
theorem w_room : about1.hasRoom e0.platform room_1 = true :=
  launch0.hasRoom_least _ room_1 (by decide +kernel) (by decide +kernel) (by decide +kernel) (by decide +kernel) (by decide +kernel) (by decide +kernel)
theorem allAtoms_all (ts : List Jvm.Cond) (a : Array Jvm.Value) (st : Jvm.State) : (allAtoms ts).before a st = ts.all (fun c => c.before a st) := by
  induction ts with
  | nil => rfl
  | cons c t ih =>
    show (Jvm.Cond.and c (allAtoms t)).before a st = _
    rw [Jvm.Cond.before_and, ih, List.all_cons]
def words1 : List Jvm.Cond := Jvm.Cond.code x code maxLocals ret :: tables_1
/-- a 'code' word, met by the world's own term for the bytes: nothing is compared byte by byte -/
theorem code_word {y : MethodName} {bytes : ByteArray} {mx : Nat} {rt : Option FieldType} {a : Array Value} {s : State} {m : MethodId} {meth : Method} {c : Code} (h1 : s.methodNamed? y = some m) (h2 : s.vm.method? m = some meth) (h3 : meth.code = some c) (h4 : c.code = bytes)
    (h5 : (c.maxLocals == mx && c.exceptionTable.isEmpty && decide (c.maxStack ≤ mostOperands) && decide (meth.sig.returnType = rt) && !meth.locks && decide (parseMethodDescriptor y.desc = some meth.sig)) = true) : (Jvm.Cond.code y bytes mx rt).before a s = true := by
  simp only [Bool.and_eq_true, beq_iff_eq, Bool.not_eq_true', decide_eq_true_eq] at h5
  obtain ⟨⟨⟨⟨⟨g1, g2⟩, g3⟩, g4⟩, g5⟩, g6⟩ := h5
  simp [Cond.before, Cond.holds, Cond.value, h1, h2, h3, h4, g1, g2, g3, g4, g5, g6]
def isCode : Jvm.Cond → Bool
  | .code _ _ _ _ => true
  | _ => false
theorem all_split {L : List Jvm.Cond} {P : Jvm.Cond → Bool} (h1 : L.all (fun c => isCode c || P c) = true) (h2 : ∀ c ∈ L.filter isCode, P c = true) : L.all P = true := by
  refine List.all_eq_true.mpr fun c hc => ?_
  have h := List.all_eq_true.mp h1 c hc
  rcases Bool.eq_false_or_eq_true (isCode c) with hi | hi
  · exact h2 c (List.mem_filter.mpr ⟨hc, hi⟩)
  · simpa [hi] using h
set_option maxRecDepth 65536 in
theorem w_c0 : (Jvm.Cond.code x code maxLocals ret).before args0 about1 = true := code_word (m := ⟨1, 1⟩) (meth := k1m1) (c := k1c1) (by decide +kernel) rfl rfl rfl (by decide +kernel)
set_option maxRecDepth 65536 in
theorem w_c1 : (Jvm.Cond.code ({ cls := "com/example/passau/passau/insertion/TwoSat", name := "<init>", desc := "()V" } : Jvm.MethodName) prog_53_method_1_code (1 : Nat) (Option.none : Option Jvm.ClassFile.FieldType)).before args0 about1 = true := code_word (m := ⟨2, 0⟩) (meth := k2m0) (c := k2c0) (by decide +kernel) rfl rfl rfl (by decide +kernel)
set_option maxRecDepth 65536 in
theorem w_c2 : (Jvm.Cond.code ({ cls := "java/lang/Object", name := "<init>", desc := "()V" } : Jvm.MethodName) object_method_1_code (1 : Nat) (Option.none : Option Jvm.ClassFile.FieldType)).before args0 about1 = true := code_word (m := ⟨0, 0⟩) (meth := k0m0) (c := k0c0) (by decide +kernel) rfl rfl rfl (by decide +kernel)
set_option maxRecDepth 65536 in
theorem w_c3 : (Jvm.Cond.code ({ cls := "com/example/passau/passau/insertion/TwoSat", name := "require", desc := "(I)V" } : Jvm.MethodName) prog_53_method_6_code (2 : Nat) (Option.none : Option Jvm.ClassFile.FieldType)).before args0 about1 = true := code_word (m := ⟨2, 4⟩) (meth := k2m4) (c := k2c4) (by decide +kernel) rfl rfl rfl (by decide +kernel)
set_option maxRecDepth 65536 in
theorem w_c4 : (Jvm.Cond.code ({ cls := "com/example/passau/passau/insertion/TwoSat", name := "either", desc := "(II)V" } : Jvm.MethodName) prog_53_method_4_code (3 : Nat) (Option.none : Option Jvm.ClassFile.FieldType)).before args0 about1 = true := code_word (m := ⟨2, 3⟩) (meth := k2m3) (c := k2c3) (by decide +kernel) rfl rfl rfl (by decide +kernel)
set_option maxRecDepth 65536 in
theorem w_c5 : (Jvm.Cond.code ({ cls := "com/example/passau/passau/insertion/TwoSat", name := "not", desc := "(I)I" } : Jvm.MethodName) prog_53_method_3_code (1 : Nat) (Option.some Jvm.ClassFile.FieldType.int)).before args0 about1 = true := code_word (m := ⟨2, 2⟩) (meth := k2m2) (c := k2c2) (by decide +kernel) rfl rfl rfl (by decide +kernel)
set_option maxRecDepth 65536 in
theorem w_c6 : (Jvm.Cond.code ({ cls := "com/example/passau/passau/insertion/TwoSat", name := "arc", desc := "(II)V" } : Jvm.MethodName) prog_53_method_9_code (3 : Nat) (Option.none : Option Jvm.ClassFile.FieldType)).before args0 about1 = true := code_word (m := ⟨2, 6⟩) (meth := k2m6) (c := k2c6) (by decide +kernel) rfl rfl rfl (by decide +kernel)
set_option maxRecDepth 65536 in
theorem w_c7 : (Jvm.Cond.code ({ cls := "com/example/passau/passau/insertion/TwoSat", name := "variable", desc := "()I" } : Jvm.MethodName) prog_53_method_2_code (1 : Nat) (Option.some Jvm.ClassFile.FieldType.int)).before args0 about1 = true := code_word (m := ⟨2, 1⟩) (meth := k2m1) (c := k2c1) (by decide +kernel) rfl rfl rfl (by decide +kernel)
set_option maxRecDepth 65536 in
theorem w_c8 : (Jvm.Cond.code ({ cls := "com/example/passau/passau/insertion/TwoSat", name := "solve", desc := "()[Z" } : Jvm.MethodName) prog_53_method_8_code (8 : Nat) (Option.some (Jvm.ClassFile.FieldType.array Jvm.ClassFile.FieldType.boolean))).before args0 about1 = true := code_word (m := ⟨2, 5⟩) (meth := k2m5) (c := k2c5) (by decide +kernel) rfl rfl rfl (by decide +kernel)
set_option maxRecDepth 65536 in
theorem w_c9 : (Jvm.Cond.code ({ cls := "java/util/Arrays", name := "copyOf", desc := "([II)[I" } : Jvm.MethodName) jdk_65_method_123_code (3 : Nat) (Option.some (Jvm.ClassFile.FieldType.array Jvm.ClassFile.FieldType.int))).before args0 about1 = true := code_word (m := ⟨3, 2⟩) (meth := k3m2) (c := k3c2) (by decide +kernel) rfl rfl rfl (by decide +kernel)
set_option maxRecDepth 65536 in
theorem w_c10 : (Jvm.Cond.code ({ cls := "java/lang/Math", name := "min", desc := "(II)I" } : Jvm.MethodName) jdk_29_method_69_code (2 : Nat) (Option.some Jvm.ClassFile.FieldType.int)).before args0 about1 = true := code_word (m := ⟨4, 1⟩) (meth := k4m1) (c := k4c1) (by decide +kernel) rfl rfl rfl (by decide +kernel)
set_option maxRecDepth 65536 in
theorem w_c11 : (Jvm.Cond.code ({ cls := "com/example/passau/passau/insertion/TwoSat$Components", name := "of", desc := "([I[II)[I" } : Jvm.MethodName) prog_54_method_1_code (5 : Nat) (Option.some (Jvm.ClassFile.FieldType.array Jvm.ClassFile.FieldType.int))).before args0 about1 = true := code_word (m := ⟨6, 0⟩) (meth := k6m0) (c := k6c0) (by decide +kernel) rfl rfl rfl (by decide +kernel)
set_option maxRecDepth 65536 in
theorem w_c12 : (Jvm.Cond.code ({ cls := "com/example/passau/passau/insertion/TwoSat$Components", name := "<init>", desc := "([I[II)V" } : Jvm.MethodName) prog_54_method_2_code (4 : Nat) (Option.none : Option Jvm.ClassFile.FieldType)).before args0 about1 = true := code_word (m := ⟨6, 1⟩) (meth := k6m1) (c := k6c1) (by decide +kernel) rfl rfl rfl (by decide +kernel)
set_option maxRecDepth 65536 in
theorem w_c13 : (Jvm.Cond.code ({ cls := "java/util/Arrays", name := "fill", desc := "([II)V" } : Jvm.MethodName) jdk_65_method_103_code (4 : Nat) (Option.none : Option Jvm.ClassFile.FieldType)).before args0 about1 = true := code_word (m := ⟨3, 1⟩) (meth := k3m1) (c := k3c1) (by decide +kernel) rfl rfl rfl (by decide +kernel)
set_option maxRecDepth 65536 in
theorem w_c14 : (Jvm.Cond.code ({ cls := "com/example/passau/passau/insertion/TwoSat$Components", name := "walkFrom", desc := "(I)V" } : Jvm.MethodName) prog_54_method_3_code (4 : Nat) (Option.none : Option Jvm.ClassFile.FieldType)).before args0 about1 = true := code_word (m := ⟨6, 2⟩) (meth := k6m2) (c := k6c2) (by decide +kernel) rfl rfl rfl (by decide +kernel)
set_option maxRecDepth 65536 in
theorem w_c15 : (Jvm.Cond.code ({ cls := "com/example/passau/passau/insertion/TwoSat$Components", name := "enter", desc := "(I)V" } : Jvm.MethodName) prog_54_method_4_code (2 : Nat) (Option.none : Option Jvm.ClassFile.FieldType)).before args0 about1 = true := code_word (m := ⟨6, 3⟩) (meth := k6m3) (c := k6c3) (by decide +kernel) rfl rfl rfl (by decide +kernel)
set_option maxRecDepth 65536 in
theorem w_c16 : (Jvm.Cond.code ({ cls := "com/example/passau/passau/insertion/TwoSat$Components", name := "leave", desc := "(I)V" } : Jvm.MethodName) prog_54_method_5_code (3 : Nat) (Option.none : Option Jvm.ClassFile.FieldType)).before args0 about1 = true := code_word (m := ⟨6, 4⟩) (meth := k6m4) (c := k6c4) (by decide +kernel) rfl rfl rfl (by decide +kernel)
def codes1 : List Jvm.Cond := [Jvm.Cond.code x code maxLocals ret, Jvm.Cond.code ({ cls := "com/example/passau/passau/insertion/TwoSat", name := "<init>", desc := "()V" } : Jvm.MethodName) prog_53_method_1_code (1 : Nat) (Option.none : Option Jvm.ClassFile.FieldType), Jvm.Cond.code ({ cls := "java/lang/Object", name := "<init>", desc := "()V" } : Jvm.MethodName) object_method_1_code (1 : Nat) (Option.none : Option Jvm.ClassFile.FieldType), Jvm.Cond.code ({ cls := "com/example/passau/passau/insertion/TwoSat", name := "require", desc := "(I)V" } : Jvm.MethodName) prog_53_method_6_code (2 : Nat) (Option.none : Option Jvm.ClassFile.FieldType), Jvm.Cond.code ({ cls := "com/example/passau/passau/insertion/TwoSat", name := "either", desc := "(II)V" } : Jvm.MethodName) prog_53_method_4_code (3 : Nat) (Option.none : Option Jvm.ClassFile.FieldType), Jvm.Cond.code ({ cls := "com/example/passau/passau/insertion/TwoSat", name := "not", desc := "(I)I" } : Jvm.MethodName) prog_53_method_3_code (1 : Nat) (Option.some Jvm.ClassFile.FieldType.int), Jvm.Cond.code ({ cls := "com/example/passau/passau/insertion/TwoSat", name := "arc", desc := "(II)V" } : Jvm.MethodName) prog_53_method_9_code (3 : Nat) (Option.none : Option Jvm.ClassFile.FieldType), Jvm.Cond.code ({ cls := "com/example/passau/passau/insertion/TwoSat", name := "variable", desc := "()I" } : Jvm.MethodName) prog_53_method_2_code (1 : Nat) (Option.some Jvm.ClassFile.FieldType.int), Jvm.Cond.code ({ cls := "com/example/passau/passau/insertion/TwoSat", name := "solve", desc := "()[Z" } : Jvm.MethodName) prog_53_method_8_code (8 : Nat) (Option.some (Jvm.ClassFile.FieldType.array Jvm.ClassFile.FieldType.boolean)), Jvm.Cond.code ({ cls := "java/util/Arrays", name := "copyOf", desc := "([II)[I" } : Jvm.MethodName) jdk_65_method_123_code (3 : Nat) (Option.some (Jvm.ClassFile.FieldType.array Jvm.ClassFile.FieldType.int)), Jvm.Cond.code ({ cls := "java/lang/Math", name := "min", desc := "(II)I" } : Jvm.MethodName) jdk_29_method_69_code (2 : Nat) (Option.some Jvm.ClassFile.FieldType.int), Jvm.Cond.code ({ cls := "com/example/passau/passau/insertion/TwoSat$Components", name := "of", desc := "([I[II)[I" } : Jvm.MethodName) prog_54_method_1_code (5 : Nat) (Option.some (Jvm.ClassFile.FieldType.array Jvm.ClassFile.FieldType.int)), Jvm.Cond.code ({ cls := "com/example/passau/passau/insertion/TwoSat$Components", name := "<init>", desc := "([I[II)V" } : Jvm.MethodName) prog_54_method_2_code (4 : Nat) (Option.none : Option Jvm.ClassFile.FieldType), Jvm.Cond.code ({ cls := "java/util/Arrays", name := "fill", desc := "([II)V" } : Jvm.MethodName) jdk_65_method_103_code (4 : Nat) (Option.none : Option Jvm.ClassFile.FieldType), Jvm.Cond.code ({ cls := "com/example/passau/passau/insertion/TwoSat$Components", name := "walkFrom", desc := "(I)V" } : Jvm.MethodName) prog_54_method_3_code (4 : Nat) (Option.none : Option Jvm.ClassFile.FieldType), Jvm.Cond.code ({ cls := "com/example/passau/passau/insertion/TwoSat$Components", name := "enter", desc := "(I)V" } : Jvm.MethodName) prog_54_method_4_code (2 : Nat) (Option.none : Option Jvm.ClassFile.FieldType), Jvm.Cond.code ({ cls := "com/example/passau/passau/insertion/TwoSat$Components", name := "leave", desc := "(I)V" } : Jvm.MethodName) prog_54_method_5_code (3 : Nat) (Option.none : Option Jvm.ClassFile.FieldType)]
set_option maxRecDepth 65536 in
theorem codes_eq : words1.filter isCode = codes1 := rfl
theorem w_codes : ∀ c ∈ words1.filter isCode, c.before args0 about1 = true := by
  rw [codes_eq]
  intro c hc
  simp only [codes1, List.mem_cons, List.not_mem_nil, or_false] at hc
  rcases hc with rfl | rfl | rfl | rfl | rfl | rfl | rfl | rfl | rfl | rfl | rfl | rfl | rfl | rfl | rfl | rfl | rfl
  · exact w_c0
  · exact w_c1
  · exact w_c2
  · exact w_c3
  · exact w_c4
  · exact w_c5
  · exact w_c6
  · exact w_c7
  · exact w_c8
  · exact w_c9
  · exact w_c10
  · exact w_c11
  · exact w_c12
  · exact w_c13
  · exact w_c14
  · exact w_c15
  · exact w_c16
set_option maxRecDepth 65536 in
theorem w_t1 : (words1.take 24).all (fun c => isCode c || c.before args0 about1) = true := by decide +kernel
set_option maxRecDepth 65536 in
theorem w_t2 : ((words1.drop 24).take 24).all (fun c => isCode c || c.before args0 about1) = true := by decide +kernel
set_option maxRecDepth 65536 in
theorem w_t3 : (((words1.drop 24).drop 24).take 24).all (fun c => isCode c || c.before args0 about1) = true := by decide +kernel
set_option maxRecDepth 65536 in
theorem w_t4 : ((((words1.drop 24).drop 24).drop 24).take 24).all (fun c => isCode c || c.before args0 about1) = true := by decide +kernel
set_option maxRecDepth 65536 in
theorem w_t5 : ((((words1.drop 24).drop 24).drop 24).drop 24).all (fun c => isCode c || c.before args0 about1) = true := by decide +kernel
theorem w_tables : (allAtoms (Jvm.Cond.code x code maxLocals ret :: tables_1)).before args0 about1 = true := by
  rw [allAtoms_all]
  show words1.all (fun c => c.before args0 about1) = true
  refine all_split ?_ w_codes
  rw [← List.take_append_drop 24 words1, List.all_append, w_t1, ← List.take_append_drop 24 (words1.drop 24), List.all_append, w_t2, ← List.take_append_drop 24 ((words1.drop 24).drop 24), List.all_append, w_t3, ← List.take_append_drop 24 (((words1.drop 24).drop 24).drop 24), List.all_append, w_t4, w_t5]
  rfl
set_option maxRecDepth 65536 in
theorem w_case : (Jvm.Cond.and given_1 narrow_1).before args0 about1 = true := by decide +kernel
theorem w_applies : (headSpec (Jvm.Cond.code x code maxLocals ret :: tables_1) room_1).applies x e0.platform about1 = true :=
  (Spec.applies_iff w_frames).mpr ⟨w_running, w_runnable, w_alone, w_named, w_hears, w_ripe, w_room, w_tables⟩
theorem atStart : AtStart classFile x code maxLocals ret World_1 tables_1 room_1 Calls_1 rest_1 Pre_1 launch0 p0 e0 about1 theMethod args0 below0 :=
  ⟨lists_1, trivial, launch0.admits_env _ _ _, launch0.least_env, fairChoices_fair.cas, fairChoices_fair.clock, w_frames, w_args, w_heap, w_applies, trivial, trivial, w_case⟩
end start1
theorem witness_1 : WitnessClaimed_1 := ⟨start1.p0, start1.e0, start1.about1, start1.theMethod, start1.args0, start1.below0, start1.atStart⟩
end Jvm.Pilot.@@N@@
