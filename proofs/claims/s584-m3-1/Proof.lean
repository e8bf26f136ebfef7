import JvmDerived
import JvmDerived.Pilot.@@N@@Statement
import JvmDerived.Pilot.@@N@@Code
set_option linter.unusedVariables false
set_option linter.unusedSimpArgs false
namespace Jvm.Pilot.@@N@@
open Jvm Jvm.ClassFile Sem Op Lib Jvm.Free Jvm.Stand Jvm.LawKit Jvm.RoadKit Bundle Jvm.Pilot.@@N@@.Jvm.D
/-! own_Go: from t the run comes to a state where G holds. A walk is written backwards from the goal, so that a case split may stand anywhere. -/
def own_Go (p : Program) (e : Env) (below : List Frame) (G : State → Prop) (t : State) : Prop := ∃ u, Steps p.tables e below t u ∧ G u
theorem own_st {p : Program} {e : Env} {below : List Frame} {G : State → Prop} {t u : State} (f : ∀ w, Steps p.tables e below u w → Steps p.tables e below t w) (k : own_Go p e below G u) : own_Go p e below G t := by
  obtain ⟨w, s, g⟩ := k
  exact ⟨w, f w s, g⟩
theorem own_jp {p : Program} {e : Env} {below : List Frame} {G : State → Prop} {t u : State} (f : Steps p.tables e below t u) (k : own_Go p e below G u) : own_Go p e below G t := by
  obtain ⟨w, s, g⟩ := k
  exact ⟨w, f.trans s, g⟩
theorem own_out {p : Program} {e : Env} {below : List Frame} {t : State} {Q : Outcome → State → Prop} (k : own_Go p e below (fun u => ∃ o, u.status = .running ∧ Ended u below o ∧ Q o u) t) : ∃ s₂ o, Steps p.tables e below t s₂ ∧ s₂.status = .running ∧ Ended s₂ below o ∧ Q o s₂ := by
  obtain ⟨w, s, o, g⟩ := k
  exact ⟨w, o, s, g⟩
theorem own_nm {p : Program} {e : Env} {below : List Frame} {G0 : State → Prop} {t : State} (k : ∀ G, G = G0 → own_Go p e below G t) : own_Go p e below G0 t := k _ rfl
theorem own_tll {x y : Int64} (h : x < y) : lcmpW x y < 0 := (lw_lt x y).mpr h
theorem own_fll {x y : Int64} (h : ¬ x < y) : ¬ lcmpW x y < 0 := fun q => h ((lw_lt x y).mp q)
theorem own_tlg {x y : Int64} (h : y < x) : 0 < lcmpW x y := (lw_gt x y).mpr h
theorem own_flg {x y : Int64} (h : ¬ y < x) : ¬ 0 < lcmpW x y := fun q => h ((lw_gt x y).mp q)
theorem own_tle {x y : Int64} (h : x = y) : lcmpW x y = 0 := (lw_eq x y).mpr h
theorem own_fle {x y : Int64} (h : ¬ x = y) : ¬ lcmpW x y = 0 := fun q => h ((lw_eq x y).mp q)
section Own
variable {p : Program} {l : Launch} {e : Env} {R : Room} {s : State} {m : MethodId} {args : Array Value} {below : List Frame} {meth : Method} {c : Code} {T : State} {locs : List Loc} {cells slots : Nat} {Z : State} {h h' : Heap} {a b : Addr} {ty : FieldType} {vs : List Value} {v : Value}
theorem own_retI (X : Stand p l e R s m args below meth c T locs cells slots) (hx : p.tables.exec = Jvm.exec) {pc : Nat} {Ls : Array Slot} {z : Int32} {rest : List Value} (hret : meth.sig.returnType = some .int) (hd : decode c.code pc = .ok (.ireturn, 1)) {fs : List Frame}
    (hl : ∀ (f : JFrame) (acts : List Action), f.method = m → f.locked = none → f.entered = [] → (doReturn e (T.setTop f) acts (some (.int z))).1 = T.setFrames fs) : Steps p.tables e below (T.setTop (mkF m pc Ls (.int z :: rest))) (T.setFrames fs) :=
  retOut X hx hret rfl (Or.inl ⟨rfl, Or.inl rfl, z, rfl⟩) hd hl
theorem own_retJ (X : Stand p l e R s m args below meth c T locs cells slots) (hx : p.tables.exec = Jvm.exec) {pc : Nat} {Ls : Array Slot} {z : Int64} {rest : List Value} (hret : meth.sig.returnType = some .long) (hd : decode c.code pc = .ok (.lreturn, 1)) {fs : List Frame}
    (hl : ∀ (f : JFrame) (acts : List Action), f.method = m → f.locked = none → f.entered = [] → (doReturn e (T.setTop f) acts (some (.long z))).1 = T.setFrames fs) : Steps p.tables e below (T.setTop (mkF m pc Ls (.long z :: rest))) (T.setFrames fs) :=
  retOut X hx hret rfl (Or.inr (Or.inl ⟨rfl, rfl, z, rfl⟩)) hd hl
/-! own_L: the array at a holds just the list vs -/
def own_L (Z : State) (h : Heap) (a : Addr) (ty : FieldType) (vs : List Value) : Prop := ∃ cl : Cell, Arr Z h a cl ty ∧ cl.slots = vs.toArray
theorem own_L.lt (F : own_L Z h a ty vs) : a < h.size := by obtain ⟨cl, A, -⟩ := F; exact A.lt
theorem own_L.ext (F : own_L Z h a ty vs) (E : Ext h h') : own_L Z h' a ty vs := by obtain ⟨cl, A, q⟩ := F; exact ⟨cl, A.ext E, q⟩
theorem own_L.other {sl : Nat} (F : own_L Z h b ty vs) (W : Wr h h' a sl v) (q : b ≠ a) : own_L Z h' b ty vs := by obtain ⟨cl, A, r⟩ := F; exact ⟨cl, A.other W q, r⟩
theorem own_L.keep {ws : List Addr} (F : own_L Z h a ty vs) (K : Keep h h' ws) (q : a ∉ ws) : own_L Z h' a ty vs := by obtain ⟨cl, A, r⟩ := F; exact ⟨cl, ⟨K.2.1 a cl A.1 q, A.2⟩, r⟩
theorem own_L.new {k : ClassId} {z : Int32} (A : Arr Z h a (newA k ty z) ty) : own_L Z h a ty (List.replicate z.toNatClampNeg (defaultValue ty)) := ⟨_, A, by simp [newA]⟩
theorem own_L.same {k : Nat} (F : own_L Z h a ty vs) (W : Wr h h' a k v) : own_L Z h' a ty (vs.set k v) := by
  obtain ⟨cl, A, q⟩ := F
  exact ⟨_, A.same W, by simp [Cell.setSlot, q]⟩
theorem own_in {cl : Cell} {j : Int32} (q : cl.slots = vs.toArray) (h1 : ¬ j < 0) (h2 : j.toNatClampNeg < vs.length) : ¬ (j < 0 ∨ cl.slots.size ≤ j.toNatClampNeg) := by
  rw [q]
  rintro (r | r)
  · exact h1 r
  · simp at r; omega
theorem own_at {cl : Cell} {k : Nat} (q : cl.slots = vs.toArray) (hv : vs[k]? = some v) : cl.slots[k]? = some v := by rw [q]; simpa using hv
theorem own_lt {k : Nat} (hv : vs[k]? = some v) : k < vs.length := by
  obtain ⟨q, -⟩ := List.getElem?_eq_some_iff.mp hv
  exact q
theorem own_bld (X : Stand p l e R s m args below meth c T locs cells slots) (hx : p.tables.exec = Jvm.exec) (hZ : Z.Warmed39 s.vm) (eT : T.heap = h) (F : own_L Z h a .byte vs) {j : Int32} {i : Nat} (h1 : ¬ j < 0) (hi : j.toNatClampNeg = i) (hv : vs[i]? = some v) {g : JFrame} (hg : g.method = m) {rest : List Value} (hs : g.stack = .int j :: .ref a :: rest) (hd : decode c.code g.pc = .ok (.baload, 1)) :
    ∀ target, Steps p.tables e below (T.setTop { g with pc := g.pc + 1, stack := v :: rest }) target → Steps p.tables e below (T.setTop g) target := by
  obtain ⟨cl, A, q⟩ := F
  subst hi
  exact X.baloadBytes hx (by rw [eT]; exact A.1) (State.isArrayOf_alike hZ.alike A.2.1) A.2.2 (own_in q h1 (own_lt hv)) (own_at q hv) hg hs hd
theorem own_jld (X : Stand p l e R s m args below meth c T locs cells slots) (hx : p.tables.exec = Jvm.exec) (hZ : Z.Warmed39 s.vm) (eT : T.heap = h) (F : own_L Z h a .long vs) {j : Int32} {i : Nat} (h1 : ¬ j < 0) (hi : j.toNatClampNeg = i) (hv : vs[i]? = some v) {g : JFrame} (hg : g.method = m) {rest : List Value} (hs : g.stack = .int j :: .ref a :: rest) (hd : decode c.code g.pc = .ok (.laload, 1)) :
    ∀ target, Steps p.tables e below (T.setTop { g with pc := g.pc + 1, stack := v :: rest }) target → Steps p.tables e below (T.setTop g) target := by
  obtain ⟨cl, A, q⟩ := F
  subst hi
  exact X.laload hx (by rw [eT]; exact A.1) (State.isArrayOf_alike hZ.alike A.2.1) A.2.2 (own_in q h1 (own_lt hv)) (own_at q hv) hg hs hd
theorem own_ild (X : Stand p l e R s m args below meth c T locs cells slots) (hx : p.tables.exec = Jvm.exec) (hZ : Z.Warmed39 s.vm) (eT : T.heap = h) (F : own_L Z h a .int vs) {j : Int32} {i : Nat} (h1 : ¬ j < 0) (hi : j.toNatClampNeg = i) (hv : vs[i]? = some v) {g : JFrame} (hg : g.method = m) {rest : List Value} (hs : g.stack = .int j :: .ref a :: rest) (hd : decode c.code g.pc = .ok (.iaload, 1)) :
    ∀ target, Steps p.tables e below (T.setTop { g with pc := g.pc + 1, stack := v :: rest }) target → Steps p.tables e below (T.setTop g) target := by
  obtain ⟨cl, A, q⟩ := F
  subst hi
  exact X.iaload hx (by rw [eT]; exact A.1) (State.isArrayOf_alike hZ.alike A.2.1) A.2.2 (own_in q h1 (own_lt hv)) (own_at q hv) hg hs hd
theorem own_zld (X : Stand p l e R s m args below meth c T locs cells slots) (hx : p.tables.exec = Jvm.exec) (hZ : Z.Warmed39 s.vm) (eT : T.heap = h) (F : own_L Z h a .boolean vs) {j : Int32} {i : Nat} (h1 : ¬ j < 0) (hi : j.toNatClampNeg = i) (hv : vs[i]? = some v) {g : JFrame} (hg : g.method = m) {rest : List Value} (hs : g.stack = .int j :: .ref a :: rest) (hd : decode c.code g.pc = .ok (.baload, 1)) :
    ∀ target, Steps p.tables e below (T.setTop { g with pc := g.pc + 1, stack := v :: rest }) target → Steps p.tables e below (T.setTop g) target := by
  obtain ⟨cl, A, q⟩ := F
  subst hi
  exact X.baloadBooleans hx (by rw [eT]; exact A.1) (State.isArrayOf_alike hZ.alike A.2.1) A.2.2 (own_in q h1 (own_lt hv)) (own_at q hv) hg hs hd
theorem own_len (X : Stand p l e R s m args below meth c T locs cells slots) (hx : p.tables.exec = Jvm.exec) (hZ : Z.Warmed39 s.vm) (eT : T.heap = h) (F : own_L Z h a ty vs) {z : Int32} (hz : vs.length.toInt32 = z) {g : JFrame} (hg : g.method = m) {rest : List Value} (hs : g.stack = .ref a :: rest) (hd : decode c.code g.pc = .ok (.arraylength, 1)) :
    ∀ target, Steps p.tables e below (T.setTop { g with pc := g.pc + 1, stack := .int z :: rest }) target → Steps p.tables e below (T.setTop g) target := by
  obtain ⟨cl, A, q⟩ := F
  intro w k
  refine X.arraylength hx (by rw [eT]; exact A.1) (State.isArrayOf_alike hZ.alike A.2.1) hg hs hd w ?_
  have q2 : cl.slots.size.toInt32 = z := by rw [← hz, q]; simp
  rw [q2]; exact k
theorem own_bst (X : Stand p l e R s m args below meth c T locs cells slots) (hx : p.tables.exec = Jvm.exec) (hZ : Z.Warmed39 s.vm) (eT : T.heap = h) (F : own_L Z h a .byte vs) {j x : Int32} (i : Nat) (h1 : ¬ j < 0) (hi : j.toNatClampNeg = i) (h2 : i < vs.length) {g : JFrame} (hg : g.method = m) {rest : List Value} (hs : g.stack = .int x :: .int j :: .ref a :: rest) (hd : decode c.code g.pc = .ok (.bastore, 1)) :
    ∃ T' h', Stand p l e R s m args below meth c T' (locs ++ [⟨a, i⟩]) cells slots ∧ T'.heap = h' ∧ Wr h h' a i (.int x.toInt8.toInt32) ∧ own_L Z h' a .byte (vs.set i (.int x.toInt8.toInt32)) ∧ ∀ target, Steps p.tables e below (T'.setTop { g with pc := g.pc + 1, stack := rest }) target → Steps p.tables e below (T.setTop g) target := by
  obtain ⟨cl, A, q⟩ := F
  subst hi
  obtain ⟨T', h', X', e', W, st⟩ := stB X hx hZ eT A (own_in q h1 h2) hg hs hd
  exact ⟨T', h', X', e', W, own_L.same ⟨cl, A, q⟩ W, st⟩
theorem own_zst (X : Stand p l e R s m args below meth c T locs cells slots) (hx : p.tables.exec = Jvm.exec) (hZ : Z.Warmed39 s.vm) (eT : T.heap = h) (F : own_L Z h a .boolean vs) {j x : Int32} (i : Nat) (h1 : ¬ j < 0) (hi : j.toNatClampNeg = i) (h2 : i < vs.length) {g : JFrame} (hg : g.method = m) {rest : List Value} (hs : g.stack = .int x :: .int j :: .ref a :: rest) (hd : decode c.code g.pc = .ok (.bastore, 1)) :
    ∃ T' h', Stand p l e R s m args below meth c T' (locs ++ [⟨a, i⟩]) cells slots ∧ T'.heap = h' ∧ Wr h h' a i (.int (x &&& 1)) ∧ own_L Z h' a .boolean (vs.set i (.int (x &&& 1))) ∧ ∀ target, Steps p.tables e below (T'.setTop { g with pc := g.pc + 1, stack := rest }) target → Steps p.tables e below (T.setTop g) target := by
  obtain ⟨cl, A, q⟩ := F
  subst hi
  obtain ⟨T', h', X', e', W, st⟩ := stZ X hx hZ eT A (own_in q h1 h2) hg hs hd
  exact ⟨T', h', X', e', W, own_L.same ⟨cl, A, q⟩ W, st⟩
theorem own_jst (X : Stand p l e R s m args below meth c T locs cells slots) (hx : p.tables.exec = Jvm.exec) (hZ : Z.Warmed39 s.vm) (eT : T.heap = h) (F : own_L Z h a .long vs) {j : Int32} {x : Int64} (i : Nat) (h1 : ¬ j < 0) (hi : j.toNatClampNeg = i) (h2 : i < vs.length) {g : JFrame} (hg : g.method = m) {rest : List Value} (hs : g.stack = .long x :: .int j :: .ref a :: rest) (hd : decode c.code g.pc = .ok (.lastore, 1)) :
    ∃ T' h', Stand p l e R s m args below meth c T' (locs ++ [⟨a, i⟩]) cells slots ∧ T'.heap = h' ∧ Wr h h' a i (.long x) ∧ own_L Z h' a .long (vs.set i (.long x)) ∧ ∀ target, Steps p.tables e below (T'.setTop { g with pc := g.pc + 1, stack := rest }) target → Steps p.tables e below (T.setTop g) target := by
  obtain ⟨cl, A, q⟩ := F
  subst hi
  obtain ⟨T', h', X', e', W, st⟩ := stJ X hx hZ eT A (own_in q h1 h2) hg hs hd
  exact ⟨T', h', X', e', W, own_L.same ⟨cl, A, q⟩ W, st⟩
theorem own_ist (X : Stand p l e R s m args below meth c T locs cells slots) (hx : p.tables.exec = Jvm.exec) (hZ : Z.Warmed39 s.vm) (eT : T.heap = h) (F : own_L Z h a .int vs) {j x : Int32} (i : Nat) (h1 : ¬ j < 0) (hi : j.toNatClampNeg = i) (h2 : i < vs.length) {g : JFrame} (hg : g.method = m) {rest : List Value} (hs : g.stack = .int x :: .int j :: .ref a :: rest) (hd : decode c.code g.pc = .ok (.iastore, 1)) :
    ∃ T' h', Stand p l e R s m args below meth c T' (locs ++ [⟨a, i⟩]) cells slots ∧ T'.heap = h' ∧ Wr h h' a i (.int x) ∧ own_L Z h' a .int (vs.set i (.int x)) ∧ ∀ target, Steps p.tables e below (T'.setTop { g with pc := g.pc + 1, stack := rest }) target → Steps p.tables e below (T.setTop g) target := by
  obtain ⟨cl, A, q⟩ := F
  subst hi
  obtain ⟨T', h', X', e', W, st⟩ := stI X hx hZ eT A (own_in q h1 h2) hg hs hd
  exact ⟨T', h', X', e', W, own_L.same ⟨cl, A, q⟩ W, st⟩
theorem own_clone (X : Stand p l e R s m args below meth c T locs cells slots) (hx : p.tables.exec = Jvm.exec) (hZ : Z.Warmed39 s.vm) {a0 : Array Value} {own ad : String} {index : Nat} (hown : s.vm.findClass own = some m.cls)
    (w1 : (Cond.methodLink own index ⟨ad, "clone", "()Ljava/lang/Object;"⟩).before a0 Z = true) (w2 : (Cond.sameMethod ad "java/lang/Object" "clone" "()Ljava/lang/Object;").before a0 Z = true) (w3 : (Cond.native ⟨"java/lang/Object", "clone", "()Ljava/lang/Object;"⟩).before a0 Z = true)
    (w4 : (Cond.instanceMethod ⟨"java/lang/Object", "clone", "()Ljava/lang/Object;"⟩).before a0 Z = true) (w5 : (Cond.selects ad ⟨ad, "clone", "()Ljava/lang/Object;"⟩ ⟨"java/lang/Object", "clone", "()Ljava/lang/Object;"⟩).before a0 Z = true) (w6 : (Cond.castable ad "java/lang/Cloneable").before a0 Z = true)
    (eT : T.heap = h) (F : own_L Z h a ty vs) (E : Exa Z h a ad) (hfit : ∀ v ∈ vs, fits ty v = true) {g : JFrame} (hg : g.method = m) (hsize : g.locals.size = c.maxLocals) {rest : List Value} (hs : g.stack = .ref a :: rest) (hd : decode c.code g.pc = .ok (.invokevirtual index, 3))
    (hf : 1 ≤ R.frames) {W cap : Nat} (hW : 2 * g.monitorRoom + (rest.map fun v => v.category).sum ≤ W) (hl : W + 14 ≤ R.locals) (hcap : vs.length ≤ cap) (hc : cells + 1 ≤ R.cells) (hsl : slots + cap ≤ R.slots) :
    ∃ T' h', Stand p l e R s m args below meth c T' locs (cells + 1) (slots + cap) ∧ T'.heap = h' ∧ Ext h h' ∧ own_L Z h' h.size ty vs ∧ Exa Z h' h.size ad ∧
      ∀ target, Steps p.tables e below (T'.setTop { g with pc := g.pc + 3, stack := .ref h.size :: rest }) target → Steps p.tables e below (T.setTop g) target := by
  obtain ⟨cl, A, q⟩ := F
  have FC : FitC Z cl := fitC_of A fun i hi v hv => hfit v (by
    rw [q] at hv
    exact List.mem_of_getElem? (by simpa using hv))
  obtain ⟨T', h', X', e', ex, A', E', st⟩ := cloneA X hx hZ hown w1 w2 w3 w4 w5 w6 eT A E FC hg hsize hs hd hf hW hl (by rw [q]; simpa using hcap) hc hsl
  exact ⟨T', h', X', e', ex, ⟨cloneOf cl, A', q⟩, E', st⟩
end Own
section OwnCopy
variable {p : Program} {l : Launch} {e : Env} {R : Room} {s : State} {m : MethodId} {args : Array Value} {below : List Frame} {meth : Method} {c : Code} {T : State} {locs : List Loc} {cells slots : Nat} {Z : State} {h h' : Heap} {a b : Addr} {ty : FieldType} {vs vd us : List Value} {v dv : Value}
theorem own_arv (hl : vs.length < 2147483648) (F : own_L Z h a ty vs) (hf : ∀ v ∈ vs, fits ty v = true) (dv : Value) : ∃ k, Arv Z h a k ty vs.length.toInt32 vs dv ∧ (vs.length.toInt32).toNatClampNeg = vs.length := by
  obtain ⟨cl, A, q⟩ := F
  have hz : (vs.length.toInt32).toInt = vs.length := len_toInt (by omega)
  have z0 : (0 : Int32).toInt = 0 := by decide
  have hn : ¬ vs.length.toInt32 < 0 := by rw [Int32.lt_iff_toInt_lt, hz, z0]; omega
  have hc : (vs.length.toInt32).toNatClampNeg = vs.length := by show (vs.length.toInt32).toInt.toNat = _; rw [hz]; simp
  have gd : ∀ i, i < vs.length → vs[i]? = some (vs.getD i dv) := fun i hi => by simp [List.getD_eq_getElem?_getD, hi]
  have sz : cl.slots.size = vs.length := by rw [q]; simp
  refine ⟨cl.cls, ⟨cl, A, rfl, by rw [sz, hc], hn, fun i hi => ?_, fun i hi => ?_⟩, hc⟩
  · exact own_at q (gd i (by omega))
  · exact hf _ (List.mem_of_getElem? (gd i (by omega)))
theorem own_ofArv {k : ClassId} {z : Int32} (F : Arv Z h a k ty z us dv) (hl : us.length = z.toNatClampNeg) : own_L Z h a ty us := by
  obtain ⟨cl, A, -, S, -, H, -⟩ := F
  refine ⟨cl, A, ?_⟩
  apply Array.ext_getElem?
  intro i
  by_cases hi : i < us.length
  · rw [H i (by omega)]
    simp [List.getD_eq_getElem?_getD, hi]
  · rw [Array.getElem?_eq_none (by omega)]
    simp
    omega
theorem own_stretch (vs : List Value) (i k : Nat) (hk : i + k ≤ vs.length) (dv : Value) : ((List.range k).map fun x => vs.getD (i + x) dv) = (vs.drop i).take k := by
  apply List.ext_getElem?
  intro j
  by_cases hj : j < k
  · simp [hj, List.getElem?_take, List.getD_eq_getElem?_getD, show i + j < vs.length by omega]
  · rw [List.getElem?_eq_none (by simp; omega), List.getElem?_eq_none (by simp; omega)]
theorem own_cp (X : Stand p l e R s m args below meth c T locs cells slots) (hx : p.tables.exec = Jvm.exec) (hZ : Z.Warmed39 s.vm) {a0 : Array Value} {own : String} {index : Nat} (hown : s.vm.findClass own = some m.cls)
    (w1 : (Cond.methodLink own index Jvm.Stand.acN).before a0 Z = true) (w2 : (Cond.native Jvm.Stand.acN).before a0 Z = true) (w3 : (Cond.static Jvm.Stand.acN).before a0 Z = true) (w4 : (Cond.initialized "java/lang/System").before a0 Z = true) (eT : T.heap = h)
    (A : own_L Z h a ty vs) (B : own_L Z h b ty vd) (hr : refKind ty = false) (fa : ∀ v ∈ vs, fits ty v = true) (fb : ∀ v ∈ vd, fits ty v = true) (la : vs.length < 2147483648) (lb : vd.length < 2147483648) {sp dp nn : Int32} (i j k : Nat)
    (h1 : ¬ sp < 0) (hi : sp.toNatClampNeg = i) (h2 : ¬ dp < 0) (hj : dp.toNatClampNeg = j) (h3 : ¬ nn < 0) (hk : nn.toNatClampNeg = k) (h4 : i + k ≤ vs.length) (h5 : j + k ≤ vd.length) {n0 : Nat} (N : Fr n0 locs) (ge : n0 ≤ b)
    {g : JFrame} (hg : g.method = m) (hsize : g.locals.size = c.maxLocals) {rest : List Value} (hs : g.stack = .int nn :: .int dp :: .ref b :: .int sp :: .ref a :: rest) (hd : decode c.code g.pc = .ok (.invokestatic index, 3))
    (hf : 1 ≤ R.frames) {W : Nat} (hW : 2 * g.monitorRoom + (rest.map fun v => v.category).sum ≤ W) (hlo : W + 18 ≤ R.locals) :
    ∃ T' h' L, Stand p l e R s m args below meth c T' L cells slots ∧ T'.heap = h' ∧ Fr n0 L ∧ Keep h h' [b] ∧ own_L Z h' b ty (vd.take j ++ (vs.drop i).take k ++ vd.drop (j + k)) ∧
      ∀ target, Steps p.tables e below (T'.setTop { g with pc := g.pc + 3, stack := rest }) target → Steps p.tables e below (T.setTop g) target := by
  subst hi hj hk
  obtain ⟨k1, A', ca⟩ := own_arv la A fa (.int 0)
  obtain ⟨k2, B', cb⟩ := own_arv lb B fb (.int 0)
  obtain ⟨T', h', L, X', e', N', K', V', st⟩ := cpA X hx hZ hown w1 w2 w3 w4 eT A' B' (Or.inl ⟨rfl, hr⟩) h1 h2 h3 (by omega) (by omega) rfl (by omega) N ge hg hsize hs hd hf hW hlo
  refine ⟨T', h', L, X', e', N', K', ?_, st⟩
  have q := own_ofArv V' (by simp; omega)
  rw [own_stretch _ _ _ h4] at q
  exact q
end OwnCopy
theorem own_selp {Z s : State} {a0 args : Array Value} {y : MethodName} {n : Nat} (hZ : Z.Warmed39 s.vm) (wi : (Cond.instantiable y.cls n).before a0 Z = true) (wp : (Cond.privateMethod y).before a0 Z = true) (wm : (Cond.instanceMethod y).before a0 Z = true)
    (hy : y.cls ≠ "java/lang/invoke/MethodHandle" ∧ y.cls ≠ "java/lang/invoke/VarHandle") : (Cond.selects y.cls y y).before args s = true := by
  have wi' : (Cond.instantiable y.cls n).before args s = true := mvT hZ wi
  obtain ⟨c2, k2, i1, i2, i3, i4, -⟩ := Cond.instantiable_spec wi'
  have i5 : k2.isInterface = false := by
    cases q : k2.isInterface
    · rfl
    · simp [q] at i4
  exact Jvm.Stand.selects_self_of_private i1 i2 i5 (Cond.privateMethod_at (mvP hZ wp (args := args))) (mvT hZ wm) hy
theorem pn_0 : plainName "com/example/headroom/headroom/KeyState" = true := by first | (simp [plainName, overriddenIn]; done) | decide +kernel
theorem d2_0 : decode prog_17_method_1_code 0 = .ok (.aload_n 0, 1) := by decide +kernel
theorem d2_1 : decode prog_17_method_1_code 1 = .ok (.invokespecial 1, 3) := by decide +kernel
theorem d2_4 : decode prog_17_method_1_code 4 = .ok (.return_, 1) := by decide +kernel
theorem ef_rm2 (m : MethodId) (d : Addr) : entryFrame m #[(.ref d)] 1 = mkF m 0 #[.val (.ref d)] [] := by first | (simp [entryFrame, mkF, argsToLocals, Value.category]; done) | rfl
def Q2 (Z : State) (d : Addr) (h0 : Heap) (n0 : Nat) (rv : Option Value) (hq : Heap) (Lq : List Loc) : Prop := rv = none ∧ Fr n0 Lq ∧ hq = h0
set_option maxRecDepth 65536 in
set_option maxHeartbeats 40000000 in
theorem rm2 (l : Launch) (Z : State) (a0 : Array Value) (hw : ∀ d ∈ tables_1, d.before a0 Z = true) (ws : List Jvm.Cond) (d : Addr) (h0 : Heap) (n0 : Nat) (Z0 : n0 ≤ h0.size) :
    MetFree l (⟨"com/example/headroom/headroom/KeyState", "<init>", "()V"⟩ : MethodName) (head1 (Jvm.Cond.code (⟨"com/example/headroom/headroom/KeyState", "<init>", "()V"⟩ : MethodName) prog_17_method_1_code 1 none :: ws) ({ frames := 1, cells := 0, slots := 0, locals := 12 } : Room)) (fun za U => za = #[(.ref d)] ∧ Z.Warmed39 U.vm ∧ U.heap = h0) (fun _ _ _ _ _ => True) (fun _ U o U' => ∃ rv Lq, o = .returned rv ∧ Q2 Z d h0 n0 rv U'.heap Lq ∧ FrameEnd U o U' Lq ({ frames := 1, cells := 0, slots := 0, locals := 12 } : Room).cells ({ frames := 1, cells := 0, slots := 0, locals := 12 } : Room).slots) := by
  refine MetFree.of_bodySF (plainFor_of_name pn_0) hisR ?_
  intro p e s m args below meth c s₁ Bd hml0 hP hK
  obtain ⟨rfl, hZ, hh⟩ := hP
  have hx := Bd.exec
  have hby := Bd.bytes
  have hml : c.maxLocals = 1 := hml0
  have hown : s.vm.findClass "com/example/headroom/headroom/KeyState" = some m.cls := findClass_of_methodNamed Bd.named
  have hnm := (name_of_methodNamed Bd.named Bd.method).1
  have X0 : Stand p l e ({ frames := 1, cells := 0, slots := 0, locals := 12 } : Room) s m #[(.ref d)] below meth c s₁ [] 0 0 := Stand.of_body Bd
  have e0 : s₁.heap = h0 := by rw [← hh, Bd.state]; rfl
  have N0 := Fr.nil n0
  refine own_out (own_nm fun G hG => own_st (fun zt zk => castTop (ef_rm2 m d) zk) ?_)
  show own_Go p e below G (s₁.setTop (mkF m 0 #[.val (.ref d)] []))
  refine own_st (fun zw zk => XS.aloadN X0.here hx rfl (hb hby d2_0) rfl rfl zk) ?_
  obtain ⟨T1, X1, e1, st1⟩ := initO X0 hx hZ hown (hw _ (List.mem_of_getElem? (i := 13) rfl)) (hw _ (List.mem_of_getElem? (i := 14) rfl)) (hw _ (List.mem_of_getElem? (i := 15) rfl)) e0 (g := (mkF m 1 #[.val (.ref d)] [(.ref d)])) rfl (by rw [hml]; rfl) rfl (hb hby d2_1) (by decide) (W := 0) (by show 2 * 0 + _ ≤ _; exact Nat.le_of_eq rfl) (by decide)
  refine own_st (fun zw zk => st1 zw zk) ?_
  subst hG
  obtain ⟨fs, hr, hrun, hended, hW, hsame⟩ := X1.leave (v := none) (hlocks := Bd.notSynchronized) (fun _ => rfl)
  refine ⟨_, X1.returnOut hx Bd.returns (hb hby d2_4) hr, _, hrun, hended, _, _, rfl, ?_, ⟨_, rfl⟩, hW, hsame.mono (by decide) (by decide)⟩
  show Q2 Z d h0 n0 _ T1.heap _
  rw [e1]
  exact ⟨rfl, N0, rfl⟩
theorem pd_0 : parseMethodDescriptor "()V" = some ⟨[], none⟩ := by decide +kernel
theorem pn_1 : plainName "com/example/headroom/headroom/SlidingLog$Log" = true := by first | (simp [plainName, overriddenIn]; done) | decide +kernel
theorem d1_0 : decode prog_48_method_1_code 0 = .ok (.aload_n 0, 1) := by decide +kernel
theorem d1_1 : decode prog_48_method_1_code 1 = .ok (.invokespecial 1, 3) := by decide +kernel
theorem d1_4 : decode prog_48_method_1_code 4 = .ok (.aload_n 0, 1) := by decide +kernel
theorem d1_5 : decode prog_48_method_1_code 5 = .ok (.iconst 2, 1) := by decide +kernel
theorem d1_6 : decode prog_48_method_1_code 6 = .ok (.newarray .long, 2) := by decide +kernel
theorem d1_8 : decode prog_48_method_1_code 8 = .ok (.putfield 7, 3) := by decide +kernel
theorem d1_11 : decode prog_48_method_1_code 11 = .ok (.return_, 1) := by decide +kernel
theorem ef_rm1 (m : MethodId) (d : Addr) : entryFrame m #[(.ref d)] 1 = mkF m 0 #[.val (.ref d)] [] := by first | (simp [entryFrame, mkF, argsToLocals, Value.category]; done) | rfl
def Q1 (Z : State) (d : Addr) (h0 : Heap) (n0 : Nat) (rv : Option Value) (hq : Heap) (Lq : List Loc) : Prop := rv = none ∧ Fr n0 Lq ∧ ∃ tt : Addr, h0.size ≤ tt ∧ Keep h0 hq [d] ∧ Exa Z hq d "com/example/headroom/headroom/SlidingLog$Log" ∧ Fld Z hq d "com/example/headroom/headroom/SlidingLog$Log" "entries" "[J" (.ref tt) ∧ Fld Z hq d "com/example/headroom/headroom/SlidingLog$Log" "first" "I" (.int (0 : Int32)) ∧ Fld Z hq d "com/example/headroom/headroom/SlidingLog$Log" "size" "I" (.int (0 : Int32)) ∧ Fld Z hq d "com/example/headroom/headroom/SlidingLog$Log" "admitted" "J" (.long (0 : Int64)) ∧ own_L Z hq tt .long ([(.long (0 : Int64)), (.long (0 : Int64))])
set_option maxRecDepth 65536 in
set_option maxHeartbeats 40000000 in
theorem rm1 (l : Launch) (Z : State) (a0 : Array Value) (hw : ∀ d ∈ tables_1, d.before a0 Z = true) (ws : List Jvm.Cond) (d : Addr) (h0 : Heap) (n0 : Nat) (Z0 : n0 ≤ h0.size) (F0_ : Exa Z h0 d "com/example/headroom/headroom/SlidingLog$Log") (F1_ : Fld Z h0 d "com/example/headroom/headroom/SlidingLog$Log" "entries" "[J" .null) (F2_ : Fld Z h0 d "com/example/headroom/headroom/SlidingLog$Log" "first" "I" (.int (0 : Int32))) (F3_ : Fld Z h0 d "com/example/headroom/headroom/SlidingLog$Log" "size" "I" (.int (0 : Int32))) (F4_ : Fld Z h0 d "com/example/headroom/headroom/SlidingLog$Log" "admitted" "J" (.long (0 : Int64))) (ge_d : n0 ≤ d) :
    MetFree l (⟨"com/example/headroom/headroom/SlidingLog$Log", "<init>", "()V"⟩ : MethodName) (head1 (Jvm.Cond.code (⟨"com/example/headroom/headroom/SlidingLog$Log", "<init>", "()V"⟩ : MethodName) prog_48_method_1_code 1 none :: ws) ({ frames := 2, cells := 1, slots := 2, locals := 24 } : Room)) (fun za U => za = #[(.ref d)] ∧ Z.Warmed39 U.vm ∧ U.heap = h0) (fun _ _ _ _ _ => True) (fun _ U o U' => ∃ rv Lq, o = .returned rv ∧ Q1 Z d h0 n0 rv U'.heap Lq ∧ FrameEnd U o U' Lq ({ frames := 2, cells := 1, slots := 2, locals := 24 } : Room).cells ({ frames := 2, cells := 1, slots := 2, locals := 24 } : Room).slots) := by
  refine MetFree.of_bodySF (plainFor_of_name pn_1) hisR ?_
  intro p e s m args below meth c s₁ Bd hml0 hP hK
  obtain ⟨rfl, hZ, hh⟩ := hP
  have hx := Bd.exec
  have hby := Bd.bytes
  have hml : c.maxLocals = 1 := hml0
  have hown : s.vm.findClass "com/example/headroom/headroom/SlidingLog$Log" = some m.cls := findClass_of_methodNamed Bd.named
  have hnm := (name_of_methodNamed Bd.named Bd.method).1
  have X0 : Stand p l e ({ frames := 2, cells := 1, slots := 2, locals := 24 } : Room) s m #[(.ref d)] below meth c s₁ [] 0 0 := Stand.of_body Bd
  have e0 : s₁.heap = h0 := by rw [← hh, Bd.state]; rfl
  have N0 := Fr.nil n0
  refine own_out (own_nm fun G hG => own_st (fun zt zk => castTop (ef_rm1 m d) zk) ?_)
  show own_Go p e below G (s₁.setTop (mkF m 0 #[.val (.ref d)] []))
  refine own_st (fun zw zk => XS.aloadN X0.here hx rfl (hb hby d1_0) rfl rfl zk) ?_
  obtain ⟨_, _, ⟨T2, L2, k2, n2⟩, -, X2, ⟨Lc2, hQ2, l2, y2, z2⟩, st2⟩ := X0.specialBack hx (y := (⟨"com/example/headroom/headroom/KeyState", "<init>", "()V"⟩ : MethodName)) rfl hown (mvT hZ (hw _ (List.mem_of_getElem? (i := 8) rfl))) (mvT hZ (hw _ (List.mem_of_getElem? (i := 9) rfl))) (mvT hZ (hw _ (List.mem_of_getElem? (i := 12) rfl))) (by decide) (backOf (W := 0) (rm2 l Z a0 hw [] d h0 n0 Z0) hZ (hw _ (List.mem_of_getElem? (i := 12) rfl)) (hw _ (List.mem_of_getElem? (i := 11) rfl)) (by decide) (by decide)) (g := (mkF m 1 #[.val (.ref d)] [(.ref d)])) rfl (by rw [hml]; rfl) (Steps.refl _) (a := d) (argsL := []) (rest := []) (lenOf pd_0 rfl) rfl (by show 2 * 0 + _ ≤ _; exact Nat.le_of_eq rfl) (hb hby d1_1) (fun _ _ => ⟨rfl, e0, (by decide : 0 + 0 ≤ _), (by decide : 0 + 0 ≤ _)⟩)
  dsimp only [Pt.U, Pt.locs, Pt.cells, Pt.slots] at X2 l2 y2 z2 st2 hQ2
  subst l2 y2 z2
  obtain ⟨rfl, N2q, e2⟩ := hQ2
  have N2 := Fr.app N0 N2q
  refine own_jp st2 ?_
  refine own_st (fun zw zk => XS.aloadN X2.here hx rfl (hb hby d1_4) rfl rfl zk) ?_
  refine own_st (fun zw zk => XS.iconst X2.here hx rfl (hb hby d1_5) zk) ?_
  obtain ⟨T3, h3, k3, X3, e3, E3, A3, st3⟩ := newP X2 hx hZ (hw _ (List.mem_of_getElem? (i := 16) rfl)) e2 (g := (mkF m 6 #[.val (.ref d)] [(.int (2 : Int32)), (.ref d)])) rfl (hb hby d1_6) rfl (by decide) (cap := 2) (by decide) (by decide) (by decide) (by decide)
  obtain ⟨b3, g3⟩ : ∃ z, z = h0.size := ⟨_, rfl⟩
  rw [← g3] at A3 st3
  have G3 : n0 ≤ b3 := Nat.le_trans Z0 (Nat.le_of_eq g3.symm)
  have ne_d_b3 : d ≠ b3 := Nat.ne_of_lt (Nat.lt_of_lt_of_le F0_.lt (Nat.le_of_eq g3.symm))
  have F0_3 := F0_.ext E3
  have F1_3 := F1_.ext E3
  have F2_3 := F2_.ext E3
  have F3_3 := F3_.ext E3
  have F4_3 := F4_.ext E3
  have Z3 : n0 ≤ h3.size := Nat.le_trans Z0 E3.1
  have sz3 : h0.size ≤ b3 := Nat.le_trans (Keep.refl h0 [d]).1 (Nat.le_of_eq g3.symm)
  have Kp3 := (Keep.refl h0 [d]).ext E3
  have V3 : own_L Z h3 b3 .long ([(.long (0 : Int64)), (.long (0 : Int64))]) := own_L.new A3
  refine own_st (fun zw zk => st3 zw zk) ?_
  obtain ⟨T4, h4, X4, e4, W4, st4⟩ := putF X3 hx hZ hown (host := "") (Or.inl (hw _ (List.mem_of_getElem? (i := 17) rfl))) Via.refl e3 F1_3 F0_3 (Or.inl (hw _ (List.mem_of_getElem? (i := 18) rfl))) (hw _ (List.mem_of_getElem? (i := 3) rfl)) (ty := (.array .long)) (by decide) rfl rfl (g := (mkF m 8 #[.val (.ref d)] [(.ref b3), (.ref d)])) rfl rfl (hb hby d1_8)
  have F1_4 := F1_3.same W4
  have N4 := Fr.snoc X4 N2 ge_d
  refine own_st (fun zw zk => st4 zw zk) ?_
  have F0_4 := F0_3.wr W4
  have F2_4 := F2_3.other W4 (Or.inr (slot_ne (Or.inl (hw _ (List.mem_of_getElem? (i := 33) rfl))) (Or.inl (hw _ (List.mem_of_getElem? (i := 18) rfl))) (by decide) (t := .int) (t' := (.array .long)) (by decide) (by decide)))
  have F3_4 := F3_3.other W4 (Or.inr (slot_ne (Or.inl (hw _ (List.mem_of_getElem? (i := 27) rfl))) (Or.inl (hw _ (List.mem_of_getElem? (i := 18) rfl))) (by decide) (t := .int) (t' := (.array .long)) (by decide) (by decide)))
  have F4_4 := F4_3.other W4 (Or.inr (slot_ne (Or.inl (hw _ (List.mem_of_getElem? (i := 25) rfl))) (Or.inl (hw _ (List.mem_of_getElem? (i := 18) rfl))) (by decide) (t := .long) (t' := (.array .long)) (by decide) (by decide)))
  have Vb3_4 := V3.other W4 (Ne.symm ne_d_b3)
  have Z4 : n0 ≤ h4.size := Nat.le_trans Z3 (Keep.of_wr W4).1
  have Kp4 := Kp3.wr W4 (Or.inl (List.mem_of_getElem? (i := 0) rfl))
  subst hG
  obtain ⟨fs, hr, hrun, hended, hW, hsame⟩ := X4.leave (v := none) (hlocks := Bd.notSynchronized) (fun _ => rfl)
  refine ⟨_, X4.returnOut hx Bd.returns (hb hby d1_11) hr, _, hrun, hended, _, _, rfl, ?_, ⟨_, rfl⟩, hW, hsame.mono (by decide) (by decide)⟩
  show Q1 Z d h0 n0 _ T4.heap _
  rw [e4]
  exact ⟨rfl, N4, b3, sz3, Kp4, F0_4, F1_4, F2_4, F3_4, F4_4, Vb3_4⟩
theorem d5_0 : decode prog_48_method_2_code 0 = .ok (.iconst 2, 1) := by decide +kernel
theorem d5_1 : decode prog_48_method_2_code 1 = .ok (.aload_n 0, 1) := by decide +kernel
theorem d5_2 : decode prog_48_method_2_code 2 = .ok (.getfield 13, 3) := by decide +kernel
theorem d5_5 : decode prog_48_method_2_code 5 = .ok (.iload_n 1, 1) := by decide +kernel
theorem d5_6 : decode prog_48_method_2_code 6 = .ok (.iadd, 1) := by decide +kernel
theorem d5_7 : decode prog_48_method_2_code 7 = .ok (.aload_n 0, 1) := by decide +kernel
theorem d5_8 : decode prog_48_method_2_code 8 = .ok (.getfield 7, 3) := by decide +kernel
theorem d5_11 : decode prog_48_method_2_code 11 = .ok (.arraylength, 1) := by decide +kernel
theorem d5_12 : decode prog_48_method_2_code 12 = .ok (.iconst 2, 1) := by decide +kernel
theorem d5_13 : decode prog_48_method_2_code 13 = .ok (.idiv, 1) := by decide +kernel
theorem d5_14 : decode prog_48_method_2_code 14 = .ok (.iconst 1, 1) := by decide +kernel
theorem d5_15 : decode prog_48_method_2_code 15 = .ok (.isub, 1) := by decide +kernel
theorem d5_16 : decode prog_48_method_2_code 16 = .ok (.iand, 1) := by decide +kernel
theorem d5_17 : decode prog_48_method_2_code 17 = .ok (.imul, 1) := by decide +kernel
theorem d5_18 : decode prog_48_method_2_code 18 = .ok (.ireturn, 1) := by decide +kernel
theorem ef_rm5 (m : MethodId) (d : Addr) (i : Int32) : entryFrame m #[(.ref d), (.int i)] 2 = mkF m 0 #[.val (.ref d), .val (.int i)] [] := by first | (simp [entryFrame, mkF, argsToLocals, Value.category]; done) | rfl
def Q5 (Z : State) (d : Addr) (i : Int32) (t : Addr) (fst : Int32) (nz : Int32) (vs : List Value) (h0 : Heap) (n0 : Nat) (rv : Option Value) (hq : Heap) (Lq : List Loc) : Prop := rv = some (.int ((2 : Int32) * ((fst + i) &&& ((nz / (2 : Int32)) - (1 : Int32))))) ∧ Fr n0 Lq ∧ hq = h0
set_option maxRecDepth 65536 in
set_option maxHeartbeats 40000000 in
theorem rm5 (l : Launch) (Z : State) (a0 : Array Value) (hw : ∀ d ∈ tables_1, d.before a0 Z = true) (ws : List Jvm.Cond) (d : Addr) (i : Int32) (t : Addr) (fst : Int32) (nz : Int32) (vs : List Value) (h0 : Heap) (n0 : Nat) (Z0 : n0 ≤ h0.size) (F0_ : Fld Z h0 d "com/example/headroom/headroom/SlidingLog$Log" "entries" "[J" (.ref t)) (F1_ : Fld Z h0 d "com/example/headroom/headroom/SlidingLog$Log" "first" "I" (.int fst)) (F2_ : own_L Z h0 t .long (vs)) (hln : vs.length.toInt32 = nz) :
    MetFree l (⟨"com/example/headroom/headroom/SlidingLog$Log", "slot", "(I)I"⟩ : MethodName) (head1 (Jvm.Cond.code (⟨"com/example/headroom/headroom/SlidingLog$Log", "slot", "(I)I"⟩ : MethodName) prog_48_method_2_code 2 (some .int) :: ws) ({ frames := 0, cells := 0, slots := 0, locals := 0 } : Room)) (fun za U => za = #[(.ref d), (.int i)] ∧ Z.Warmed39 U.vm ∧ U.heap = h0) (fun _ _ _ _ _ => True) (fun _ U o U' => ∃ rv Lq, o = .returned rv ∧ Q5 Z d i t fst nz vs h0 n0 rv U'.heap Lq ∧ FrameEnd U o U' Lq ({ frames := 0, cells := 0, slots := 0, locals := 0 } : Room).cells ({ frames := 0, cells := 0, slots := 0, locals := 0 } : Room).slots) := by
  refine MetFree.of_bodySF (plainFor_of_name pn_1) hisR ?_
  intro p e s m args below meth c s₁ Bd hml0 hP hK
  obtain ⟨rfl, hZ, hh⟩ := hP
  have hx := Bd.exec
  have hby := Bd.bytes
  have hml : c.maxLocals = 2 := hml0
  have hown : s.vm.findClass "com/example/headroom/headroom/SlidingLog$Log" = some m.cls := findClass_of_methodNamed Bd.named
  have hnm := (name_of_methodNamed Bd.named Bd.method).1
  have X0 : Stand p l e ({ frames := 0, cells := 0, slots := 0, locals := 0 } : Room) s m #[(.ref d), (.int i)] below meth c s₁ [] 0 0 := Stand.of_body Bd
  have e0 : s₁.heap = h0 := by rw [← hh, Bd.state]; rfl
  have N0 := Fr.nil n0
  refine own_out (own_nm fun G hG => own_st (fun zt zk => castTop (ef_rm5 m d i) zk) ?_)
  show own_Go p e below G (s₁.setTop (mkF m 0 #[.val (.ref d), .val (.int i)] []))
  refine own_st (fun zw zk => XS.iconst X0.here hx rfl (hb hby d5_0) zk) ?_
  refine own_st (fun zw zk => XS.aloadN X0.here hx rfl (hb hby d5_1) rfl rfl zk) ?_
  obtain ⟨T5, X5, e5, st5⟩ := getF X0 hx hZ hown (host := "") (Or.inl (hw _ (List.mem_of_getElem? (i := 32) rfl))) Via.refl e0 F1_ (g := (mkF m 2 #[.val (.ref d), .val (.int i)] [(.ref d), (.int (2 : Int32))])) rfl rfl (hb hby d5_2)
  refine own_st (fun zw zk => st5 zw zk) ?_
  refine own_st (fun zw zk => XS.iloadN X5.here hx rfl (hb hby d5_5) rfl zk) ?_
  refine own_st (fun zw zk => XS.iadd X5.here hx rfl (hb hby d5_6) rfl zk) ?_
  refine own_st (fun zw zk => XS.aloadN X5.here hx rfl (hb hby d5_7) rfl rfl zk) ?_
  obtain ⟨T6, X6, e6, st6⟩ := getF X5 hx hZ hown (host := "") (Or.inl (hw _ (List.mem_of_getElem? (i := 17) rfl))) Via.refl e5 F0_ (g := (mkF m 8 #[.val (.ref d), .val (.int i)] [(.ref d), (.int (fst + i)), (.int (2 : Int32))])) rfl rfl (hb hby d5_8)
  refine own_st (fun zw zk => st6 zw zk) ?_
  refine own_st (fun zw zk => own_len X6 hx hZ e6 F2_ (z := nz) (hln) (g := (mkF m 11 #[.val (.ref d), .val (.int i)] [(.ref t), (.int (fst + i)), (.int (2 : Int32))])) rfl rfl (hb hby d5_11) _ zk) ?_
  show own_Go p e below G (T6.setTop (mkF m 12 #[.val (.ref d), .val (.int i)] [(.int nz), (.int (fst + i)), (.int (2 : Int32))]))
  refine own_st (fun zw zk => XS.iconst X6.here hx rfl (hb hby d5_12) zk) ?_
  refine own_st (fun zw zk => XS.idiv X6.here hx rfl (hb hby d5_13) rfl (by decide) zk) ?_
  refine own_st (fun zw zk => XS.iconst X6.here hx rfl (hb hby d5_14) zk) ?_
  refine own_st (fun zw zk => XS.isub X6.here hx rfl (hb hby d5_15) rfl zk) ?_
  refine own_st (fun zw zk => XS.iand X6.here hx rfl (hb hby d5_16) rfl zk) ?_
  refine own_st (fun zw zk => XS.imul X6.here hx rfl (hb hby d5_17) rfl zk) ?_
  subst hG
  obtain ⟨fs, hr, hrun, hended, hW, hsame⟩ := X6.leave (v := some (.int ((2 : Int32) * ((fst + i) &&& ((nz / (2 : Int32)) - (1 : Int32)))))) (hlocks := Bd.notSynchronized) (fun h => by rw [Bd.returns] at h; cases h)
  refine ⟨_, own_retI X6 hx Bd.returns (hb hby d5_18) hr, _, hrun, hended, _, _, rfl, ?_, ⟨_, rfl⟩, hW, hsame.mono (by decide) (by decide)⟩
  show Q5 Z d i t fst nz vs h0 n0 _ T6.heap _
  rw [e6]
  exact ⟨rfl, N0, rfl⟩
theorem pd_1 : parseMethodDescriptor "(I)I" = some ⟨[.int], some .int⟩ := by decide +kernel
theorem d4_0 : decode prog_48_method_6_code 0 = .ok (.aload_n 0, 1) := by decide +kernel
theorem d4_1 : decode prog_48_method_6_code 1 = .ok (.dup, 1) := by decide +kernel
theorem d4_2 : decode prog_48_method_6_code 2 = .ok (.getfield 24, 3) := by decide +kernel
theorem d4_5 : decode prog_48_method_6_code 5 = .ok (.lload_n 3, 1) := by decide +kernel
theorem d4_6 : decode prog_48_method_6_code 6 = .ok (.ladd, 1) := by decide +kernel
theorem d4_7 : decode prog_48_method_6_code 7 = .ok (.putfield 24, 3) := by decide +kernel
theorem d4_10 : decode prog_48_method_6_code 10 = .ok (.aload_n 0, 1) := by decide +kernel
theorem d4_11 : decode prog_48_method_6_code 11 = .ok (.getfield 17, 3) := by decide +kernel
theorem d4_14 : decode prog_48_method_6_code 14 = .ok (.ifCond .le 34, 3) := by decide +kernel
theorem d4_48 : decode prog_48_method_6_code 48 = .ok (.aload_n 0, 1) := by decide +kernel
theorem d4_49 : decode prog_48_method_6_code 49 = .ok (.getfield 17, 3) := by decide +kernel
theorem d4_52 : decode prog_48_method_6_code 52 = .ok (.aload_n 0, 1) := by decide +kernel
theorem d4_53 : decode prog_48_method_6_code 53 = .ok (.getfield 7, 3) := by decide +kernel
theorem d4_56 : decode prog_48_method_6_code 56 = .ok (.arraylength, 1) := by decide +kernel
theorem d4_57 : decode prog_48_method_6_code 57 = .ok (.iconst 2, 1) := by decide +kernel
theorem d4_58 : decode prog_48_method_6_code 58 = .ok (.idiv, 1) := by decide +kernel
theorem d4_59 : decode prog_48_method_6_code 59 = .ok (.if_icmp .ne 7, 3) := by decide +kernel
theorem d4_66 : decode prog_48_method_6_code 66 = .ok (.aload_n 0, 1) := by decide +kernel
theorem d4_67 : decode prog_48_method_6_code 67 = .ok (.aload_n 0, 1) := by decide +kernel
theorem d4_68 : decode prog_48_method_6_code 68 = .ok (.getfield 17, 3) := by decide +kernel
theorem d4_71 : decode prog_48_method_6_code 71 = .ok (.invokevirtual 20, 3) := by decide +kernel
theorem d4_74 : decode prog_48_method_6_code 74 = .ok (.istore 5, 2) := by decide +kernel
theorem d4_76 : decode prog_48_method_6_code 76 = .ok (.aload_n 0, 1) := by decide +kernel
theorem d4_77 : decode prog_48_method_6_code 77 = .ok (.getfield 7, 3) := by decide +kernel
theorem d4_80 : decode prog_48_method_6_code 80 = .ok (.iload 5, 2) := by decide +kernel
theorem d4_82 : decode prog_48_method_6_code 82 = .ok (.lload_n 1, 1) := by decide +kernel
theorem d4_83 : decode prog_48_method_6_code 83 = .ok (.lastore, 1) := by decide +kernel
theorem d4_84 : decode prog_48_method_6_code 84 = .ok (.aload_n 0, 1) := by decide +kernel
theorem d4_85 : decode prog_48_method_6_code 85 = .ok (.getfield 7, 3) := by decide +kernel
theorem d4_88 : decode prog_48_method_6_code 88 = .ok (.iload 5, 2) := by decide +kernel
theorem d4_90 : decode prog_48_method_6_code 90 = .ok (.iconst 1, 1) := by decide +kernel
theorem d4_91 : decode prog_48_method_6_code 91 = .ok (.iadd, 1) := by decide +kernel
theorem d4_92 : decode prog_48_method_6_code 92 = .ok (.lload_n 3, 1) := by decide +kernel
theorem d4_93 : decode prog_48_method_6_code 93 = .ok (.lastore, 1) := by decide +kernel
theorem d4_94 : decode prog_48_method_6_code 94 = .ok (.aload_n 0, 1) := by decide +kernel
theorem d4_95 : decode prog_48_method_6_code 95 = .ok (.dup, 1) := by decide +kernel
theorem d4_96 : decode prog_48_method_6_code 96 = .ok (.getfield 17, 3) := by decide +kernel
theorem d4_99 : decode prog_48_method_6_code 99 = .ok (.iconst 1, 1) := by decide +kernel
theorem d4_100 : decode prog_48_method_6_code 100 = .ok (.iadd, 1) := by decide +kernel
theorem d4_101 : decode prog_48_method_6_code 101 = .ok (.putfield 17, 3) := by decide +kernel
theorem d4_104 : decode prog_48_method_6_code 104 = .ok (.return_, 1) := by decide +kernel
theorem ef_rm_add_0_0_2 (m : MethodId) (d : Addr) (q1 : Int64) (q3 : Int64) : entryFrame m #[(.ref d), (.long q1), (.long q3)] 6 = mkF m 0 #[.val (.ref d), .val (.long q1), .second, .val (.long q3), .second, .unset] [] := by first | (simp [entryFrame, mkF, argsToLocals, Value.category]; done) | rfl
def Q_add_0_0_2 (Z : State) (d : Addr) (q1 : Int64) (q3 : Int64) (t : Addr) (adm : Int64) (w0 : Int64) (w1 : Int64) (h0 : Heap) (n0 : Nat) (rv : Option Value) (hq : Heap) (Lq : List Loc) : Prop := rv = none ∧ Fr n0 Lq ∧ Keep h0 hq [d, t] ∧ Exa Z hq d "com/example/headroom/headroom/SlidingLog$Log" ∧ Fld Z hq d "com/example/headroom/headroom/SlidingLog$Log" "entries" "[J" (.ref t) ∧ Fld Z hq d "com/example/headroom/headroom/SlidingLog$Log" "first" "I" (.int (0 : Int32)) ∧ Fld Z hq d "com/example/headroom/headroom/SlidingLog$Log" "size" "I" (.int (1 : Int32)) ∧ Fld Z hq d "com/example/headroom/headroom/SlidingLog$Log" "admitted" "J" (.long (adm + q3)) ∧ own_L Z hq t .long ([(.long q1), (.long q3)])
set_option maxRecDepth 65536 in
set_option maxHeartbeats 40000000 in
theorem rm_add_0_0_2 (l : Launch) (Z : State) (a0 : Array Value) (hw : ∀ d ∈ tables_1, d.before a0 Z = true) (ws : List Jvm.Cond) (d : Addr) (q1 : Int64) (q3 : Int64) (t : Addr) (adm : Int64) (w0 : Int64) (w1 : Int64) (h0 : Heap) (n0 : Nat) (Z0 : n0 ≤ h0.size) (F0_ : Exa Z h0 d "com/example/headroom/headroom/SlidingLog$Log") (F1_ : Fld Z h0 d "com/example/headroom/headroom/SlidingLog$Log" "entries" "[J" (.ref t)) (F2_ : Fld Z h0 d "com/example/headroom/headroom/SlidingLog$Log" "first" "I" (.int (0 : Int32))) (F3_ : Fld Z h0 d "com/example/headroom/headroom/SlidingLog$Log" "size" "I" (.int (0 : Int32))) (F4_ : Fld Z h0 d "com/example/headroom/headroom/SlidingLog$Log" "admitted" "J" (.long adm)) (F5_ : own_L Z h0 t .long ([(.long w0), (.long w1)])) (ge_d : n0 ≤ d) (ge_t : n0 ≤ t) (ne_d_t : d ≠ t) :
    MetFree l (⟨"com/example/headroom/headroom/SlidingLog$Log", "add", "(JJ)V"⟩ : MethodName) (head1 (Jvm.Cond.code (⟨"com/example/headroom/headroom/SlidingLog$Log", "add", "(JJ)V"⟩ : MethodName) prog_48_method_6_code 6 none :: ws) ({ frames := 1, cells := 0, slots := 0, locals := 13 } : Room)) (fun za U => za = #[(.ref d), (.long q1), (.long q3)] ∧ Z.Warmed39 U.vm ∧ U.heap = h0) (fun _ _ _ _ _ => True) (fun _ U o U' => ∃ rv Lq, o = .returned rv ∧ Q_add_0_0_2 Z d q1 q3 t adm w0 w1 h0 n0 rv U'.heap Lq ∧ FrameEnd U o U' Lq ({ frames := 1, cells := 0, slots := 0, locals := 13 } : Room).cells ({ frames := 1, cells := 0, slots := 0, locals := 13 } : Room).slots) := by
  refine MetFree.of_bodySF (plainFor_of_name pn_1) hisR ?_
  intro p e s m args below meth c s₁ Bd hml0 hP hK
  obtain ⟨rfl, hZ, hh⟩ := hP
  have hx := Bd.exec
  have hby := Bd.bytes
  have hml : c.maxLocals = 6 := hml0
  have hown : s.vm.findClass "com/example/headroom/headroom/SlidingLog$Log" = some m.cls := findClass_of_methodNamed Bd.named
  have hnm := (name_of_methodNamed Bd.named Bd.method).1
  have X0 : Stand p l e ({ frames := 1, cells := 0, slots := 0, locals := 13 } : Room) s m #[(.ref d), (.long q1), (.long q3)] below meth c s₁ [] 0 0 := Stand.of_body Bd
  have e0 : s₁.heap = h0 := by rw [← hh, Bd.state]; rfl
  have N0 := Fr.nil n0
  refine own_out (own_nm fun G hG => own_st (fun zt zk => castTop (ef_rm_add_0_0_2 m d q1 q3) zk) ?_)
  show own_Go p e below G (s₁.setTop (mkF m 0 #[.val (.ref d), .val (.long q1), .second, .val (.long q3), .second, .unset] []))
  refine own_st (fun zw zk => XS.aloadN X0.here hx rfl (hb hby d4_0) rfl rfl zk) ?_
  refine own_st (fun zw zk => XS.dup X0.here hx rfl (hb hby d4_1) rfl rfl zk) ?_
  obtain ⟨T7, X7, e7, st7⟩ := getF X0 hx hZ hown (host := "") (Or.inl (hw _ (List.mem_of_getElem? (i := 24) rfl))) Via.refl e0 F4_ (g := (mkF m 2 #[.val (.ref d), .val (.long q1), .second, .val (.long q3), .second, .unset] [(.ref d), (.ref d)])) rfl rfl (hb hby d4_2)
  refine own_st (fun zw zk => st7 zw zk) ?_
  refine own_st (fun zw zk => XS.lloadN X7.here hx rfl (hb hby d4_5) rfl zk) ?_
  refine own_st (fun zw zk => XS.ladd X7.here hx rfl (hb hby d4_6) rfl zk) ?_
  obtain ⟨T8, h8, X8, e8, W8, st8⟩ := putF X7 hx hZ hown (host := "") (Or.inl (hw _ (List.mem_of_getElem? (i := 24) rfl))) Via.refl e7 F4_ F0_ (Or.inl (hw _ (List.mem_of_getElem? (i := 25) rfl))) (hw _ (List.mem_of_getElem? (i := 3) rfl)) (ty := .long) (by decide) rfl rfl (g := (mkF m 7 #[.val (.ref d), .val (.long q1), .second, .val (.long q3), .second, .unset] [(.long (adm + q3)), (.ref d)])) rfl rfl (hb hby d4_7)
  have F4_8 := F4_.same W8
  have N8 := Fr.snoc X8 N0 ge_d
  refine own_st (fun zw zk => st8 zw zk) ?_
  have F0_8 := F0_.wr W8
  have F1_8 := F1_.other W8 (Or.inr (slot_ne (Or.inl (hw _ (List.mem_of_getElem? (i := 18) rfl))) (Or.inl (hw _ (List.mem_of_getElem? (i := 25) rfl))) (by decide) (t := (.array .long)) (t' := .long) (by decide) (by decide)))
  have F2_8 := F2_.other W8 (Or.inr (slot_ne (Or.inl (hw _ (List.mem_of_getElem? (i := 33) rfl))) (Or.inl (hw _ (List.mem_of_getElem? (i := 25) rfl))) (by decide) (t := .int) (t' := .long) (by decide) (by decide)))
  have F3_8 := F3_.other W8 (Or.inr (slot_ne (Or.inl (hw _ (List.mem_of_getElem? (i := 27) rfl))) (Or.inl (hw _ (List.mem_of_getElem? (i := 25) rfl))) (by decide) (t := .int) (t' := .long) (by decide) (by decide)))
  have F5_8 := F5_.other W8 (Ne.symm ne_d_t)
  have Z8 : n0 ≤ h8.size := Nat.le_trans Z0 (Keep.of_wr W8).1
  have Kp8 := (Keep.refl h0 [d, t]).wr W8 (Or.inl (List.mem_of_getElem? (i := 0) rfl))
  refine own_st (fun zw zk => XS.aloadN X8.here hx rfl (hb hby d4_10) rfl rfl zk) ?_
  obtain ⟨T9, X9, e9, st9⟩ := getF X8 hx hZ hown (host := "") (Or.inl (hw _ (List.mem_of_getElem? (i := 26) rfl))) Via.refl e8 F3_8 (g := (mkF m 11 #[.val (.ref d), .val (.long q1), .second, .val (.long q3), .second, .unset] [(.ref d)])) rfl rfl (hb hby d4_11)
  refine own_st (fun zw zk => st9 zw zk) ?_
  show own_Go p e below G (T9.setTop (mkF m 14 #[.val (.ref d), .val (.long q1), .second, .val (.long q3), .second, .unset] [(.int (0 : Int32))]))
  refine own_st (fun zw zk => XS.ifYes X9.here hx rfl (pc0 := 14) (pc' := 48) rfl (hb hby d4_14) rfl ((if0 _ _).trans (flt (by decide : ¬ ((0 : Int32) < (0 : Int32)))).2.2.2) (by decide) (by decide) zk) ?_
  refine own_st (fun zw zk => XS.aloadN X9.here hx rfl (hb hby d4_48) rfl rfl zk) ?_
  obtain ⟨T10, X10, e10, st10⟩ := getF X9 hx hZ hown (host := "") (Or.inl (hw _ (List.mem_of_getElem? (i := 26) rfl))) Via.refl e9 F3_8 (g := (mkF m 49 #[.val (.ref d), .val (.long q1), .second, .val (.long q3), .second, .unset] [(.ref d)])) rfl rfl (hb hby d4_49)
  refine own_st (fun zw zk => st10 zw zk) ?_
  refine own_st (fun zw zk => XS.aloadN X10.here hx rfl (hb hby d4_52) rfl rfl zk) ?_
  obtain ⟨T11, X11, e11, st11⟩ := getF X10 hx hZ hown (host := "") (Or.inl (hw _ (List.mem_of_getElem? (i := 17) rfl))) Via.refl e10 F1_8 (g := (mkF m 53 #[.val (.ref d), .val (.long q1), .second, .val (.long q3), .second, .unset] [(.ref d), (.int (0 : Int32))])) rfl rfl (hb hby d4_53)
  refine own_st (fun zw zk => st11 zw zk) ?_
  refine own_st (fun zw zk => own_len X11 hx hZ e11 F5_8 (z := (2 : Int32)) (rfl) (g := (mkF m 56 #[.val (.ref d), .val (.long q1), .second, .val (.long q3), .second, .unset] [(.ref t), (.int (0 : Int32))])) rfl rfl (hb hby d4_56) _ zk) ?_
  refine own_st (fun zw zk => XS.iconst X11.here hx rfl (hb hby d4_57) zk) ?_
  refine own_st (fun zw zk => XS.idiv X11.here hx rfl (hb hby d4_58) rfl (by decide) zk) ?_
  show own_Go p e below G (T11.setTop (mkF m 59 #[.val (.ref d), .val (.long q1), .second, .val (.long q3), .second, .unset] [(.int (1 : Int32)), (.int (0 : Int32))]))
  refine own_st (fun zw zk => XS.icmpYes X11.here hx rfl (pc0 := 59) (pc' := 66) rfl (hb hby d4_59) rfl (feq (by decide : ¬ ((0 : Int32) = (1 : Int32)))).2 (by decide) (by decide) zk) ?_
  refine own_st (fun zw zk => XS.aloadN X11.here hx rfl (hb hby d4_66) rfl rfl zk) ?_
  refine own_st (fun zw zk => XS.aloadN X11.here hx rfl (hb hby d4_67) rfl rfl zk) ?_
  obtain ⟨T12, X12, e12, st12⟩ := getF X11 hx hZ hown (host := "") (Or.inl (hw _ (List.mem_of_getElem? (i := 26) rfl))) Via.refl e11 F3_8 (g := (mkF m 68 #[.val (.ref d), .val (.long q1), .second, .val (.long q3), .second, .unset] [(.ref d), (.ref d)])) rfl rfl (hb hby d4_68)
  refine own_st (fun zw zk => st12 zw zk) ?_
  obtain ⟨cq13, q13, q13'⟩ := F0_8.cell
  obtain ⟨_, _, ⟨T13, L13, k13, n13⟩, -, X13, ⟨Lc13, hQ13, l13, y13, z13⟩, st13⟩ := X12.privateBack hx (y := (⟨"com/example/headroom/headroom/SlidingLog$Log", "slot", "(I)I"⟩ : MethodName)) hown (mvT hZ (hw _ (List.mem_of_getElem? (i := 28) rfl))) (mvT hZ (hw _ (List.mem_of_getElem? (i := 29) rfl))) (own_selp hZ (hw _ (List.mem_of_getElem? (i := 3) rfl)) (hw _ (List.mem_of_getElem? (i := 30) rfl)) (hw _ (List.mem_of_getElem? (i := 29) rfl)) (by decide)) (Cond.privateMethod_at (mvP hZ (hw _ (List.mem_of_getElem? (i := 30) rfl)) (args := #[]))) (mvT hZ (hw _ (List.mem_of_getElem? (i := 31) rfl))) (by decide) (backOf (W := 0) (rm5 l Z a0 hw [] d (0 : Int32) t (0 : Int32) (2 : Int32) [(.long w0), (.long w1)] h8 n0 Z8 (F1_8) (F2_8) (F5_8) (rfl)) hZ (hw _ (List.mem_of_getElem? (i := 31) rfl)) (hw _ (List.mem_of_getElem? (i := 4) rfl)) (by decide) (by decide)) (g := (mkF m 71 #[.val (.ref d), .val (.long q1), .second, .val (.long q3), .second, .unset] [(.int (0 : Int32)), (.ref d)])) rfl (by rw [hml]; rfl) (Steps.refl _) (a := d) (by rw [e12]; exact q13) q13' (argsL := [(.int (0 : Int32))]) (rest := []) (lenOf pd_1 rfl) rfl (by show 2 * 0 + _ ≤ _; exact Nat.le_of_eq rfl) (hb hby d4_71) (fun _ _ => ⟨rfl, e12, (by decide : 0 + 0 ≤ _), (by decide : 0 + 0 ≤ _)⟩)
  dsimp only [Pt.U, Pt.locs, Pt.cells, Pt.slots] at X13 l13 y13 z13 st13 hQ13
  subst l13 y13 z13
  obtain ⟨rfl, N13q, e13⟩ := hQ13
  have N13 := Fr.app N8 N13q
  refine own_jp st13 ?_
  refine own_st (fun zw zk => XS.istore X13.here hx rfl (hb hby d4_74) rfl rfl zk) ?_
  show own_Go p e below G (T13.setTop (mkF m 76 #[.val (.ref d), .val (.long q1), .second, .val (.long q3), .second, .val (.int (0 : Int32))] []))
  refine own_st (fun zw zk => XS.aloadN X13.here hx rfl (hb hby d4_76) rfl rfl zk) ?_
  obtain ⟨T14, X14, e14, st14⟩ := getF X13 hx hZ hown (host := "") (Or.inl (hw _ (List.mem_of_getElem? (i := 17) rfl))) Via.refl e13 F1_8 (g := (mkF m 77 #[.val (.ref d), .val (.long q1), .second, .val (.long q3), .second, .val (.int (0 : Int32))] [(.ref d)])) rfl rfl (hb hby d4_77)
  refine own_st (fun zw zk => st14 zw zk) ?_
  refine own_st (fun zw zk => XS.iload X14.here hx rfl (hb hby d4_80) rfl zk) ?_
  refine own_st (fun zw zk => XS.lloadN X14.here hx rfl (hb hby d4_82) rfl zk) ?_
  obtain ⟨T15, h15, X15, e15, W15, V15, st15⟩ := own_jst X14 hx hZ e14 F5_8 (j := (0 : Int32)) (0) (by decide) (by decide) (Nat.le_of_ble_eq_true rfl) (g := (mkF m 83 #[.val (.ref d), .val (.long q1), .second, .val (.long q3), .second, .val (.int (0 : Int32))] [(.long q1), (.int (0 : Int32)), (.ref t)])) rfl rfl (hb hby d4_83)
  have F5_15 : own_L Z h15 t .long ([(.long q1), (.long w1)]) := V15
  have N15 := Fr.snoc X15 N13 ge_t
  refine own_st (fun zw zk => st15 zw zk) ?_
  have F0_15 := F0_8.wr W15
  have F1_15 := F1_8.other W15 (Or.inl ne_d_t)
  have F2_15 := F2_8.other W15 (Or.inl ne_d_t)
  have F3_15 := F3_8.other W15 (Or.inl ne_d_t)
  have F4_15 := F4_8.other W15 (Or.inl ne_d_t)
  have Z15 : n0 ≤ h15.size := Nat.le_trans Z8 (Keep.of_wr W15).1
  have Kp15 := Kp8.wr W15 (Or.inl (List.mem_of_getElem? (i := 1) rfl))
  refine own_st (fun zw zk => XS.aloadN X15.here hx rfl (hb hby d4_84) rfl rfl zk) ?_
  obtain ⟨T16, X16, e16, st16⟩ := getF X15 hx hZ hown (host := "") (Or.inl (hw _ (List.mem_of_getElem? (i := 17) rfl))) Via.refl e15 F1_15 (g := (mkF m 85 #[.val (.ref d), .val (.long q1), .second, .val (.long q3), .second, .val (.int (0 : Int32))] [(.ref d)])) rfl rfl (hb hby d4_85)
  refine own_st (fun zw zk => st16 zw zk) ?_
  refine own_st (fun zw zk => XS.iload X16.here hx rfl (hb hby d4_88) rfl zk) ?_
  show own_Go p e below G (T16.setTop (mkF m 90 #[.val (.ref d), .val (.long q1), .second, .val (.long q3), .second, .val (.int (0 : Int32))] [(.int (0 : Int32)), (.ref t)]))
  refine own_st (fun zw zk => XS.iconst X16.here hx rfl (hb hby d4_90) zk) ?_
  refine own_st (fun zw zk => XS.iadd X16.here hx rfl (hb hby d4_91) rfl zk) ?_
  refine own_st (fun zw zk => XS.lloadN X16.here hx rfl (hb hby d4_92) rfl zk) ?_
  obtain ⟨T17, h17, X17, e17, W17, V17, st17⟩ := own_jst X16 hx hZ e16 F5_15 (j := (1 : Int32)) (1) (by decide) (by decide) (Nat.le_of_ble_eq_true rfl) (g := (mkF m 93 #[.val (.ref d), .val (.long q1), .second, .val (.long q3), .second, .val (.int (0 : Int32))] [(.long q3), (.int (1 : Int32)), (.ref t)])) rfl rfl (hb hby d4_93)
  have F5_17 : own_L Z h17 t .long ([(.long q1), (.long q3)]) := V17
  have N17 := Fr.snoc X17 N15 ge_t
  refine own_st (fun zw zk => st17 zw zk) ?_
  have F0_17 := F0_15.wr W17
  have F1_17 := F1_15.other W17 (Or.inl ne_d_t)
  have F2_17 := F2_15.other W17 (Or.inl ne_d_t)
  have F3_17 := F3_15.other W17 (Or.inl ne_d_t)
  have F4_17 := F4_15.other W17 (Or.inl ne_d_t)
  have Z17 : n0 ≤ h17.size := Nat.le_trans Z15 (Keep.of_wr W17).1
  have Kp17 := Kp15.wr W17 (Or.inl (List.mem_of_getElem? (i := 1) rfl))
  refine own_st (fun zw zk => XS.aloadN X17.here hx rfl (hb hby d4_94) rfl rfl zk) ?_
  refine own_st (fun zw zk => XS.dup X17.here hx rfl (hb hby d4_95) rfl rfl zk) ?_
  obtain ⟨T18, X18, e18, st18⟩ := getF X17 hx hZ hown (host := "") (Or.inl (hw _ (List.mem_of_getElem? (i := 26) rfl))) Via.refl e17 F3_17 (g := (mkF m 96 #[.val (.ref d), .val (.long q1), .second, .val (.long q3), .second, .val (.int (0 : Int32))] [(.ref d), (.ref d)])) rfl rfl (hb hby d4_96)
  refine own_st (fun zw zk => st18 zw zk) ?_
  refine own_st (fun zw zk => XS.iconst X18.here hx rfl (hb hby d4_99) zk) ?_
  show own_Go p e below G (T18.setTop (mkF m 100 #[.val (.ref d), .val (.long q1), .second, .val (.long q3), .second, .val (.int (0 : Int32))] [(.int (1 : Int32)), (.int (0 : Int32)), (.ref d)]))
  refine own_st (fun zw zk => XS.iadd X18.here hx rfl (hb hby d4_100) rfl zk) ?_
  obtain ⟨T19, h19, X19, e19, W19, st19⟩ := putF X18 hx hZ hown (host := "") (Or.inl (hw _ (List.mem_of_getElem? (i := 26) rfl))) Via.refl e18 F3_17 F0_17 (Or.inl (hw _ (List.mem_of_getElem? (i := 27) rfl))) (hw _ (List.mem_of_getElem? (i := 3) rfl)) (ty := .int) (by decide) rfl rfl (g := (mkF m 101 #[.val (.ref d), .val (.long q1), .second, .val (.long q3), .second, .val (.int (0 : Int32))] [(.int (1 : Int32)), (.ref d)])) rfl rfl (hb hby d4_101)
  have F3_19 := F3_17.same W19
  have N19 := Fr.snoc X19 N17 ge_d
  refine own_st (fun zw zk => st19 zw zk) ?_
  have F0_19 := F0_17.wr W19
  have F1_19 := F1_17.other W19 (Or.inr (slot_ne (Or.inl (hw _ (List.mem_of_getElem? (i := 18) rfl))) (Or.inl (hw _ (List.mem_of_getElem? (i := 27) rfl))) (by decide) (t := (.array .long)) (t' := .int) (by decide) (by decide)))
  have F2_19 := F2_17.other W19 (Or.inr (slot_ne (Or.inl (hw _ (List.mem_of_getElem? (i := 33) rfl))) (Or.inl (hw _ (List.mem_of_getElem? (i := 27) rfl))) (by decide) (t := .int) (t' := .int) (by decide) (by decide)))
  have F4_19 := F4_17.other W19 (Or.inr (slot_ne (Or.inl (hw _ (List.mem_of_getElem? (i := 25) rfl))) (Or.inl (hw _ (List.mem_of_getElem? (i := 27) rfl))) (by decide) (t := .long) (t' := .int) (by decide) (by decide)))
  have F5_19 := F5_17.other W19 (Ne.symm ne_d_t)
  have Z19 : n0 ≤ h19.size := Nat.le_trans Z17 (Keep.of_wr W19).1
  have Kp19 := Kp17.wr W19 (Or.inl (List.mem_of_getElem? (i := 0) rfl))
  subst hG
  obtain ⟨fs, hr, hrun, hended, hW, hsame⟩ := X19.leave (v := none) (hlocks := Bd.notSynchronized) (fun _ => rfl)
  refine ⟨_, X19.returnOut hx Bd.returns (hb hby d4_104) hr, _, hrun, hended, _, _, rfl, ?_, ⟨_, rfl⟩, hW, hsame.mono (by decide) (by decide)⟩
  show Q_add_0_0_2 Z d q1 q3 t adm w0 w1 h0 n0 _ T19.heap _
  rw [e19]
  exact ⟨rfl, N19, Kp19, F0_19, F1_19, F2_19, F3_19, F4_19, F5_19⟩
theorem d6_0 : decode prog_48_method_3_code 0 = .ok (.aload_n 0, 1) := by decide +kernel
theorem d6_1 : decode prog_48_method_3_code 1 = .ok (.getfield 7, 3) := by decide +kernel
theorem d6_4 : decode prog_48_method_3_code 4 = .ok (.aload_n 0, 1) := by decide +kernel
theorem d6_5 : decode prog_48_method_3_code 5 = .ok (.aload_n 0, 1) := by decide +kernel
theorem d6_6 : decode prog_48_method_3_code 6 = .ok (.getfield 17, 3) := by decide +kernel
theorem d6_9 : decode prog_48_method_3_code 9 = .ok (.iconst 1, 1) := by decide +kernel
theorem d6_10 : decode prog_48_method_3_code 10 = .ok (.isub, 1) := by decide +kernel
theorem d6_11 : decode prog_48_method_3_code 11 = .ok (.invokevirtual 20, 3) := by decide +kernel
theorem d6_14 : decode prog_48_method_3_code 14 = .ok (.laload, 1) := by decide +kernel
theorem d6_15 : decode prog_48_method_3_code 15 = .ok (.lreturn, 1) := by decide +kernel
theorem ef_rm_latest_0_1_2 (m : MethodId) (d : Addr) : entryFrame m #[(.ref d)] 1 = mkF m 0 #[.val (.ref d)] [] := by first | (simp [entryFrame, mkF, argsToLocals, Value.category]; done) | rfl
def Q_latest_0_1_2 (Z : State) (d : Addr) (t : Addr) (adm : Int64) (w0 : Int64) (w1 : Int64) (h0 : Heap) (n0 : Nat) (rv : Option Value) (hq : Heap) (Lq : List Loc) : Prop := rv = some (.long w0) ∧ Fr n0 Lq ∧ hq = h0
set_option maxRecDepth 65536 in
set_option maxHeartbeats 40000000 in
theorem rm_latest_0_1_2 (l : Launch) (Z : State) (a0 : Array Value) (hw : ∀ d ∈ tables_1, d.before a0 Z = true) (ws : List Jvm.Cond) (d : Addr) (t : Addr) (adm : Int64) (w0 : Int64) (w1 : Int64) (h0 : Heap) (n0 : Nat) (Z0 : n0 ≤ h0.size) (F0_ : Exa Z h0 d "com/example/headroom/headroom/SlidingLog$Log") (F1_ : Fld Z h0 d "com/example/headroom/headroom/SlidingLog$Log" "entries" "[J" (.ref t)) (F2_ : Fld Z h0 d "com/example/headroom/headroom/SlidingLog$Log" "first" "I" (.int (0 : Int32))) (F3_ : Fld Z h0 d "com/example/headroom/headroom/SlidingLog$Log" "size" "I" (.int (1 : Int32))) (F4_ : Fld Z h0 d "com/example/headroom/headroom/SlidingLog$Log" "admitted" "J" (.long adm)) (F5_ : own_L Z h0 t .long ([(.long w0), (.long w1)])) :
    MetFree l (⟨"com/example/headroom/headroom/SlidingLog$Log", "latest", "()J"⟩ : MethodName) (head1 (Jvm.Cond.code (⟨"com/example/headroom/headroom/SlidingLog$Log", "latest", "()J"⟩ : MethodName) prog_48_method_3_code 1 (some .long) :: ws) ({ frames := 1, cells := 0, slots := 0, locals := 14 } : Room)) (fun za U => za = #[(.ref d)] ∧ Z.Warmed39 U.vm ∧ U.heap = h0) (fun _ _ _ _ _ => True) (fun _ U o U' => ∃ rv Lq, o = .returned rv ∧ Q_latest_0_1_2 Z d t adm w0 w1 h0 n0 rv U'.heap Lq ∧ FrameEnd U o U' Lq ({ frames := 1, cells := 0, slots := 0, locals := 14 } : Room).cells ({ frames := 1, cells := 0, slots := 0, locals := 14 } : Room).slots) := by
  refine MetFree.of_bodySF (plainFor_of_name pn_1) hisR ?_
  intro p e s m args below meth c s₁ Bd hml0 hP hK
  obtain ⟨rfl, hZ, hh⟩ := hP
  have hx := Bd.exec
  have hby := Bd.bytes
  have hml : c.maxLocals = 1 := hml0
  have hown : s.vm.findClass "com/example/headroom/headroom/SlidingLog$Log" = some m.cls := findClass_of_methodNamed Bd.named
  have hnm := (name_of_methodNamed Bd.named Bd.method).1
  have X0 : Stand p l e ({ frames := 1, cells := 0, slots := 0, locals := 14 } : Room) s m #[(.ref d)] below meth c s₁ [] 0 0 := Stand.of_body Bd
  have e0 : s₁.heap = h0 := by rw [← hh, Bd.state]; rfl
  have N0 := Fr.nil n0
  refine own_out (own_nm fun G hG => own_st (fun zt zk => castTop (ef_rm_latest_0_1_2 m d) zk) ?_)
  show own_Go p e below G (s₁.setTop (mkF m 0 #[.val (.ref d)] []))
  refine own_st (fun zw zk => XS.aloadN X0.here hx rfl (hb hby d6_0) rfl rfl zk) ?_
  obtain ⟨T20, X20, e20, st20⟩ := getF X0 hx hZ hown (host := "") (Or.inl (hw _ (List.mem_of_getElem? (i := 17) rfl))) Via.refl e0 F1_ (g := (mkF m 1 #[.val (.ref d)] [(.ref d)])) rfl rfl (hb hby d6_1)
  refine own_st (fun zw zk => st20 zw zk) ?_
  refine own_st (fun zw zk => XS.aloadN X20.here hx rfl (hb hby d6_4) rfl rfl zk) ?_
  refine own_st (fun zw zk => XS.aloadN X20.here hx rfl (hb hby d6_5) rfl rfl zk) ?_
  obtain ⟨T21, X21, e21, st21⟩ := getF X20 hx hZ hown (host := "") (Or.inl (hw _ (List.mem_of_getElem? (i := 26) rfl))) Via.refl e20 F3_ (g := (mkF m 6 #[.val (.ref d)] [(.ref d), (.ref d), (.ref t)])) rfl rfl (hb hby d6_6)
  refine own_st (fun zw zk => st21 zw zk) ?_
  refine own_st (fun zw zk => XS.iconst X21.here hx rfl (hb hby d6_9) zk) ?_
  refine own_st (fun zw zk => XS.isub X21.here hx rfl (hb hby d6_10) rfl zk) ?_
  obtain ⟨cq22, q22, q22'⟩ := F0_.cell
  obtain ⟨_, _, ⟨T22, L22, k22, n22⟩, -, X22, ⟨Lc22, hQ22, l22, y22, z22⟩, st22⟩ := X21.privateBack hx (y := (⟨"com/example/headroom/headroom/SlidingLog$Log", "slot", "(I)I"⟩ : MethodName)) hown (mvT hZ (hw _ (List.mem_of_getElem? (i := 28) rfl))) (mvT hZ (hw _ (List.mem_of_getElem? (i := 29) rfl))) (own_selp hZ (hw _ (List.mem_of_getElem? (i := 3) rfl)) (hw _ (List.mem_of_getElem? (i := 30) rfl)) (hw _ (List.mem_of_getElem? (i := 29) rfl)) (by decide)) (Cond.privateMethod_at (mvP hZ (hw _ (List.mem_of_getElem? (i := 30) rfl)) (args := #[]))) (mvT hZ (hw _ (List.mem_of_getElem? (i := 31) rfl))) (by decide) (backOf (W := 1) (rm5 l Z a0 hw [] d (0 : Int32) t (0 : Int32) (2 : Int32) [(.long w0), (.long w1)] h0 n0 Z0 (F1_) (F2_) (F5_) (rfl)) hZ (hw _ (List.mem_of_getElem? (i := 31) rfl)) (hw _ (List.mem_of_getElem? (i := 4) rfl)) (by decide) (by decide)) (g := (mkF m 11 #[.val (.ref d)] [(.int (0 : Int32)), (.ref d), (.ref t)])) rfl (by rw [hml]; rfl) (Steps.refl _) (a := d) (by rw [e21]; exact q22) q22' (argsL := [(.int (0 : Int32))]) (rest := [(.ref t)]) (lenOf pd_1 rfl) rfl (by show 2 * 0 + _ ≤ _; exact Nat.le_of_eq rfl) (hb hby d6_11) (fun _ _ => ⟨rfl, e21, (by decide : 0 + 0 ≤ _), (by decide : 0 + 0 ≤ _)⟩)
  dsimp only [Pt.U, Pt.locs, Pt.cells, Pt.slots] at X22 l22 y22 z22 st22 hQ22
  subst l22 y22 z22
  obtain ⟨rfl, N22q, e22⟩ := hQ22
  have N22 := Fr.app N0 N22q
  refine own_jp st22 ?_
  show own_Go p e below G (T22.setTop (mkF m 14 #[.val (.ref d)] [(.int (0 : Int32)), (.ref t)]))
  refine own_st (fun zw zk => own_jld X22 hx hZ e22 F5_ (j := (0 : Int32)) (v := (.long w0)) (i := 0) (by decide) (by decide) rfl (g := (mkF m 14 #[.val (.ref d)] [(.int (0 : Int32)), (.ref t)])) rfl rfl (hb hby d6_14) _ zk) ?_
  subst hG
  obtain ⟨fs, hr, hrun, hended, hW, hsame⟩ := X22.leave (v := some (.long w0)) (hlocks := Bd.notSynchronized) (fun h => by rw [Bd.returns] at h; cases h)
  refine ⟨_, own_retJ X22 hx Bd.returns (hb hby d6_15) hr, _, hrun, hended, _, _, rfl, ?_, ⟨_, rfl⟩, hW, hsame.mono (by decide) (by decide)⟩
  show Q_latest_0_1_2 Z d t adm w0 w1 h0 n0 _ T22.heap _
  rw [e22]
  exact ⟨rfl, N22, rfl⟩
theorem d7_0 : decode prog_48_method_7_code 0 = .ok (.aload_n 0, 1) := by decide +kernel
theorem d7_1 : decode prog_48_method_7_code 1 = .ok (.getfield 7, 3) := by decide +kernel
theorem d7_4 : decode prog_48_method_7_code 4 = .ok (.arraylength, 1) := by decide +kernel
theorem d7_5 : decode prog_48_method_7_code 5 = .ok (.iconst 2, 1) := by decide +kernel
theorem d7_6 : decode prog_48_method_7_code 6 = .ok (.imul, 1) := by decide +kernel
theorem d7_7 : decode prog_48_method_7_code 7 = .ok (.newarray .long, 2) := by decide +kernel
theorem d7_9 : decode prog_48_method_7_code 9 = .ok (.astore_n 1, 1) := by decide +kernel
theorem d7_10 : decode prog_48_method_7_code 10 = .ok (.iconst 0, 1) := by decide +kernel
theorem d7_11 : decode prog_48_method_7_code 11 = .ok (.istore_n 2, 1) := by decide +kernel
theorem d7_12 : decode prog_48_method_7_code 12 = .ok (.iload_n 2, 1) := by decide +kernel
theorem d7_13 : decode prog_48_method_7_code 13 = .ok (.aload_n 0, 1) := by decide +kernel
theorem d7_14 : decode prog_48_method_7_code 14 = .ok (.getfield 17, 3) := by decide +kernel
theorem d7_17 : decode prog_48_method_7_code 17 = .ok (.if_icmp .ge 26, 3) := by decide +kernel
theorem d7_20 : decode prog_48_method_7_code 20 = .ok (.aload_n 0, 1) := by decide +kernel
theorem d7_21 : decode prog_48_method_7_code 21 = .ok (.getfield 7, 3) := by decide +kernel
theorem d7_24 : decode prog_48_method_7_code 24 = .ok (.aload_n 0, 1) := by decide +kernel
theorem d7_25 : decode prog_48_method_7_code 25 = .ok (.iload_n 2, 1) := by decide +kernel
theorem d7_26 : decode prog_48_method_7_code 26 = .ok (.invokevirtual 20, 3) := by decide +kernel
theorem d7_29 : decode prog_48_method_7_code 29 = .ok (.aload_n 1, 1) := by decide +kernel
theorem d7_30 : decode prog_48_method_7_code 30 = .ok (.iconst 2, 1) := by decide +kernel
theorem d7_31 : decode prog_48_method_7_code 31 = .ok (.iload_n 2, 1) := by decide +kernel
theorem d7_32 : decode prog_48_method_7_code 32 = .ok (.imul, 1) := by decide +kernel
theorem d7_33 : decode prog_48_method_7_code 33 = .ok (.iconst 2, 1) := by decide +kernel
theorem d7_34 : decode prog_48_method_7_code 34 = .ok (.invokestatic 35, 3) := by decide +kernel
theorem d7_37 : decode prog_48_method_7_code 37 = .ok (.iinc 2 1, 3) := by decide +kernel
theorem d7_40 : decode prog_48_method_7_code 40 = .ok (.goto (-28), 3) := by decide +kernel
theorem d7_43 : decode prog_48_method_7_code 43 = .ok (.aload_n 0, 1) := by decide +kernel
theorem d7_44 : decode prog_48_method_7_code 44 = .ok (.aload_n 1, 1) := by decide +kernel
theorem d7_45 : decode prog_48_method_7_code 45 = .ok (.putfield 7, 3) := by decide +kernel
theorem d7_48 : decode prog_48_method_7_code 48 = .ok (.aload_n 0, 1) := by decide +kernel
theorem d7_49 : decode prog_48_method_7_code 49 = .ok (.iconst 0, 1) := by decide +kernel
theorem d7_50 : decode prog_48_method_7_code 50 = .ok (.putfield 13, 3) := by decide +kernel
theorem d7_53 : decode prog_48_method_7_code 53 = .ok (.return_, 1) := by decide +kernel
theorem ef_rm_grow_0_1_2 (m : MethodId) (d : Addr) : entryFrame m #[(.ref d)] 3 = mkF m 0 #[.val (.ref d), .unset, .unset] [] := by first | (simp [entryFrame, mkF, argsToLocals, Value.category]; done) | rfl
def Q_grow_0_1_2 (Z : State) (d : Addr) (t : Addr) (adm : Int64) (w0 : Int64) (w1 : Int64) (h0 : Heap) (n0 : Nat) (rv : Option Value) (hq : Heap) (Lq : List Loc) : Prop := rv = none ∧ Fr n0 Lq ∧ ∃ tt : Addr, h0.size ≤ tt ∧ Keep h0 hq [d] ∧ Exa Z hq d "com/example/headroom/headroom/SlidingLog$Log" ∧ Fld Z hq d "com/example/headroom/headroom/SlidingLog$Log" "entries" "[J" (.ref tt) ∧ Fld Z hq d "com/example/headroom/headroom/SlidingLog$Log" "first" "I" (.int (0 : Int32)) ∧ Fld Z hq d "com/example/headroom/headroom/SlidingLog$Log" "size" "I" (.int (1 : Int32)) ∧ Fld Z hq d "com/example/headroom/headroom/SlidingLog$Log" "admitted" "J" (.long adm) ∧ own_L Z hq tt .long ([(.long w0), (.long w1), (.long (0 : Int64)), (.long (0 : Int64))])
set_option maxRecDepth 65536 in
set_option maxHeartbeats 40000000 in
theorem rm_grow_0_1_2 (l : Launch) (Z : State) (a0 : Array Value) (hw : ∀ d ∈ tables_1, d.before a0 Z = true) (ws : List Jvm.Cond) (d : Addr) (t : Addr) (adm : Int64) (w0 : Int64) (w1 : Int64) (h0 : Heap) (n0 : Nat) (Z0 : n0 ≤ h0.size) (F0_ : Exa Z h0 d "com/example/headroom/headroom/SlidingLog$Log") (F1_ : Fld Z h0 d "com/example/headroom/headroom/SlidingLog$Log" "entries" "[J" (.ref t)) (F2_ : Fld Z h0 d "com/example/headroom/headroom/SlidingLog$Log" "first" "I" (.int (0 : Int32))) (F3_ : Fld Z h0 d "com/example/headroom/headroom/SlidingLog$Log" "size" "I" (.int (1 : Int32))) (F4_ : Fld Z h0 d "com/example/headroom/headroom/SlidingLog$Log" "admitted" "J" (.long adm)) (F5_ : own_L Z h0 t .long ([(.long w0), (.long w1)])) (ge_d : n0 ≤ d) (ne_d_t : d ≠ t) :
    MetFree l (⟨"com/example/headroom/headroom/SlidingLog$Log", "grow", "()V"⟩ : MethodName) (head1 (Jvm.Cond.code (⟨"com/example/headroom/headroom/SlidingLog$Log", "grow", "()V"⟩ : MethodName) prog_48_method_7_code 3 none :: ws) ({ frames := 1, cells := 1, slots := 4, locals := 18 } : Room)) (fun za U => za = #[(.ref d)] ∧ Z.Warmed39 U.vm ∧ U.heap = h0) (fun _ _ _ _ _ => True) (fun _ U o U' => ∃ rv Lq, o = .returned rv ∧ Q_grow_0_1_2 Z d t adm w0 w1 h0 n0 rv U'.heap Lq ∧ FrameEnd U o U' Lq ({ frames := 1, cells := 1, slots := 4, locals := 18 } : Room).cells ({ frames := 1, cells := 1, slots := 4, locals := 18 } : Room).slots) := by
  refine MetFree.of_bodySF (plainFor_of_name pn_1) hisR ?_
  intro p e s m args below meth c s₁ Bd hml0 hP hK
  obtain ⟨rfl, hZ, hh⟩ := hP
  have hx := Bd.exec
  have hby := Bd.bytes
  have hml : c.maxLocals = 3 := hml0
  have hown : s.vm.findClass "com/example/headroom/headroom/SlidingLog$Log" = some m.cls := findClass_of_methodNamed Bd.named
  have hnm := (name_of_methodNamed Bd.named Bd.method).1
  have X0 : Stand p l e ({ frames := 1, cells := 1, slots := 4, locals := 18 } : Room) s m #[(.ref d)] below meth c s₁ [] 0 0 := Stand.of_body Bd
  have e0 : s₁.heap = h0 := by rw [← hh, Bd.state]; rfl
  have N0 := Fr.nil n0
  refine own_out (own_nm fun G hG => own_st (fun zt zk => castTop (ef_rm_grow_0_1_2 m d) zk) ?_)
  show own_Go p e below G (s₁.setTop (mkF m 0 #[.val (.ref d), .unset, .unset] []))
  refine own_st (fun zw zk => XS.aloadN X0.here hx rfl (hb hby d7_0) rfl rfl zk) ?_
  obtain ⟨T23, X23, e23, st23⟩ := getF X0 hx hZ hown (host := "") (Or.inl (hw _ (List.mem_of_getElem? (i := 17) rfl))) Via.refl e0 F1_ (g := (mkF m 1 #[.val (.ref d), .unset, .unset] [(.ref d)])) rfl rfl (hb hby d7_1)
  refine own_st (fun zw zk => st23 zw zk) ?_
  refine own_st (fun zw zk => own_len X23 hx hZ e23 F5_ (z := (2 : Int32)) (rfl) (g := (mkF m 4 #[.val (.ref d), .unset, .unset] [(.ref t)])) rfl rfl (hb hby d7_4) _ zk) ?_
  refine own_st (fun zw zk => XS.iconst X23.here hx rfl (hb hby d7_5) zk) ?_
  refine own_st (fun zw zk => XS.imul X23.here hx rfl (hb hby d7_6) rfl zk) ?_
  obtain ⟨T24, h24, k24, X24, e24, E24, A24, st24⟩ := newP X23 hx hZ (hw _ (List.mem_of_getElem? (i := 16) rfl)) e23 (g := (mkF m 7 #[.val (.ref d), .unset, .unset] [(.int (4 : Int32))])) rfl (hb hby d7_7) rfl (by decide) (cap := 4) (by decide) (by decide) (by decide) (by decide)
  obtain ⟨b24, g24⟩ : ∃ z, z = h0.size := ⟨_, rfl⟩
  rw [← g24] at A24 st24
  have G24 : n0 ≤ b24 := Nat.le_trans Z0 (Nat.le_of_eq g24.symm)
  have ne_d_b24 : d ≠ b24 := Nat.ne_of_lt (Nat.lt_of_lt_of_le F0_.lt (Nat.le_of_eq g24.symm))
  have ne_t_b24 : t ≠ b24 := Nat.ne_of_lt (Nat.lt_of_lt_of_le F5_.lt (Nat.le_of_eq g24.symm))
  have F0_24 := F0_.ext E24
  have F1_24 := F1_.ext E24
  have F2_24 := F2_.ext E24
  have F3_24 := F3_.ext E24
  have F4_24 := F4_.ext E24
  have F5_24 := F5_.ext E24
  have Z24 : n0 ≤ h24.size := Nat.le_trans Z0 E24.1
  have sz24 : h0.size ≤ b24 := Nat.le_trans (Keep.refl h0 [d]).1 (Nat.le_of_eq g24.symm)
  have Kp24 := (Keep.refl h0 [d]).ext E24
  have V24 : own_L Z h24 b24 .long ([(.long (0 : Int64)), (.long (0 : Int64)), (.long (0 : Int64)), (.long (0 : Int64))]) := own_L.new A24
  refine own_st (fun zw zk => st24 zw zk) ?_
  refine own_st (fun zw zk => XS.astoreN X24.here hx rfl (hb hby d7_9) rfl rfl rfl zk) ?_
  show own_Go p e below G (T24.setTop (mkF m 10 #[.val (.ref d), .val (.ref b24), .unset] []))
  refine own_st (fun zw zk => XS.iconst X24.here hx rfl (hb hby d7_10) zk) ?_
  refine own_st (fun zw zk => XS.istoreN X24.here hx rfl (hb hby d7_11) rfl rfl zk) ?_
  show own_Go p e below G (T24.setTop (mkF m 12 #[.val (.ref d), .val (.ref b24), .val (.int (0 : Int32))] []))
  refine own_st (fun zw zk => XS.iloadN X24.here hx rfl (hb hby d7_12) rfl zk) ?_
  refine own_st (fun zw zk => XS.aloadN X24.here hx rfl (hb hby d7_13) rfl rfl zk) ?_
  obtain ⟨T25, X25, e25, st25⟩ := getF X24 hx hZ hown (host := "") (Or.inl (hw _ (List.mem_of_getElem? (i := 26) rfl))) Via.refl e24 F3_24 (g := (mkF m 14 #[.val (.ref d), .val (.ref b24), .val (.int (0 : Int32))] [(.ref d), (.int (0 : Int32))])) rfl rfl (hb hby d7_14)
  refine own_st (fun zw zk => st25 zw zk) ?_
  refine own_st (fun zw zk => XS.icmpNo X25.here hx rfl (hb hby d7_17) rfl (tlt (by decide : (0 : Int32) < (1 : Int32))).2.1 zk) ?_
  refine own_st (fun zw zk => XS.aloadN X25.here hx rfl (hb hby d7_20) rfl rfl zk) ?_
  obtain ⟨T26, X26, e26, st26⟩ := getF X25 hx hZ hown (host := "") (Or.inl (hw _ (List.mem_of_getElem? (i := 17) rfl))) Via.refl e25 F1_24 (g := (mkF m 21 #[.val (.ref d), .val (.ref b24), .val (.int (0 : Int32))] [(.ref d)])) rfl rfl (hb hby d7_21)
  refine own_st (fun zw zk => st26 zw zk) ?_
  refine own_st (fun zw zk => XS.aloadN X26.here hx rfl (hb hby d7_24) rfl rfl zk) ?_
  refine own_st (fun zw zk => XS.iloadN X26.here hx rfl (hb hby d7_25) rfl zk) ?_
  show own_Go p e below G (T26.setTop (mkF m 26 #[.val (.ref d), .val (.ref b24), .val (.int (0 : Int32))] [(.int (0 : Int32)), (.ref d), (.ref t)]))
  obtain ⟨cq27, q27, q27'⟩ := F0_24.cell
  obtain ⟨_, _, ⟨T27, L27, k27, n27⟩, -, X27, ⟨Lc27, hQ27, l27, y27, z27⟩, st27⟩ := X26.privateBack hx (y := (⟨"com/example/headroom/headroom/SlidingLog$Log", "slot", "(I)I"⟩ : MethodName)) hown (mvT hZ (hw _ (List.mem_of_getElem? (i := 28) rfl))) (mvT hZ (hw _ (List.mem_of_getElem? (i := 29) rfl))) (own_selp hZ (hw _ (List.mem_of_getElem? (i := 3) rfl)) (hw _ (List.mem_of_getElem? (i := 30) rfl)) (hw _ (List.mem_of_getElem? (i := 29) rfl)) (by decide)) (Cond.privateMethod_at (mvP hZ (hw _ (List.mem_of_getElem? (i := 30) rfl)) (args := #[]))) (mvT hZ (hw _ (List.mem_of_getElem? (i := 31) rfl))) (by decide) (backOf (W := 1) (rm5 l Z a0 hw [] d (0 : Int32) t (0 : Int32) (2 : Int32) [(.long w0), (.long w1)] h24 n0 Z24 (F1_24) (F2_24) (F5_24) (rfl)) hZ (hw _ (List.mem_of_getElem? (i := 31) rfl)) (hw _ (List.mem_of_getElem? (i := 4) rfl)) (by decide) (by decide)) (g := (mkF m 26 #[.val (.ref d), .val (.ref b24), .val (.int (0 : Int32))] [(.int (0 : Int32)), (.ref d), (.ref t)])) rfl (by rw [hml]; rfl) (Steps.refl _) (a := d) (by rw [e26]; exact q27) q27' (argsL := [(.int (0 : Int32))]) (rest := [(.ref t)]) (lenOf pd_1 rfl) rfl (by show 2 * 0 + _ ≤ _; exact Nat.le_of_eq rfl) (hb hby d7_26) (fun _ _ => ⟨rfl, e26, (by decide : 1 + 0 ≤ _), (by decide : 4 + 0 ≤ _)⟩)
  dsimp only [Pt.U, Pt.locs, Pt.cells, Pt.slots] at X27 l27 y27 z27 st27 hQ27
  subst l27 y27 z27
  obtain ⟨rfl, N27q, e27⟩ := hQ27
  have N27 := Fr.app N0 N27q
  refine own_jp st27 ?_
  refine own_st (fun zw zk => XS.aloadN X27.here hx rfl (hb hby d7_29) rfl rfl zk) ?_
  refine own_st (fun zw zk => XS.iconst X27.here hx rfl (hb hby d7_30) zk) ?_
  refine own_st (fun zw zk => XS.iloadN X27.here hx rfl (hb hby d7_31) rfl zk) ?_
  refine own_st (fun zw zk => XS.imul X27.here hx rfl (hb hby d7_32) rfl zk) ?_
  refine own_st (fun zw zk => XS.iconst X27.here hx rfl (hb hby d7_33) zk) ?_
  obtain ⟨T28, h28, L28, X28, e28, N28, K28, V28, st28⟩ := own_cp X27 hx hZ hown (hw _ (List.mem_of_getElem? (i := 43) rfl)) (hw _ (List.mem_of_getElem? (i := 46) rfl)) (hw _ (List.mem_of_getElem? (i := 44) rfl)) (hw _ (List.mem_of_getElem? (i := 45) rfl)) e27 F5_24 V24 rfl (by intro v hv; simp only [List.mem_cons, List.not_mem_nil, or_false] at hv; rcases hv with rfl | rfl <;> rfl) (by intro v hv; simp only [List.mem_cons, List.not_mem_nil, or_false] at hv; rcases hv with rfl | rfl | rfl | rfl <;> rfl) (Nat.le_of_ble_eq_true rfl) (Nat.le_of_ble_eq_true rfl) (sp := (0 : Int32)) (dp := (0 : Int32)) (nn := (2 : Int32)) (0) (0) (2) (by decide) (by decide) (by decide) (by decide) (by decide) (by decide) (Nat.le_of_ble_eq_true rfl) (Nat.le_of_ble_eq_true rfl) N27 G24 (g := (mkF m 34 #[.val (.ref d), .val (.ref b24), .val (.int (0 : Int32))] [(.int (2 : Int32)), (.int (0 : Int32)), (.ref b24), (.int (0 : Int32)), (.ref t)])) rfl (by rw [hml]; rfl) rfl (hb hby d7_34) (by decide) (W := 0) (by show 2 * 0 + _ ≤ _; exact Nat.le_of_eq rfl) (by decide)
  have Vb24_28 : own_L Z h28 b24 .long ([(.long w0), (.long w1), (.long (0 : Int64)), (.long (0 : Int64))]) := V28
  refine own_st (fun zw zk => st28 zw zk) ?_
  have F0_28 := F0_24.keep K28
  have F1_28 := F1_24.keep K28 (ninS ne_d_b24 nin0)
  have F2_28 := F2_24.keep K28 (ninS ne_d_b24 nin0)
  have F3_28 := F3_24.keep K28 (ninS ne_d_b24 nin0)
  have F4_28 := F4_24.keep K28 (ninS ne_d_b24 nin0)
  have F5_28 := F5_24.keep K28 (ninS ne_t_b24 nin0)
  have Z28 : n0 ≤ h28.size := Nat.le_trans Z24 K28.1
  have Kp28 := Kp24.trans K28 (allS (Or.inr sz24) all0)
  refine own_st (fun zw zk => XS.iinc X28.here hx rfl (hb hby d7_37) rfl rfl zk) ?_
  show own_Go p e below G (T28.setTop (mkF m 40 #[.val (.ref d), .val (.ref b24), .val (.int (1 : Int32))] []))
  refine own_st (fun zw zk => XS.goto X28.here hx rfl (pc0 := 40) (pc' := 12) rfl (hb hby d7_40) (by decide) (by decide) zk) ?_
  show own_Go p e below G (T28.setTop (mkF m 12 #[.val (.ref d), .val (.ref b24), .val (.int (1 : Int32))] []))
  refine own_st (fun zw zk => XS.iloadN X28.here hx rfl (hb hby d7_12) rfl zk) ?_
  refine own_st (fun zw zk => XS.aloadN X28.here hx rfl (hb hby d7_13) rfl rfl zk) ?_
  obtain ⟨T29, X29, e29, st29⟩ := getF X28 hx hZ hown (host := "") (Or.inl (hw _ (List.mem_of_getElem? (i := 26) rfl))) Via.refl e28 F3_28 (g := (mkF m 14 #[.val (.ref d), .val (.ref b24), .val (.int (1 : Int32))] [(.ref d), (.int (1 : Int32))])) rfl rfl (hb hby d7_14)
  refine own_st (fun zw zk => st29 zw zk) ?_
  refine own_st (fun zw zk => XS.icmpYes X29.here hx rfl (pc0 := 17) (pc' := 43) rfl (hb hby d7_17) rfl (flt (by decide : ¬ ((1 : Int32) < (1 : Int32)))).2.1 (by decide) (by decide) zk) ?_
  refine own_st (fun zw zk => XS.aloadN X29.here hx rfl (hb hby d7_43) rfl rfl zk) ?_
  refine own_st (fun zw zk => XS.aloadN X29.here hx rfl (hb hby d7_44) rfl rfl zk) ?_
  obtain ⟨T30, h30, X30, e30, W30, st30⟩ := putF X29 hx hZ hown (host := "") (Or.inl (hw _ (List.mem_of_getElem? (i := 17) rfl))) Via.refl e29 F1_28 F0_28 (Or.inl (hw _ (List.mem_of_getElem? (i := 18) rfl))) (hw _ (List.mem_of_getElem? (i := 3) rfl)) (ty := (.array .long)) (by decide) rfl rfl (g := (mkF m 45 #[.val (.ref d), .val (.ref b24), .val (.int (1 : Int32))] [(.ref b24), (.ref d)])) rfl rfl (hb hby d7_45)
  have F1_30 := F1_28.same W30
  have N30 := Fr.snoc X30 N28 ge_d
  refine own_st (fun zw zk => st30 zw zk) ?_
  have F0_30 := F0_28.wr W30
  have F2_30 := F2_28.other W30 (Or.inr (slot_ne (Or.inl (hw _ (List.mem_of_getElem? (i := 33) rfl))) (Or.inl (hw _ (List.mem_of_getElem? (i := 18) rfl))) (by decide) (t := .int) (t' := (.array .long)) (by decide) (by decide)))
  have F3_30 := F3_28.other W30 (Or.inr (slot_ne (Or.inl (hw _ (List.mem_of_getElem? (i := 27) rfl))) (Or.inl (hw _ (List.mem_of_getElem? (i := 18) rfl))) (by decide) (t := .int) (t' := (.array .long)) (by decide) (by decide)))
  have F4_30 := F4_28.other W30 (Or.inr (slot_ne (Or.inl (hw _ (List.mem_of_getElem? (i := 25) rfl))) (Or.inl (hw _ (List.mem_of_getElem? (i := 18) rfl))) (by decide) (t := .long) (t' := (.array .long)) (by decide) (by decide)))
  have F5_30 := F5_28.other W30 (Ne.symm ne_d_t)
  have Vb24_30 := Vb24_28.other W30 (Ne.symm ne_d_b24)
  have Z30 : n0 ≤ h30.size := Nat.le_trans Z28 (Keep.of_wr W30).1
  have Kp30 := Kp28.wr W30 (Or.inl (List.mem_of_getElem? (i := 0) rfl))
  refine own_st (fun zw zk => XS.aloadN X30.here hx rfl (hb hby d7_48) rfl rfl zk) ?_
  show own_Go p e below G (T30.setTop (mkF m 49 #[.val (.ref d), .val (.ref b24), .val (.int (1 : Int32))] [(.ref d)]))
  refine own_st (fun zw zk => XS.iconst X30.here hx rfl (hb hby d7_49) zk) ?_
  obtain ⟨T31, h31, X31, e31, W31, st31⟩ := putF X30 hx hZ hown (host := "") (Or.inl (hw _ (List.mem_of_getElem? (i := 32) rfl))) Via.refl e30 F2_30 F0_30 (Or.inl (hw _ (List.mem_of_getElem? (i := 33) rfl))) (hw _ (List.mem_of_getElem? (i := 3) rfl)) (ty := .int) (by decide) rfl rfl (g := (mkF m 50 #[.val (.ref d), .val (.ref b24), .val (.int (1 : Int32))] [(.int (0 : Int32)), (.ref d)])) rfl rfl (hb hby d7_50)
  have F2_31 := F2_30.same W31
  have N31 := Fr.snoc X31 N30 ge_d
  refine own_st (fun zw zk => st31 zw zk) ?_
  have F0_31 := F0_30.wr W31
  have F3_31 := F3_30.other W31 (Or.inr (slot_ne (Or.inl (hw _ (List.mem_of_getElem? (i := 27) rfl))) (Or.inl (hw _ (List.mem_of_getElem? (i := 33) rfl))) (by decide) (t := .int) (t' := .int) (by decide) (by decide)))
  have F4_31 := F4_30.other W31 (Or.inr (slot_ne (Or.inl (hw _ (List.mem_of_getElem? (i := 25) rfl))) (Or.inl (hw _ (List.mem_of_getElem? (i := 33) rfl))) (by decide) (t := .long) (t' := .int) (by decide) (by decide)))
  have F5_31 := F5_30.other W31 (Ne.symm ne_d_t)
  have Vb24_31 := Vb24_30.other W31 (Ne.symm ne_d_b24)
  have F1_31 := F1_30.other W31 (Or.inr (slot_ne (Or.inl (hw _ (List.mem_of_getElem? (i := 18) rfl))) (Or.inl (hw _ (List.mem_of_getElem? (i := 33) rfl))) (by decide) (t := (.array .long)) (t' := .int) (by decide) (by decide)))
  have Z31 : n0 ≤ h31.size := Nat.le_trans Z30 (Keep.of_wr W31).1
  have Kp31 := Kp30.wr W31 (Or.inl (List.mem_of_getElem? (i := 0) rfl))
  subst hG
  obtain ⟨fs, hr, hrun, hended, hW, hsame⟩ := X31.leave (v := none) (hlocks := Bd.notSynchronized) (fun _ => rfl)
  refine ⟨_, X31.returnOut hx Bd.returns (hb hby d7_53) hr, _, hrun, hended, _, _, rfl, ?_, ⟨_, rfl⟩, hW, hsame.mono (by decide) (by decide)⟩
  show Q_grow_0_1_2 Z d t adm w0 w1 h0 n0 _ T31.heap _
  rw [e31]
  exact ⟨rfl, N31, b24, sz24, Kp31, F0_31, F1_31, F2_31, F3_31, F4_31, Vb24_31⟩
theorem pd_2 : parseMethodDescriptor "()J" = some ⟨[], some .long⟩ := by decide +kernel
theorem d4_17 : decode prog_48_method_6_code 17 = .ok (.aload_n 0, 1) := by decide +kernel
theorem d4_18 : decode prog_48_method_6_code 18 = .ok (.invokevirtual 28, 3) := by decide +kernel
theorem d4_21 : decode prog_48_method_6_code 21 = .ok (.lload_n 1, 1) := by decide +kernel
theorem d4_22 : decode prog_48_method_6_code 22 = .ok (.lcmp, 1) := by decide +kernel
theorem d4_23 : decode prog_48_method_6_code 23 = .ok (.ifCond .ne 25, 3) := by decide +kernel
theorem d4_62 : decode prog_48_method_6_code 62 = .ok (.aload_n 0, 1) := by decide +kernel
theorem d4_63 : decode prog_48_method_6_code 63 = .ok (.invokevirtual 32, 3) := by decide +kernel
theorem ef_rm_add_0_1_2 (m : MethodId) (d : Addr) (q1 : Int64) (q3 : Int64) : entryFrame m #[(.ref d), (.long q1), (.long q3)] 6 = mkF m 0 #[.val (.ref d), .val (.long q1), .second, .val (.long q3), .second, .unset] [] := by first | (simp [entryFrame, mkF, argsToLocals, Value.category]; done) | rfl
def Q_add_0_1_2 (Z : State) (d : Addr) (q1 : Int64) (q3 : Int64) (t : Addr) (adm : Int64) (w0 : Int64) (w1 : Int64) (h0 : Heap) (n0 : Nat) (rv : Option Value) (hq : Heap) (Lq : List Loc) : Prop := rv = none ∧ Fr n0 Lq ∧ ∃ tt : Addr, h0.size ≤ tt ∧ Keep h0 hq [d] ∧ Exa Z hq d "com/example/headroom/headroom/SlidingLog$Log" ∧ Fld Z hq d "com/example/headroom/headroom/SlidingLog$Log" "entries" "[J" (.ref tt) ∧ Fld Z hq d "com/example/headroom/headroom/SlidingLog$Log" "first" "I" (.int (0 : Int32)) ∧ Fld Z hq d "com/example/headroom/headroom/SlidingLog$Log" "size" "I" (.int (2 : Int32)) ∧ Fld Z hq d "com/example/headroom/headroom/SlidingLog$Log" "admitted" "J" (.long (adm + q3)) ∧ own_L Z hq tt .long ([(.long w0), (.long w1), (.long q1), (.long q3)])
set_option maxRecDepth 65536 in
set_option maxHeartbeats 40000000 in
theorem rm_add_0_1_2 (l : Launch) (Z : State) (a0 : Array Value) (hw : ∀ d ∈ tables_1, d.before a0 Z = true) (ws : List Jvm.Cond) (d : Addr) (q1 : Int64) (q3 : Int64) (t : Addr) (adm : Int64) (w0 : Int64) (w1 : Int64) (h0 : Heap) (n0 : Nat) (Z0 : n0 ≤ h0.size) (F0_ : Exa Z h0 d "com/example/headroom/headroom/SlidingLog$Log") (F1_ : Fld Z h0 d "com/example/headroom/headroom/SlidingLog$Log" "entries" "[J" (.ref t)) (F2_ : Fld Z h0 d "com/example/headroom/headroom/SlidingLog$Log" "first" "I" (.int (0 : Int32))) (F3_ : Fld Z h0 d "com/example/headroom/headroom/SlidingLog$Log" "size" "I" (.int (1 : Int32))) (F4_ : Fld Z h0 d "com/example/headroom/headroom/SlidingLog$Log" "admitted" "J" (.long adm)) (F5_ : own_L Z h0 t .long ([(.long w0), (.long w1)])) (ge_d : n0 ≤ d) (ne_d_t : d ≠ t) (hne : ¬ (w0 = q1)) :
    MetFree l (⟨"com/example/headroom/headroom/SlidingLog$Log", "add", "(JJ)V"⟩ : MethodName) (head1 (Jvm.Cond.code (⟨"com/example/headroom/headroom/SlidingLog$Log", "add", "(JJ)V"⟩ : MethodName) prog_48_method_6_code 6 none :: ws) ({ frames := 2, cells := 1, slots := 4, locals := 32 } : Room)) (fun za U => za = #[(.ref d), (.long q1), (.long q3)] ∧ Z.Warmed39 U.vm ∧ U.heap = h0) (fun _ _ _ _ _ => True) (fun _ U o U' => ∃ rv Lq, o = .returned rv ∧ Q_add_0_1_2 Z d q1 q3 t adm w0 w1 h0 n0 rv U'.heap Lq ∧ FrameEnd U o U' Lq ({ frames := 2, cells := 1, slots := 4, locals := 32 } : Room).cells ({ frames := 2, cells := 1, slots := 4, locals := 32 } : Room).slots) := by
  refine MetFree.of_bodySF (plainFor_of_name pn_1) hisR ?_
  intro p e s m args below meth c s₁ Bd hml0 hP hK
  obtain ⟨rfl, hZ, hh⟩ := hP
  have hx := Bd.exec
  have hby := Bd.bytes
  have hml : c.maxLocals = 6 := hml0
  have hown : s.vm.findClass "com/example/headroom/headroom/SlidingLog$Log" = some m.cls := findClass_of_methodNamed Bd.named
  have hnm := (name_of_methodNamed Bd.named Bd.method).1
  have X0 : Stand p l e ({ frames := 2, cells := 1, slots := 4, locals := 32 } : Room) s m #[(.ref d), (.long q1), (.long q3)] below meth c s₁ [] 0 0 := Stand.of_body Bd
  have e0 : s₁.heap = h0 := by rw [← hh, Bd.state]; rfl
  have N0 := Fr.nil n0
  refine own_out (own_nm fun G hG => own_st (fun zt zk => castTop (ef_rm_add_0_1_2 m d q1 q3) zk) ?_)
  show own_Go p e below G (s₁.setTop (mkF m 0 #[.val (.ref d), .val (.long q1), .second, .val (.long q3), .second, .unset] []))
  refine own_st (fun zw zk => XS.aloadN X0.here hx rfl (hb hby d4_0) rfl rfl zk) ?_
  refine own_st (fun zw zk => XS.dup X0.here hx rfl (hb hby d4_1) rfl rfl zk) ?_
  obtain ⟨T32, X32, e32, st32⟩ := getF X0 hx hZ hown (host := "") (Or.inl (hw _ (List.mem_of_getElem? (i := 24) rfl))) Via.refl e0 F4_ (g := (mkF m 2 #[.val (.ref d), .val (.long q1), .second, .val (.long q3), .second, .unset] [(.ref d), (.ref d)])) rfl rfl (hb hby d4_2)
  refine own_st (fun zw zk => st32 zw zk) ?_
  refine own_st (fun zw zk => XS.lloadN X32.here hx rfl (hb hby d4_5) rfl zk) ?_
  refine own_st (fun zw zk => XS.ladd X32.here hx rfl (hb hby d4_6) rfl zk) ?_
  obtain ⟨T33, h33, X33, e33, W33, st33⟩ := putF X32 hx hZ hown (host := "") (Or.inl (hw _ (List.mem_of_getElem? (i := 24) rfl))) Via.refl e32 F4_ F0_ (Or.inl (hw _ (List.mem_of_getElem? (i := 25) rfl))) (hw _ (List.mem_of_getElem? (i := 3) rfl)) (ty := .long) (by decide) rfl rfl (g := (mkF m 7 #[.val (.ref d), .val (.long q1), .second, .val (.long q3), .second, .unset] [(.long (adm + q3)), (.ref d)])) rfl rfl (hb hby d4_7)
  have F4_33 := F4_.same W33
  have N33 := Fr.snoc X33 N0 ge_d
  refine own_st (fun zw zk => st33 zw zk) ?_
  have F0_33 := F0_.wr W33
  have F1_33 := F1_.other W33 (Or.inr (slot_ne (Or.inl (hw _ (List.mem_of_getElem? (i := 18) rfl))) (Or.inl (hw _ (List.mem_of_getElem? (i := 25) rfl))) (by decide) (t := (.array .long)) (t' := .long) (by decide) (by decide)))
  have F2_33 := F2_.other W33 (Or.inr (slot_ne (Or.inl (hw _ (List.mem_of_getElem? (i := 33) rfl))) (Or.inl (hw _ (List.mem_of_getElem? (i := 25) rfl))) (by decide) (t := .int) (t' := .long) (by decide) (by decide)))
  have F3_33 := F3_.other W33 (Or.inr (slot_ne (Or.inl (hw _ (List.mem_of_getElem? (i := 27) rfl))) (Or.inl (hw _ (List.mem_of_getElem? (i := 25) rfl))) (by decide) (t := .int) (t' := .long) (by decide) (by decide)))
  have F5_33 := F5_.other W33 (Ne.symm ne_d_t)
  have Z33 : n0 ≤ h33.size := Nat.le_trans Z0 (Keep.of_wr W33).1
  have Kp33 := (Keep.refl h0 [d]).wr W33 (Or.inl (List.mem_of_getElem? (i := 0) rfl))
  refine own_st (fun zw zk => XS.aloadN X33.here hx rfl (hb hby d4_10) rfl rfl zk) ?_
  obtain ⟨T34, X34, e34, st34⟩ := getF X33 hx hZ hown (host := "") (Or.inl (hw _ (List.mem_of_getElem? (i := 26) rfl))) Via.refl e33 F3_33 (g := (mkF m 11 #[.val (.ref d), .val (.long q1), .second, .val (.long q3), .second, .unset] [(.ref d)])) rfl rfl (hb hby d4_11)
  refine own_st (fun zw zk => st34 zw zk) ?_
  show own_Go p e below G (T34.setTop (mkF m 14 #[.val (.ref d), .val (.long q1), .second, .val (.long q3), .second, .unset] [(.int (1 : Int32))]))
  refine own_st (fun zw zk => XS.ifNo X34.here hx rfl (hb hby d4_14) rfl ((if0 _ _).trans (tlt (by decide : (0 : Int32) < (1 : Int32))).2.2.2) zk) ?_
  refine own_st (fun zw zk => XS.aloadN X34.here hx rfl (hb hby d4_17) rfl rfl zk) ?_
  obtain ⟨cq35, kq35, q35a, q35b, q35c⟩ := isOf hZ e34 F0_33
  obtain ⟨_, _, ⟨T35, L35, k35, n35⟩, -, X35, ⟨Lc35, hQ35, l35, y35, z35⟩, st35⟩ := X34.virtualBack hx (y := (⟨"com/example/headroom/headroom/SlidingLog$Log", "latest", "()J"⟩ : MethodName)) (z := (⟨"com/example/headroom/headroom/SlidingLog$Log", "latest", "()J"⟩ : MethodName)) hown (mvT hZ (hw _ (List.mem_of_getElem? (i := 34) rfl))) (mvT hZ (hw _ (List.mem_of_getElem? (i := 35) rfl))) (notFace_of_selects (args := #[]) (mvT hZ (hw _ (List.mem_of_getElem? (i := 37) rfl)))) (mvT hZ (hw _ (List.mem_of_getElem? (i := 37) rfl))) (mvT hZ (hw _ (List.mem_of_getElem? (i := 36) rfl))) (by decide) (backOf (W := 0) (rm_latest_0_1_2 l Z a0 hw [] d t (adm + q3) w0 w1 h33 n0 Z33 (F0_33) (F1_33) (F2_33) (F3_33) (F4_33) (F5_33)) hZ (hw _ (List.mem_of_getElem? (i := 38) rfl)) (hw _ (List.mem_of_getElem? (i := 4) rfl)) (by decide) (by decide)) q35a q35c (g := (mkF m 18 #[.val (.ref d), .val (.long q1), .second, .val (.long q3), .second, .unset] [(.ref d)])) rfl (by rw [hml]; rfl) (Steps.refl _) (argsL := []) (rest := []) (lenOf pd_2 rfl) rfl (by show 2 * 0 + _ ≤ _; exact Nat.le_of_eq rfl) (hb hby d4_18) (fun _ _ => ⟨rfl, e34, (by decide : 0 + 0 ≤ _), (by decide : 0 + 0 ≤ _)⟩)
  dsimp only [Pt.U, Pt.locs, Pt.cells, Pt.slots] at X35 l35 y35 z35 st35 hQ35
  subst l35 y35 z35
  obtain ⟨rfl, N35q, e35⟩ := hQ35
  have N35 := Fr.app N33 N35q
  refine own_jp st35 ?_
  refine own_st (fun zw zk => XS.lloadN X35.here hx rfl (hb hby d4_21) rfl zk) ?_
  refine own_st (fun zw zk => XS.lcmp X35.here hx rfl (hb hby d4_22) rfl zk) ?_
  have hc23 : ¬ (w0 = q1) := hne
  refine own_st (fun zw zk => XS.ifYes X35.here hx rfl (pc0 := 23) (pc' := 48) rfl (hb hby d4_23) rfl ((if0 _ _).trans (feq (own_fle hc23)).2) (by decide) (by decide) zk) ?_
  refine own_st (fun zw zk => XS.aloadN X35.here hx rfl (hb hby d4_48) rfl rfl zk) ?_
  obtain ⟨T36, X36, e36, st36⟩ := getF X35 hx hZ hown (host := "") (Or.inl (hw _ (List.mem_of_getElem? (i := 26) rfl))) Via.refl e35 F3_33 (g := (mkF m 49 #[.val (.ref d), .val (.long q1), .second, .val (.long q3), .second, .unset] [(.ref d)])) rfl rfl (hb hby d4_49)
  refine own_st (fun zw zk => st36 zw zk) ?_
  show own_Go p e below G (T36.setTop (mkF m 52 #[.val (.ref d), .val (.long q1), .second, .val (.long q3), .second, .unset] [(.int (1 : Int32))]))
  refine own_st (fun zw zk => XS.aloadN X36.here hx rfl (hb hby d4_52) rfl rfl zk) ?_
  obtain ⟨T37, X37, e37, st37⟩ := getF X36 hx hZ hown (host := "") (Or.inl (hw _ (List.mem_of_getElem? (i := 17) rfl))) Via.refl e36 F1_33 (g := (mkF m 53 #[.val (.ref d), .val (.long q1), .second, .val (.long q3), .second, .unset] [(.ref d), (.int (1 : Int32))])) rfl rfl (hb hby d4_53)
  refine own_st (fun zw zk => st37 zw zk) ?_
  refine own_st (fun zw zk => own_len X37 hx hZ e37 F5_33 (z := (2 : Int32)) (rfl) (g := (mkF m 56 #[.val (.ref d), .val (.long q1), .second, .val (.long q3), .second, .unset] [(.ref t), (.int (1 : Int32))])) rfl rfl (hb hby d4_56) _ zk) ?_
  refine own_st (fun zw zk => XS.iconst X37.here hx rfl (hb hby d4_57) zk) ?_
  refine own_st (fun zw zk => XS.idiv X37.here hx rfl (hb hby d4_58) rfl (by decide) zk) ?_
  refine own_st (fun zw zk => XS.icmpNo X37.here hx rfl (hb hby d4_59) rfl (teq (by decide : (1 : Int32) = (1 : Int32))).2 zk) ?_
  refine own_st (fun zw zk => XS.aloadN X37.here hx rfl (hb hby d4_62) rfl rfl zk) ?_
  obtain ⟨cq38, q38, q38'⟩ := F0_33.cell
  obtain ⟨_, _, ⟨T38, L38, k38, n38⟩, -, X38, ⟨Lc38, hQ38, l38, y38, z38⟩, st38⟩ := X37.privateBack hx (y := (⟨"com/example/headroom/headroom/SlidingLog$Log", "grow", "()V"⟩ : MethodName)) hown (mvT hZ (hw _ (List.mem_of_getElem? (i := 39) rfl))) (mvT hZ (hw _ (List.mem_of_getElem? (i := 40) rfl))) (own_selp hZ (hw _ (List.mem_of_getElem? (i := 3) rfl)) (hw _ (List.mem_of_getElem? (i := 41) rfl)) (hw _ (List.mem_of_getElem? (i := 40) rfl)) (by decide)) (Cond.privateMethod_at (mvP hZ (hw _ (List.mem_of_getElem? (i := 41) rfl)) (args := #[]))) (mvT hZ (hw _ (List.mem_of_getElem? (i := 42) rfl))) (by decide) (backOf (W := 0) (rm_grow_0_1_2 l Z a0 hw [] d t (adm + q3) w0 w1 h33 n0 Z33 (F0_33) (F1_33) (F2_33) (F3_33) (F4_33) (F5_33) (ge_d) (ne_d_t)) hZ (hw _ (List.mem_of_getElem? (i := 42) rfl)) (hw _ (List.mem_of_getElem? (i := 4) rfl)) (by decide) (by decide)) (g := (mkF m 63 #[.val (.ref d), .val (.long q1), .second, .val (.long q3), .second, .unset] [(.ref d)])) rfl (by rw [hml]; rfl) (Steps.refl _) (a := d) (by rw [e37]; exact q38) q38' (argsL := []) (rest := []) (lenOf pd_0 rfl) rfl (by show 2 * 0 + _ ≤ _; exact Nat.le_of_eq rfl) (hb hby d4_63) (fun _ _ => ⟨rfl, e37, (by decide : 0 + 1 ≤ _), (by decide : 0 + 4 ≤ _)⟩)
  dsimp only [Pt.U, Pt.locs, Pt.cells, Pt.slots] at X38 l38 y38 z38 st38 hQ38
  subst l38 y38 z38
  obtain ⟨rfl, N38q, tt38, sztt38, K38, O38_0, O38_1, O38_2, O38_3, O38_4, O38_5⟩ := hQ38
  have ne_d_tt38 : d ≠ tt38 := Nat.ne_of_lt (Nat.lt_of_lt_of_le F0_33.lt sztt38)
  have ne_t_tt38 : t ≠ tt38 := Nat.ne_of_lt (Nat.lt_of_lt_of_le F5_33.lt sztt38)
  have Gtt38 : n0 ≤ tt38 := Nat.le_trans Z33 sztt38
  have Sztt38 : h0.size ≤ tt38 := Nat.le_trans Kp33.1 sztt38
  have F0_38 := F0_33.keep K38
  have F5_38 := F5_33.keep K38 (ninS (Ne.symm ne_d_t) nin0)
  have Z38 : n0 ≤ T38.heap.size := Nat.le_trans Z33 K38.1
  have Kp38 := Kp33.trans K38 (allS (Or.inl (List.mem_of_getElem? (i := 0) rfl)) all0)
  have N38 := Fr.app N35 N38q
  refine own_jp st38 ?_
  show own_Go p e below G (T38.setTop (mkF m 66 #[.val (.ref d), .val (.long q1), .second, .val (.long q3), .second, .unset] []))
  refine own_st (fun zw zk => XS.aloadN X38.here hx rfl (hb hby d4_66) rfl rfl zk) ?_
  refine own_st (fun zw zk => XS.aloadN X38.here hx rfl (hb hby d4_67) rfl rfl zk) ?_
  obtain ⟨T39, X39, e39, st39⟩ := getF X38 hx hZ hown (host := "") (Or.inl (hw _ (List.mem_of_getElem? (i := 26) rfl))) Via.refl rfl O38_3 (g := (mkF m 68 #[.val (.ref d), .val (.long q1), .second, .val (.long q3), .second, .unset] [(.ref d), (.ref d)])) rfl rfl (hb hby d4_68)
  refine own_st (fun zw zk => st39 zw zk) ?_
  obtain ⟨cq40, q40, q40'⟩ := O38_0.cell
  obtain ⟨_, _, ⟨T40, L40, k40, n40⟩, -, X40, ⟨Lc40, hQ40, l40, y40, z40⟩, st40⟩ := X39.privateBack hx (y := (⟨"com/example/headroom/headroom/SlidingLog$Log", "slot", "(I)I"⟩ : MethodName)) hown (mvT hZ (hw _ (List.mem_of_getElem? (i := 28) rfl))) (mvT hZ (hw _ (List.mem_of_getElem? (i := 29) rfl))) (own_selp hZ (hw _ (List.mem_of_getElem? (i := 3) rfl)) (hw _ (List.mem_of_getElem? (i := 30) rfl)) (hw _ (List.mem_of_getElem? (i := 29) rfl)) (by decide)) (Cond.privateMethod_at (mvP hZ (hw _ (List.mem_of_getElem? (i := 30) rfl)) (args := #[]))) (mvT hZ (hw _ (List.mem_of_getElem? (i := 31) rfl))) (by decide) (backOf (W := 0) (rm5 l Z a0 hw [] d (1 : Int32) tt38 (0 : Int32) (4 : Int32) [(.long w0), (.long w1), (.long (0 : Int64)), (.long (0 : Int64))] T38.heap n0 Z38 (O38_1) (O38_2) (O38_5) (rfl)) hZ (hw _ (List.mem_of_getElem? (i := 31) rfl)) (hw _ (List.mem_of_getElem? (i := 4) rfl)) (by decide) (by decide)) (g := (mkF m 71 #[.val (.ref d), .val (.long q1), .second, .val (.long q3), .second, .unset] [(.int (1 : Int32)), (.ref d)])) rfl (by rw [hml]; rfl) (Steps.refl _) (a := d) (by rw [e39]; exact q40) q40' (argsL := [(.int (1 : Int32))]) (rest := []) (lenOf pd_1 rfl) rfl (by show 2 * 0 + _ ≤ _; exact Nat.le_of_eq rfl) (hb hby d4_71) (fun _ _ => ⟨rfl, e39, (by decide : 1 + 0 ≤ _), (by decide : 4 + 0 ≤ _)⟩)
  dsimp only [Pt.U, Pt.locs, Pt.cells, Pt.slots] at X40 l40 y40 z40 st40 hQ40
  subst l40 y40 z40
  obtain ⟨rfl, N40q, e40⟩ := hQ40
  have N40 := Fr.app N38 N40q
  refine own_jp st40 ?_
  refine own_st (fun zw zk => XS.istore X40.here hx rfl (hb hby d4_74) rfl rfl zk) ?_
  show own_Go p e below G (T40.setTop (mkF m 76 #[.val (.ref d), .val (.long q1), .second, .val (.long q3), .second, .val (.int (2 : Int32))] []))
  refine own_st (fun zw zk => XS.aloadN X40.here hx rfl (hb hby d4_76) rfl rfl zk) ?_
  obtain ⟨T41, X41, e41, st41⟩ := getF X40 hx hZ hown (host := "") (Or.inl (hw _ (List.mem_of_getElem? (i := 17) rfl))) Via.refl e40 O38_1 (g := (mkF m 77 #[.val (.ref d), .val (.long q1), .second, .val (.long q3), .second, .val (.int (2 : Int32))] [(.ref d)])) rfl rfl (hb hby d4_77)
  refine own_st (fun zw zk => st41 zw zk) ?_
  refine own_st (fun zw zk => XS.iload X41.here hx rfl (hb hby d4_80) rfl zk) ?_
  refine own_st (fun zw zk => XS.lloadN X41.here hx rfl (hb hby d4_82) rfl zk) ?_
  obtain ⟨T42, h42, X42, e42, W42, V42, st42⟩ := own_jst X41 hx hZ e41 O38_5 (j := (2 : Int32)) (2) (by decide) (by decide) (Nat.le_of_ble_eq_true rfl) (g := (mkF m 83 #[.val (.ref d), .val (.long q1), .second, .val (.long q3), .second, .val (.int (2 : Int32))] [(.long q1), (.int (2 : Int32)), (.ref tt38)])) rfl rfl (hb hby d4_83)
  have Ott38L_42 : own_L Z h42 tt38 .long ([(.long w0), (.long w1), (.long q1), (.long (0 : Int64))]) := V42
  have N42 := Fr.snoc X42 N40 Gtt38
  refine own_st (fun zw zk => st42 zw zk) ?_
  have OdE_42 := O38_0.wr W42
  have F5_42 := F5_38.other W42 ne_t_tt38
  have Odentries_42 := O38_1.other W42 (Or.inl ne_d_tt38)
  have Odfirst_42 := O38_2.other W42 (Or.inl ne_d_tt38)
  have Odsize_42 := O38_3.other W42 (Or.inl ne_d_tt38)
  have Odadmitted_42 := O38_4.other W42 (Or.inl ne_d_tt38)
  have Z42 : n0 ≤ h42.size := Nat.le_trans Z38 (Keep.of_wr W42).1
  have Kp42 := Kp38.wr W42 (Or.inr Sztt38)
  refine own_st (fun zw zk => XS.aloadN X42.here hx rfl (hb hby d4_84) rfl rfl zk) ?_
  obtain ⟨T43, X43, e43, st43⟩ := getF X42 hx hZ hown (host := "") (Or.inl (hw _ (List.mem_of_getElem? (i := 17) rfl))) Via.refl e42 Odentries_42 (g := (mkF m 85 #[.val (.ref d), .val (.long q1), .second, .val (.long q3), .second, .val (.int (2 : Int32))] [(.ref d)])) rfl rfl (hb hby d4_85)
  refine own_st (fun zw zk => st43 zw zk) ?_
  refine own_st (fun zw zk => XS.iload X43.here hx rfl (hb hby d4_88) rfl zk) ?_
  show own_Go p e below G (T43.setTop (mkF m 90 #[.val (.ref d), .val (.long q1), .second, .val (.long q3), .second, .val (.int (2 : Int32))] [(.int (2 : Int32)), (.ref tt38)]))
  refine own_st (fun zw zk => XS.iconst X43.here hx rfl (hb hby d4_90) zk) ?_
  refine own_st (fun zw zk => XS.iadd X43.here hx rfl (hb hby d4_91) rfl zk) ?_
  refine own_st (fun zw zk => XS.lloadN X43.here hx rfl (hb hby d4_92) rfl zk) ?_
  obtain ⟨T44, h44, X44, e44, W44, V44, st44⟩ := own_jst X43 hx hZ e43 Ott38L_42 (j := (3 : Int32)) (3) (by decide) (by decide) (Nat.le_of_ble_eq_true rfl) (g := (mkF m 93 #[.val (.ref d), .val (.long q1), .second, .val (.long q3), .second, .val (.int (2 : Int32))] [(.long q3), (.int (3 : Int32)), (.ref tt38)])) rfl rfl (hb hby d4_93)
  have Ott38L_44 : own_L Z h44 tt38 .long ([(.long w0), (.long w1), (.long q1), (.long q3)]) := V44
  have N44 := Fr.snoc X44 N42 Gtt38
  refine own_st (fun zw zk => st44 zw zk) ?_
  have OdE_44 := OdE_42.wr W44
  have F5_44 := F5_42.other W44 ne_t_tt38
  have Odentries_44 := Odentries_42.other W44 (Or.inl ne_d_tt38)
  have Odfirst_44 := Odfirst_42.other W44 (Or.inl ne_d_tt38)
  have Odsize_44 := Odsize_42.other W44 (Or.inl ne_d_tt38)
  have Odadmitted_44 := Odadmitted_42.other W44 (Or.inl ne_d_tt38)
  have Z44 : n0 ≤ h44.size := Nat.le_trans Z42 (Keep.of_wr W44).1
  have Kp44 := Kp42.wr W44 (Or.inr Sztt38)
  refine own_st (fun zw zk => XS.aloadN X44.here hx rfl (hb hby d4_94) rfl rfl zk) ?_
  refine own_st (fun zw zk => XS.dup X44.here hx rfl (hb hby d4_95) rfl rfl zk) ?_
  obtain ⟨T45, X45, e45, st45⟩ := getF X44 hx hZ hown (host := "") (Or.inl (hw _ (List.mem_of_getElem? (i := 26) rfl))) Via.refl e44 Odsize_44 (g := (mkF m 96 #[.val (.ref d), .val (.long q1), .second, .val (.long q3), .second, .val (.int (2 : Int32))] [(.ref d), (.ref d)])) rfl rfl (hb hby d4_96)
  refine own_st (fun zw zk => st45 zw zk) ?_
  refine own_st (fun zw zk => XS.iconst X45.here hx rfl (hb hby d4_99) zk) ?_
  show own_Go p e below G (T45.setTop (mkF m 100 #[.val (.ref d), .val (.long q1), .second, .val (.long q3), .second, .val (.int (2 : Int32))] [(.int (1 : Int32)), (.int (1 : Int32)), (.ref d)]))
  refine own_st (fun zw zk => XS.iadd X45.here hx rfl (hb hby d4_100) rfl zk) ?_
  obtain ⟨T46, h46, X46, e46, W46, st46⟩ := putF X45 hx hZ hown (host := "") (Or.inl (hw _ (List.mem_of_getElem? (i := 26) rfl))) Via.refl e45 Odsize_44 OdE_44 (Or.inl (hw _ (List.mem_of_getElem? (i := 27) rfl))) (hw _ (List.mem_of_getElem? (i := 3) rfl)) (ty := .int) (by decide) rfl rfl (g := (mkF m 101 #[.val (.ref d), .val (.long q1), .second, .val (.long q3), .second, .val (.int (2 : Int32))] [(.int (2 : Int32)), (.ref d)])) rfl rfl (hb hby d4_101)
  have Odsize_46 := Odsize_44.same W46
  have N46 := Fr.snoc X46 N44 ge_d
  refine own_st (fun zw zk => st46 zw zk) ?_
  have OdE_46 := OdE_44.wr W46
  have F5_46 := F5_44.other W46 (Ne.symm ne_d_t)
  have Odentries_46 := Odentries_44.other W46 (Or.inr (slot_ne (Or.inl (hw _ (List.mem_of_getElem? (i := 18) rfl))) (Or.inl (hw _ (List.mem_of_getElem? (i := 27) rfl))) (by decide) (t := (.array .long)) (t' := .int) (by decide) (by decide)))
  have Odfirst_46 := Odfirst_44.other W46 (Or.inr (slot_ne (Or.inl (hw _ (List.mem_of_getElem? (i := 33) rfl))) (Or.inl (hw _ (List.mem_of_getElem? (i := 27) rfl))) (by decide) (t := .int) (t' := .int) (by decide) (by decide)))
  have Odadmitted_46 := Odadmitted_44.other W46 (Or.inr (slot_ne (Or.inl (hw _ (List.mem_of_getElem? (i := 25) rfl))) (Or.inl (hw _ (List.mem_of_getElem? (i := 27) rfl))) (by decide) (t := .long) (t' := .int) (by decide) (by decide)))
  have Ott38L_46 := Ott38L_44.other W46 (Ne.symm ne_d_tt38)
  have Z46 : n0 ≤ h46.size := Nat.le_trans Z44 (Keep.of_wr W46).1
  have Kp46 := Kp44.wr W46 (Or.inl (List.mem_of_getElem? (i := 0) rfl))
  subst hG
  obtain ⟨fs, hr, hrun, hended, hW, hsame⟩ := X46.leave (v := none) (hlocks := Bd.notSynchronized) (fun _ => rfl)
  refine ⟨_, X46.returnOut hx Bd.returns (hb hby d4_104) hr, _, hrun, hended, _, _, rfl, ?_, ⟨_, rfl⟩, hW, hsame.mono (by decide) (by decide)⟩
  show Q_add_0_1_2 Z d q1 q3 t adm w0 w1 h0 n0 _ T46.heap _
  rw [e46]
  exact ⟨rfl, N46, tt38, Sztt38, Kp46, OdE_46, Odentries_46, Odfirst_46, Odsize_46, Odadmitted_46, Ott38L_46⟩
theorem ef_rm_latest_0_2_4 (m : MethodId) (d : Addr) : entryFrame m #[(.ref d)] 1 = mkF m 0 #[.val (.ref d)] [] := by first | (simp [entryFrame, mkF, argsToLocals, Value.category]; done) | rfl
def Q_latest_0_2_4 (Z : State) (d : Addr) (t : Addr) (adm : Int64) (w0 : Int64) (w1 : Int64) (w2 : Int64) (w3 : Int64) (h0 : Heap) (n0 : Nat) (rv : Option Value) (hq : Heap) (Lq : List Loc) : Prop := rv = some (.long w2) ∧ Fr n0 Lq ∧ hq = h0
set_option maxRecDepth 65536 in
set_option maxHeartbeats 40000000 in
theorem rm_latest_0_2_4 (l : Launch) (Z : State) (a0 : Array Value) (hw : ∀ d ∈ tables_1, d.before a0 Z = true) (ws : List Jvm.Cond) (d : Addr) (t : Addr) (adm : Int64) (w0 : Int64) (w1 : Int64) (w2 : Int64) (w3 : Int64) (h0 : Heap) (n0 : Nat) (Z0 : n0 ≤ h0.size) (F0_ : Exa Z h0 d "com/example/headroom/headroom/SlidingLog$Log") (F1_ : Fld Z h0 d "com/example/headroom/headroom/SlidingLog$Log" "entries" "[J" (.ref t)) (F2_ : Fld Z h0 d "com/example/headroom/headroom/SlidingLog$Log" "first" "I" (.int (0 : Int32))) (F3_ : Fld Z h0 d "com/example/headroom/headroom/SlidingLog$Log" "size" "I" (.int (2 : Int32))) (F4_ : Fld Z h0 d "com/example/headroom/headroom/SlidingLog$Log" "admitted" "J" (.long adm)) (F5_ : own_L Z h0 t .long ([(.long w0), (.long w1), (.long w2), (.long w3)])) :
    MetFree l (⟨"com/example/headroom/headroom/SlidingLog$Log", "latest", "()J"⟩ : MethodName) (head1 (Jvm.Cond.code (⟨"com/example/headroom/headroom/SlidingLog$Log", "latest", "()J"⟩ : MethodName) prog_48_method_3_code 1 (some .long) :: ws) ({ frames := 1, cells := 0, slots := 0, locals := 14 } : Room)) (fun za U => za = #[(.ref d)] ∧ Z.Warmed39 U.vm ∧ U.heap = h0) (fun _ _ _ _ _ => True) (fun _ U o U' => ∃ rv Lq, o = .returned rv ∧ Q_latest_0_2_4 Z d t adm w0 w1 w2 w3 h0 n0 rv U'.heap Lq ∧ FrameEnd U o U' Lq ({ frames := 1, cells := 0, slots := 0, locals := 14 } : Room).cells ({ frames := 1, cells := 0, slots := 0, locals := 14 } : Room).slots) := by
  refine MetFree.of_bodySF (plainFor_of_name pn_1) hisR ?_
  intro p e s m args below meth c s₁ Bd hml0 hP hK
  obtain ⟨rfl, hZ, hh⟩ := hP
  have hx := Bd.exec
  have hby := Bd.bytes
  have hml : c.maxLocals = 1 := hml0
  have hown : s.vm.findClass "com/example/headroom/headroom/SlidingLog$Log" = some m.cls := findClass_of_methodNamed Bd.named
  have hnm := (name_of_methodNamed Bd.named Bd.method).1
  have X0 : Stand p l e ({ frames := 1, cells := 0, slots := 0, locals := 14 } : Room) s m #[(.ref d)] below meth c s₁ [] 0 0 := Stand.of_body Bd
  have e0 : s₁.heap = h0 := by rw [← hh, Bd.state]; rfl
  have N0 := Fr.nil n0
  refine own_out (own_nm fun G hG => own_st (fun zt zk => castTop (ef_rm_latest_0_2_4 m d) zk) ?_)
  show own_Go p e below G (s₁.setTop (mkF m 0 #[.val (.ref d)] []))
  refine own_st (fun zw zk => XS.aloadN X0.here hx rfl (hb hby d6_0) rfl rfl zk) ?_
  obtain ⟨T47, X47, e47, st47⟩ := getF X0 hx hZ hown (host := "") (Or.inl (hw _ (List.mem_of_getElem? (i := 17) rfl))) Via.refl e0 F1_ (g := (mkF m 1 #[.val (.ref d)] [(.ref d)])) rfl rfl (hb hby d6_1)
  refine own_st (fun zw zk => st47 zw zk) ?_
  refine own_st (fun zw zk => XS.aloadN X47.here hx rfl (hb hby d6_4) rfl rfl zk) ?_
  refine own_st (fun zw zk => XS.aloadN X47.here hx rfl (hb hby d6_5) rfl rfl zk) ?_
  obtain ⟨T48, X48, e48, st48⟩ := getF X47 hx hZ hown (host := "") (Or.inl (hw _ (List.mem_of_getElem? (i := 26) rfl))) Via.refl e47 F3_ (g := (mkF m 6 #[.val (.ref d)] [(.ref d), (.ref d), (.ref t)])) rfl rfl (hb hby d6_6)
  refine own_st (fun zw zk => st48 zw zk) ?_
  refine own_st (fun zw zk => XS.iconst X48.here hx rfl (hb hby d6_9) zk) ?_
  refine own_st (fun zw zk => XS.isub X48.here hx rfl (hb hby d6_10) rfl zk) ?_
  obtain ⟨cq49, q49, q49'⟩ := F0_.cell
  obtain ⟨_, _, ⟨T49, L49, k49, n49⟩, -, X49, ⟨Lc49, hQ49, l49, y49, z49⟩, st49⟩ := X48.privateBack hx (y := (⟨"com/example/headroom/headroom/SlidingLog$Log", "slot", "(I)I"⟩ : MethodName)) hown (mvT hZ (hw _ (List.mem_of_getElem? (i := 28) rfl))) (mvT hZ (hw _ (List.mem_of_getElem? (i := 29) rfl))) (own_selp hZ (hw _ (List.mem_of_getElem? (i := 3) rfl)) (hw _ (List.mem_of_getElem? (i := 30) rfl)) (hw _ (List.mem_of_getElem? (i := 29) rfl)) (by decide)) (Cond.privateMethod_at (mvP hZ (hw _ (List.mem_of_getElem? (i := 30) rfl)) (args := #[]))) (mvT hZ (hw _ (List.mem_of_getElem? (i := 31) rfl))) (by decide) (backOf (W := 1) (rm5 l Z a0 hw [] d (1 : Int32) t (0 : Int32) (4 : Int32) [(.long w0), (.long w1), (.long w2), (.long w3)] h0 n0 Z0 (F1_) (F2_) (F5_) (rfl)) hZ (hw _ (List.mem_of_getElem? (i := 31) rfl)) (hw _ (List.mem_of_getElem? (i := 4) rfl)) (by decide) (by decide)) (g := (mkF m 11 #[.val (.ref d)] [(.int (1 : Int32)), (.ref d), (.ref t)])) rfl (by rw [hml]; rfl) (Steps.refl _) (a := d) (by rw [e48]; exact q49) q49' (argsL := [(.int (1 : Int32))]) (rest := [(.ref t)]) (lenOf pd_1 rfl) rfl (by show 2 * 0 + _ ≤ _; exact Nat.le_of_eq rfl) (hb hby d6_11) (fun _ _ => ⟨rfl, e48, (by decide : 0 + 0 ≤ _), (by decide : 0 + 0 ≤ _)⟩)
  dsimp only [Pt.U, Pt.locs, Pt.cells, Pt.slots] at X49 l49 y49 z49 st49 hQ49
  subst l49 y49 z49
  obtain ⟨rfl, N49q, e49⟩ := hQ49
  have N49 := Fr.app N0 N49q
  refine own_jp st49 ?_
  show own_Go p e below G (T49.setTop (mkF m 14 #[.val (.ref d)] [(.int (2 : Int32)), (.ref t)]))
  refine own_st (fun zw zk => own_jld X49 hx hZ e49 F5_ (j := (2 : Int32)) (v := (.long w2)) (i := 2) (by decide) (by decide) rfl (g := (mkF m 14 #[.val (.ref d)] [(.int (2 : Int32)), (.ref t)])) rfl rfl (hb hby d6_14) _ zk) ?_
  subst hG
  obtain ⟨fs, hr, hrun, hended, hW, hsame⟩ := X49.leave (v := some (.long w2)) (hlocks := Bd.notSynchronized) (fun h => by rw [Bd.returns] at h; cases h)
  refine ⟨_, own_retJ X49 hx Bd.returns (hb hby d6_15) hr, _, hrun, hended, _, _, rfl, ?_, ⟨_, rfl⟩, hW, hsame.mono (by decide) (by decide)⟩
  show Q_latest_0_2_4 Z d t adm w0 w1 w2 w3 h0 n0 _ T49.heap _
  rw [e49]
  exact ⟨rfl, N49, rfl⟩
theorem ef_rm_grow_0_2_4 (m : MethodId) (d : Addr) : entryFrame m #[(.ref d)] 3 = mkF m 0 #[.val (.ref d), .unset, .unset] [] := by first | (simp [entryFrame, mkF, argsToLocals, Value.category]; done) | rfl
def Q_grow_0_2_4 (Z : State) (d : Addr) (t : Addr) (adm : Int64) (w0 : Int64) (w1 : Int64) (w2 : Int64) (w3 : Int64) (h0 : Heap) (n0 : Nat) (rv : Option Value) (hq : Heap) (Lq : List Loc) : Prop := rv = none ∧ Fr n0 Lq ∧ ∃ tt : Addr, h0.size ≤ tt ∧ Keep h0 hq [d] ∧ Exa Z hq d "com/example/headroom/headroom/SlidingLog$Log" ∧ Fld Z hq d "com/example/headroom/headroom/SlidingLog$Log" "entries" "[J" (.ref tt) ∧ Fld Z hq d "com/example/headroom/headroom/SlidingLog$Log" "first" "I" (.int (0 : Int32)) ∧ Fld Z hq d "com/example/headroom/headroom/SlidingLog$Log" "size" "I" (.int (2 : Int32)) ∧ Fld Z hq d "com/example/headroom/headroom/SlidingLog$Log" "admitted" "J" (.long adm) ∧ own_L Z hq tt .long ([(.long w0), (.long w1), (.long w2), (.long w3), (.long (0 : Int64)), (.long (0 : Int64)), (.long (0 : Int64)), (.long (0 : Int64))])
set_option maxRecDepth 65536 in
set_option maxHeartbeats 40000000 in
theorem rm_grow_0_2_4 (l : Launch) (Z : State) (a0 : Array Value) (hw : ∀ d ∈ tables_1, d.before a0 Z = true) (ws : List Jvm.Cond) (d : Addr) (t : Addr) (adm : Int64) (w0 : Int64) (w1 : Int64) (w2 : Int64) (w3 : Int64) (h0 : Heap) (n0 : Nat) (Z0 : n0 ≤ h0.size) (F0_ : Exa Z h0 d "com/example/headroom/headroom/SlidingLog$Log") (F1_ : Fld Z h0 d "com/example/headroom/headroom/SlidingLog$Log" "entries" "[J" (.ref t)) (F2_ : Fld Z h0 d "com/example/headroom/headroom/SlidingLog$Log" "first" "I" (.int (0 : Int32))) (F3_ : Fld Z h0 d "com/example/headroom/headroom/SlidingLog$Log" "size" "I" (.int (2 : Int32))) (F4_ : Fld Z h0 d "com/example/headroom/headroom/SlidingLog$Log" "admitted" "J" (.long adm)) (F5_ : own_L Z h0 t .long ([(.long w0), (.long w1), (.long w2), (.long w3)])) (ge_d : n0 ≤ d) (ne_d_t : d ≠ t) :
    MetFree l (⟨"com/example/headroom/headroom/SlidingLog$Log", "grow", "()V"⟩ : MethodName) (head1 (Jvm.Cond.code (⟨"com/example/headroom/headroom/SlidingLog$Log", "grow", "()V"⟩ : MethodName) prog_48_method_7_code 3 none :: ws) ({ frames := 1, cells := 1, slots := 8, locals := 18 } : Room)) (fun za U => za = #[(.ref d)] ∧ Z.Warmed39 U.vm ∧ U.heap = h0) (fun _ _ _ _ _ => True) (fun _ U o U' => ∃ rv Lq, o = .returned rv ∧ Q_grow_0_2_4 Z d t adm w0 w1 w2 w3 h0 n0 rv U'.heap Lq ∧ FrameEnd U o U' Lq ({ frames := 1, cells := 1, slots := 8, locals := 18 } : Room).cells ({ frames := 1, cells := 1, slots := 8, locals := 18 } : Room).slots) := by
  refine MetFree.of_bodySF (plainFor_of_name pn_1) hisR ?_
  intro p e s m args below meth c s₁ Bd hml0 hP hK
  obtain ⟨rfl, hZ, hh⟩ := hP
  have hx := Bd.exec
  have hby := Bd.bytes
  have hml : c.maxLocals = 3 := hml0
  have hown : s.vm.findClass "com/example/headroom/headroom/SlidingLog$Log" = some m.cls := findClass_of_methodNamed Bd.named
  have hnm := (name_of_methodNamed Bd.named Bd.method).1
  have X0 : Stand p l e ({ frames := 1, cells := 1, slots := 8, locals := 18 } : Room) s m #[(.ref d)] below meth c s₁ [] 0 0 := Stand.of_body Bd
  have e0 : s₁.heap = h0 := by rw [← hh, Bd.state]; rfl
  have N0 := Fr.nil n0
  refine own_out (own_nm fun G hG => own_st (fun zt zk => castTop (ef_rm_grow_0_2_4 m d) zk) ?_)
  show own_Go p e below G (s₁.setTop (mkF m 0 #[.val (.ref d), .unset, .unset] []))
  refine own_st (fun zw zk => XS.aloadN X0.here hx rfl (hb hby d7_0) rfl rfl zk) ?_
  obtain ⟨T50, X50, e50, st50⟩ := getF X0 hx hZ hown (host := "") (Or.inl (hw _ (List.mem_of_getElem? (i := 17) rfl))) Via.refl e0 F1_ (g := (mkF m 1 #[.val (.ref d), .unset, .unset] [(.ref d)])) rfl rfl (hb hby d7_1)
  refine own_st (fun zw zk => st50 zw zk) ?_
  refine own_st (fun zw zk => own_len X50 hx hZ e50 F5_ (z := (4 : Int32)) (rfl) (g := (mkF m 4 #[.val (.ref d), .unset, .unset] [(.ref t)])) rfl rfl (hb hby d7_4) _ zk) ?_
  refine own_st (fun zw zk => XS.iconst X50.here hx rfl (hb hby d7_5) zk) ?_
  refine own_st (fun zw zk => XS.imul X50.here hx rfl (hb hby d7_6) rfl zk) ?_
  obtain ⟨T51, h51, k51, X51, e51, E51, A51, st51⟩ := newP X50 hx hZ (hw _ (List.mem_of_getElem? (i := 16) rfl)) e50 (g := (mkF m 7 #[.val (.ref d), .unset, .unset] [(.int (8 : Int32))])) rfl (hb hby d7_7) rfl (by decide) (cap := 8) (by decide) (by decide) (by decide) (by decide)
  obtain ⟨b51, g51⟩ : ∃ z, z = h0.size := ⟨_, rfl⟩
  rw [← g51] at A51 st51
  have G51 : n0 ≤ b51 := Nat.le_trans Z0 (Nat.le_of_eq g51.symm)
  have ne_d_b51 : d ≠ b51 := Nat.ne_of_lt (Nat.lt_of_lt_of_le F0_.lt (Nat.le_of_eq g51.symm))
  have ne_t_b51 : t ≠ b51 := Nat.ne_of_lt (Nat.lt_of_lt_of_le F5_.lt (Nat.le_of_eq g51.symm))
  have F0_51 := F0_.ext E51
  have F1_51 := F1_.ext E51
  have F2_51 := F2_.ext E51
  have F3_51 := F3_.ext E51
  have F4_51 := F4_.ext E51
  have F5_51 := F5_.ext E51
  have Z51 : n0 ≤ h51.size := Nat.le_trans Z0 E51.1
  have sz51 : h0.size ≤ b51 := Nat.le_trans (Keep.refl h0 [d]).1 (Nat.le_of_eq g51.symm)
  have Kp51 := (Keep.refl h0 [d]).ext E51
  have V51 : own_L Z h51 b51 .long ([(.long (0 : Int64)), (.long (0 : Int64)), (.long (0 : Int64)), (.long (0 : Int64)), (.long (0 : Int64)), (.long (0 : Int64)), (.long (0 : Int64)), (.long (0 : Int64))]) := own_L.new A51
  refine own_st (fun zw zk => st51 zw zk) ?_
  refine own_st (fun zw zk => XS.astoreN X51.here hx rfl (hb hby d7_9) rfl rfl rfl zk) ?_
  show own_Go p e below G (T51.setTop (mkF m 10 #[.val (.ref d), .val (.ref b51), .unset] []))
  refine own_st (fun zw zk => XS.iconst X51.here hx rfl (hb hby d7_10) zk) ?_
  refine own_st (fun zw zk => XS.istoreN X51.here hx rfl (hb hby d7_11) rfl rfl zk) ?_
  show own_Go p e below G (T51.setTop (mkF m 12 #[.val (.ref d), .val (.ref b51), .val (.int (0 : Int32))] []))
  refine own_st (fun zw zk => XS.iloadN X51.here hx rfl (hb hby d7_12) rfl zk) ?_
  refine own_st (fun zw zk => XS.aloadN X51.here hx rfl (hb hby d7_13) rfl rfl zk) ?_
  obtain ⟨T52, X52, e52, st52⟩ := getF X51 hx hZ hown (host := "") (Or.inl (hw _ (List.mem_of_getElem? (i := 26) rfl))) Via.refl e51 F3_51 (g := (mkF m 14 #[.val (.ref d), .val (.ref b51), .val (.int (0 : Int32))] [(.ref d), (.int (0 : Int32))])) rfl rfl (hb hby d7_14)
  refine own_st (fun zw zk => st52 zw zk) ?_
  refine own_st (fun zw zk => XS.icmpNo X52.here hx rfl (hb hby d7_17) rfl (tlt (by decide : (0 : Int32) < (2 : Int32))).2.1 zk) ?_
  refine own_st (fun zw zk => XS.aloadN X52.here hx rfl (hb hby d7_20) rfl rfl zk) ?_
  obtain ⟨T53, X53, e53, st53⟩ := getF X52 hx hZ hown (host := "") (Or.inl (hw _ (List.mem_of_getElem? (i := 17) rfl))) Via.refl e52 F1_51 (g := (mkF m 21 #[.val (.ref d), .val (.ref b51), .val (.int (0 : Int32))] [(.ref d)])) rfl rfl (hb hby d7_21)
  refine own_st (fun zw zk => st53 zw zk) ?_
  refine own_st (fun zw zk => XS.aloadN X53.here hx rfl (hb hby d7_24) rfl rfl zk) ?_
  refine own_st (fun zw zk => XS.iloadN X53.here hx rfl (hb hby d7_25) rfl zk) ?_
  show own_Go p e below G (T53.setTop (mkF m 26 #[.val (.ref d), .val (.ref b51), .val (.int (0 : Int32))] [(.int (0 : Int32)), (.ref d), (.ref t)]))
  obtain ⟨cq54, q54, q54'⟩ := F0_51.cell
  obtain ⟨_, _, ⟨T54, L54, k54, n54⟩, -, X54, ⟨Lc54, hQ54, l54, y54, z54⟩, st54⟩ := X53.privateBack hx (y := (⟨"com/example/headroom/headroom/SlidingLog$Log", "slot", "(I)I"⟩ : MethodName)) hown (mvT hZ (hw _ (List.mem_of_getElem? (i := 28) rfl))) (mvT hZ (hw _ (List.mem_of_getElem? (i := 29) rfl))) (own_selp hZ (hw _ (List.mem_of_getElem? (i := 3) rfl)) (hw _ (List.mem_of_getElem? (i := 30) rfl)) (hw _ (List.mem_of_getElem? (i := 29) rfl)) (by decide)) (Cond.privateMethod_at (mvP hZ (hw _ (List.mem_of_getElem? (i := 30) rfl)) (args := #[]))) (mvT hZ (hw _ (List.mem_of_getElem? (i := 31) rfl))) (by decide) (backOf (W := 1) (rm5 l Z a0 hw [] d (0 : Int32) t (0 : Int32) (4 : Int32) [(.long w0), (.long w1), (.long w2), (.long w3)] h51 n0 Z51 (F1_51) (F2_51) (F5_51) (rfl)) hZ (hw _ (List.mem_of_getElem? (i := 31) rfl)) (hw _ (List.mem_of_getElem? (i := 4) rfl)) (by decide) (by decide)) (g := (mkF m 26 #[.val (.ref d), .val (.ref b51), .val (.int (0 : Int32))] [(.int (0 : Int32)), (.ref d), (.ref t)])) rfl (by rw [hml]; rfl) (Steps.refl _) (a := d) (by rw [e53]; exact q54) q54' (argsL := [(.int (0 : Int32))]) (rest := [(.ref t)]) (lenOf pd_1 rfl) rfl (by show 2 * 0 + _ ≤ _; exact Nat.le_of_eq rfl) (hb hby d7_26) (fun _ _ => ⟨rfl, e53, (by decide : 1 + 0 ≤ _), (by decide : 8 + 0 ≤ _)⟩)
  dsimp only [Pt.U, Pt.locs, Pt.cells, Pt.slots] at X54 l54 y54 z54 st54 hQ54
  subst l54 y54 z54
  obtain ⟨rfl, N54q, e54⟩ := hQ54
  have N54 := Fr.app N0 N54q
  refine own_jp st54 ?_
  refine own_st (fun zw zk => XS.aloadN X54.here hx rfl (hb hby d7_29) rfl rfl zk) ?_
  refine own_st (fun zw zk => XS.iconst X54.here hx rfl (hb hby d7_30) zk) ?_
  refine own_st (fun zw zk => XS.iloadN X54.here hx rfl (hb hby d7_31) rfl zk) ?_
  refine own_st (fun zw zk => XS.imul X54.here hx rfl (hb hby d7_32) rfl zk) ?_
  refine own_st (fun zw zk => XS.iconst X54.here hx rfl (hb hby d7_33) zk) ?_
  obtain ⟨T55, h55, L55, X55, e55, N55, K55, V55, st55⟩ := own_cp X54 hx hZ hown (hw _ (List.mem_of_getElem? (i := 43) rfl)) (hw _ (List.mem_of_getElem? (i := 46) rfl)) (hw _ (List.mem_of_getElem? (i := 44) rfl)) (hw _ (List.mem_of_getElem? (i := 45) rfl)) e54 F5_51 V51 rfl (by intro v hv; simp only [List.mem_cons, List.not_mem_nil, or_false] at hv; rcases hv with rfl | rfl | rfl | rfl <;> rfl) (by intro v hv; simp only [List.mem_cons, List.not_mem_nil, or_false] at hv; rcases hv with rfl | rfl | rfl | rfl | rfl | rfl | rfl | rfl <;> rfl) (Nat.le_of_ble_eq_true rfl) (Nat.le_of_ble_eq_true rfl) (sp := (0 : Int32)) (dp := (0 : Int32)) (nn := (2 : Int32)) (0) (0) (2) (by decide) (by decide) (by decide) (by decide) (by decide) (by decide) (Nat.le_of_ble_eq_true rfl) (Nat.le_of_ble_eq_true rfl) N54 G51 (g := (mkF m 34 #[.val (.ref d), .val (.ref b51), .val (.int (0 : Int32))] [(.int (2 : Int32)), (.int (0 : Int32)), (.ref b51), (.int (0 : Int32)), (.ref t)])) rfl (by rw [hml]; rfl) rfl (hb hby d7_34) (by decide) (W := 0) (by show 2 * 0 + _ ≤ _; exact Nat.le_of_eq rfl) (by decide)
  have Vb51_55 : own_L Z h55 b51 .long ([(.long w0), (.long w1), (.long (0 : Int64)), (.long (0 : Int64)), (.long (0 : Int64)), (.long (0 : Int64)), (.long (0 : Int64)), (.long (0 : Int64))]) := V55
  refine own_st (fun zw zk => st55 zw zk) ?_
  have F0_55 := F0_51.keep K55
  have F1_55 := F1_51.keep K55 (ninS ne_d_b51 nin0)
  have F2_55 := F2_51.keep K55 (ninS ne_d_b51 nin0)
  have F3_55 := F3_51.keep K55 (ninS ne_d_b51 nin0)
  have F4_55 := F4_51.keep K55 (ninS ne_d_b51 nin0)
  have F5_55 := F5_51.keep K55 (ninS ne_t_b51 nin0)
  have Z55 : n0 ≤ h55.size := Nat.le_trans Z51 K55.1
  have Kp55 := Kp51.trans K55 (allS (Or.inr sz51) all0)
  refine own_st (fun zw zk => XS.iinc X55.here hx rfl (hb hby d7_37) rfl rfl zk) ?_
  show own_Go p e below G (T55.setTop (mkF m 40 #[.val (.ref d), .val (.ref b51), .val (.int (1 : Int32))] []))
  refine own_st (fun zw zk => XS.goto X55.here hx rfl (pc0 := 40) (pc' := 12) rfl (hb hby d7_40) (by decide) (by decide) zk) ?_
  show own_Go p e below G (T55.setTop (mkF m 12 #[.val (.ref d), .val (.ref b51), .val (.int (1 : Int32))] []))
  refine own_st (fun zw zk => XS.iloadN X55.here hx rfl (hb hby d7_12) rfl zk) ?_
  refine own_st (fun zw zk => XS.aloadN X55.here hx rfl (hb hby d7_13) rfl rfl zk) ?_
  obtain ⟨T56, X56, e56, st56⟩ := getF X55 hx hZ hown (host := "") (Or.inl (hw _ (List.mem_of_getElem? (i := 26) rfl))) Via.refl e55 F3_55 (g := (mkF m 14 #[.val (.ref d), .val (.ref b51), .val (.int (1 : Int32))] [(.ref d), (.int (1 : Int32))])) rfl rfl (hb hby d7_14)
  refine own_st (fun zw zk => st56 zw zk) ?_
  refine own_st (fun zw zk => XS.icmpNo X56.here hx rfl (hb hby d7_17) rfl (tlt (by decide : (1 : Int32) < (2 : Int32))).2.1 zk) ?_
  refine own_st (fun zw zk => XS.aloadN X56.here hx rfl (hb hby d7_20) rfl rfl zk) ?_
  obtain ⟨T57, X57, e57, st57⟩ := getF X56 hx hZ hown (host := "") (Or.inl (hw _ (List.mem_of_getElem? (i := 17) rfl))) Via.refl e56 F1_55 (g := (mkF m 21 #[.val (.ref d), .val (.ref b51), .val (.int (1 : Int32))] [(.ref d)])) rfl rfl (hb hby d7_21)
  refine own_st (fun zw zk => st57 zw zk) ?_
  refine own_st (fun zw zk => XS.aloadN X57.here hx rfl (hb hby d7_24) rfl rfl zk) ?_
  refine own_st (fun zw zk => XS.iloadN X57.here hx rfl (hb hby d7_25) rfl zk) ?_
  show own_Go p e below G (T57.setTop (mkF m 26 #[.val (.ref d), .val (.ref b51), .val (.int (1 : Int32))] [(.int (1 : Int32)), (.ref d), (.ref t)]))
  obtain ⟨cq58, q58, q58'⟩ := F0_55.cell
  obtain ⟨_, _, ⟨T58, L58, k58, n58⟩, -, X58, ⟨Lc58, hQ58, l58, y58, z58⟩, st58⟩ := X57.privateBack hx (y := (⟨"com/example/headroom/headroom/SlidingLog$Log", "slot", "(I)I"⟩ : MethodName)) hown (mvT hZ (hw _ (List.mem_of_getElem? (i := 28) rfl))) (mvT hZ (hw _ (List.mem_of_getElem? (i := 29) rfl))) (own_selp hZ (hw _ (List.mem_of_getElem? (i := 3) rfl)) (hw _ (List.mem_of_getElem? (i := 30) rfl)) (hw _ (List.mem_of_getElem? (i := 29) rfl)) (by decide)) (Cond.privateMethod_at (mvP hZ (hw _ (List.mem_of_getElem? (i := 30) rfl)) (args := #[]))) (mvT hZ (hw _ (List.mem_of_getElem? (i := 31) rfl))) (by decide) (backOf (W := 1) (rm5 l Z a0 hw [] d (1 : Int32) t (0 : Int32) (4 : Int32) [(.long w0), (.long w1), (.long w2), (.long w3)] h55 n0 Z55 (F1_55) (F2_55) (F5_55) (rfl)) hZ (hw _ (List.mem_of_getElem? (i := 31) rfl)) (hw _ (List.mem_of_getElem? (i := 4) rfl)) (by decide) (by decide)) (g := (mkF m 26 #[.val (.ref d), .val (.ref b51), .val (.int (1 : Int32))] [(.int (1 : Int32)), (.ref d), (.ref t)])) rfl (by rw [hml]; rfl) (Steps.refl _) (a := d) (by rw [e57]; exact q58) q58' (argsL := [(.int (1 : Int32))]) (rest := [(.ref t)]) (lenOf pd_1 rfl) rfl (by show 2 * 0 + _ ≤ _; exact Nat.le_of_eq rfl) (hb hby d7_26) (fun _ _ => ⟨rfl, e57, (by decide : 1 + 0 ≤ _), (by decide : 8 + 0 ≤ _)⟩)
  dsimp only [Pt.U, Pt.locs, Pt.cells, Pt.slots] at X58 l58 y58 z58 st58 hQ58
  subst l58 y58 z58
  obtain ⟨rfl, N58q, e58⟩ := hQ58
  have N58 := Fr.app N55 N58q
  refine own_jp st58 ?_
  refine own_st (fun zw zk => XS.aloadN X58.here hx rfl (hb hby d7_29) rfl rfl zk) ?_
  refine own_st (fun zw zk => XS.iconst X58.here hx rfl (hb hby d7_30) zk) ?_
  refine own_st (fun zw zk => XS.iloadN X58.here hx rfl (hb hby d7_31) rfl zk) ?_
  refine own_st (fun zw zk => XS.imul X58.here hx rfl (hb hby d7_32) rfl zk) ?_
  refine own_st (fun zw zk => XS.iconst X58.here hx rfl (hb hby d7_33) zk) ?_
  obtain ⟨T59, h59, L59, X59, e59, N59, K59, V59, st59⟩ := own_cp X58 hx hZ hown (hw _ (List.mem_of_getElem? (i := 43) rfl)) (hw _ (List.mem_of_getElem? (i := 46) rfl)) (hw _ (List.mem_of_getElem? (i := 44) rfl)) (hw _ (List.mem_of_getElem? (i := 45) rfl)) e58 F5_55 Vb51_55 rfl (by intro v hv; simp only [List.mem_cons, List.not_mem_nil, or_false] at hv; rcases hv with rfl | rfl | rfl | rfl <;> rfl) (by intro v hv; simp only [List.mem_cons, List.not_mem_nil, or_false] at hv; rcases hv with rfl | rfl | rfl | rfl | rfl | rfl | rfl | rfl <;> rfl) (Nat.le_of_ble_eq_true rfl) (Nat.le_of_ble_eq_true rfl) (sp := (2 : Int32)) (dp := (2 : Int32)) (nn := (2 : Int32)) (2) (2) (2) (by decide) (by decide) (by decide) (by decide) (by decide) (by decide) (Nat.le_of_ble_eq_true rfl) (Nat.le_of_ble_eq_true rfl) N58 G51 (g := (mkF m 34 #[.val (.ref d), .val (.ref b51), .val (.int (1 : Int32))] [(.int (2 : Int32)), (.int (2 : Int32)), (.ref b51), (.int (2 : Int32)), (.ref t)])) rfl (by rw [hml]; rfl) rfl (hb hby d7_34) (by decide) (W := 0) (by show 2 * 0 + _ ≤ _; exact Nat.le_of_eq rfl) (by decide)
  have Vb51_59 : own_L Z h59 b51 .long ([(.long w0), (.long w1), (.long w2), (.long w3), (.long (0 : Int64)), (.long (0 : Int64)), (.long (0 : Int64)), (.long (0 : Int64))]) := V59
  refine own_st (fun zw zk => st59 zw zk) ?_
  have F0_59 := F0_55.keep K59
  have F1_59 := F1_55.keep K59 (ninS ne_d_b51 nin0)
  have F2_59 := F2_55.keep K59 (ninS ne_d_b51 nin0)
  have F3_59 := F3_55.keep K59 (ninS ne_d_b51 nin0)
  have F4_59 := F4_55.keep K59 (ninS ne_d_b51 nin0)
  have F5_59 := F5_55.keep K59 (ninS ne_t_b51 nin0)
  have Z59 : n0 ≤ h59.size := Nat.le_trans Z55 K59.1
  have Kp59 := Kp55.trans K59 (allS (Or.inr sz51) all0)
  refine own_st (fun zw zk => XS.iinc X59.here hx rfl (hb hby d7_37) rfl rfl zk) ?_
  show own_Go p e below G (T59.setTop (mkF m 40 #[.val (.ref d), .val (.ref b51), .val (.int (2 : Int32))] []))
  refine own_st (fun zw zk => XS.goto X59.here hx rfl (pc0 := 40) (pc' := 12) rfl (hb hby d7_40) (by decide) (by decide) zk) ?_
  show own_Go p e below G (T59.setTop (mkF m 12 #[.val (.ref d), .val (.ref b51), .val (.int (2 : Int32))] []))
  refine own_st (fun zw zk => XS.iloadN X59.here hx rfl (hb hby d7_12) rfl zk) ?_
  refine own_st (fun zw zk => XS.aloadN X59.here hx rfl (hb hby d7_13) rfl rfl zk) ?_
  obtain ⟨T60, X60, e60, st60⟩ := getF X59 hx hZ hown (host := "") (Or.inl (hw _ (List.mem_of_getElem? (i := 26) rfl))) Via.refl e59 F3_59 (g := (mkF m 14 #[.val (.ref d), .val (.ref b51), .val (.int (2 : Int32))] [(.ref d), (.int (2 : Int32))])) rfl rfl (hb hby d7_14)
  refine own_st (fun zw zk => st60 zw zk) ?_
  refine own_st (fun zw zk => XS.icmpYes X60.here hx rfl (pc0 := 17) (pc' := 43) rfl (hb hby d7_17) rfl (flt (by decide : ¬ ((2 : Int32) < (2 : Int32)))).2.1 (by decide) (by decide) zk) ?_
  refine own_st (fun zw zk => XS.aloadN X60.here hx rfl (hb hby d7_43) rfl rfl zk) ?_
  refine own_st (fun zw zk => XS.aloadN X60.here hx rfl (hb hby d7_44) rfl rfl zk) ?_
  obtain ⟨T61, h61, X61, e61, W61, st61⟩ := putF X60 hx hZ hown (host := "") (Or.inl (hw _ (List.mem_of_getElem? (i := 17) rfl))) Via.refl e60 F1_59 F0_59 (Or.inl (hw _ (List.mem_of_getElem? (i := 18) rfl))) (hw _ (List.mem_of_getElem? (i := 3) rfl)) (ty := (.array .long)) (by decide) rfl rfl (g := (mkF m 45 #[.val (.ref d), .val (.ref b51), .val (.int (2 : Int32))] [(.ref b51), (.ref d)])) rfl rfl (hb hby d7_45)
  have F1_61 := F1_59.same W61
  have N61 := Fr.snoc X61 N59 ge_d
  refine own_st (fun zw zk => st61 zw zk) ?_
  have F0_61 := F0_59.wr W61
  have F2_61 := F2_59.other W61 (Or.inr (slot_ne (Or.inl (hw _ (List.mem_of_getElem? (i := 33) rfl))) (Or.inl (hw _ (List.mem_of_getElem? (i := 18) rfl))) (by decide) (t := .int) (t' := (.array .long)) (by decide) (by decide)))
  have F3_61 := F3_59.other W61 (Or.inr (slot_ne (Or.inl (hw _ (List.mem_of_getElem? (i := 27) rfl))) (Or.inl (hw _ (List.mem_of_getElem? (i := 18) rfl))) (by decide) (t := .int) (t' := (.array .long)) (by decide) (by decide)))
  have F4_61 := F4_59.other W61 (Or.inr (slot_ne (Or.inl (hw _ (List.mem_of_getElem? (i := 25) rfl))) (Or.inl (hw _ (List.mem_of_getElem? (i := 18) rfl))) (by decide) (t := .long) (t' := (.array .long)) (by decide) (by decide)))
  have F5_61 := F5_59.other W61 (Ne.symm ne_d_t)
  have Vb51_61 := Vb51_59.other W61 (Ne.symm ne_d_b51)
  have Z61 : n0 ≤ h61.size := Nat.le_trans Z59 (Keep.of_wr W61).1
  have Kp61 := Kp59.wr W61 (Or.inl (List.mem_of_getElem? (i := 0) rfl))
  refine own_st (fun zw zk => XS.aloadN X61.here hx rfl (hb hby d7_48) rfl rfl zk) ?_
  show own_Go p e below G (T61.setTop (mkF m 49 #[.val (.ref d), .val (.ref b51), .val (.int (2 : Int32))] [(.ref d)]))
  refine own_st (fun zw zk => XS.iconst X61.here hx rfl (hb hby d7_49) zk) ?_
  obtain ⟨T62, h62, X62, e62, W62, st62⟩ := putF X61 hx hZ hown (host := "") (Or.inl (hw _ (List.mem_of_getElem? (i := 32) rfl))) Via.refl e61 F2_61 F0_61 (Or.inl (hw _ (List.mem_of_getElem? (i := 33) rfl))) (hw _ (List.mem_of_getElem? (i := 3) rfl)) (ty := .int) (by decide) rfl rfl (g := (mkF m 50 #[.val (.ref d), .val (.ref b51), .val (.int (2 : Int32))] [(.int (0 : Int32)), (.ref d)])) rfl rfl (hb hby d7_50)
  have F2_62 := F2_61.same W62
  have N62 := Fr.snoc X62 N61 ge_d
  refine own_st (fun zw zk => st62 zw zk) ?_
  have F0_62 := F0_61.wr W62
  have F3_62 := F3_61.other W62 (Or.inr (slot_ne (Or.inl (hw _ (List.mem_of_getElem? (i := 27) rfl))) (Or.inl (hw _ (List.mem_of_getElem? (i := 33) rfl))) (by decide) (t := .int) (t' := .int) (by decide) (by decide)))
  have F4_62 := F4_61.other W62 (Or.inr (slot_ne (Or.inl (hw _ (List.mem_of_getElem? (i := 25) rfl))) (Or.inl (hw _ (List.mem_of_getElem? (i := 33) rfl))) (by decide) (t := .long) (t' := .int) (by decide) (by decide)))
  have F5_62 := F5_61.other W62 (Ne.symm ne_d_t)
  have Vb51_62 := Vb51_61.other W62 (Ne.symm ne_d_b51)
  have F1_62 := F1_61.other W62 (Or.inr (slot_ne (Or.inl (hw _ (List.mem_of_getElem? (i := 18) rfl))) (Or.inl (hw _ (List.mem_of_getElem? (i := 33) rfl))) (by decide) (t := (.array .long)) (t' := .int) (by decide) (by decide)))
  have Z62 : n0 ≤ h62.size := Nat.le_trans Z61 (Keep.of_wr W62).1
  have Kp62 := Kp61.wr W62 (Or.inl (List.mem_of_getElem? (i := 0) rfl))
  subst hG
  obtain ⟨fs, hr, hrun, hended, hW, hsame⟩ := X62.leave (v := none) (hlocks := Bd.notSynchronized) (fun _ => rfl)
  refine ⟨_, X62.returnOut hx Bd.returns (hb hby d7_53) hr, _, hrun, hended, _, _, rfl, ?_, ⟨_, rfl⟩, hW, hsame.mono (by decide) (by decide)⟩
  show Q_grow_0_2_4 Z d t adm w0 w1 w2 w3 h0 n0 _ T62.heap _
  rw [e62]
  exact ⟨rfl, N62, b51, sz51, Kp62, F0_62, F1_62, F2_62, F3_62, F4_62, Vb51_62⟩
theorem ef_rm_add_0_2_4 (m : MethodId) (d : Addr) (q1 : Int64) (q3 : Int64) : entryFrame m #[(.ref d), (.long q1), (.long q3)] 6 = mkF m 0 #[.val (.ref d), .val (.long q1), .second, .val (.long q3), .second, .unset] [] := by first | (simp [entryFrame, mkF, argsToLocals, Value.category]; done) | rfl
def Q_add_0_2_4 (Z : State) (d : Addr) (q1 : Int64) (q3 : Int64) (t : Addr) (adm : Int64) (w0 : Int64) (w1 : Int64) (w2 : Int64) (w3 : Int64) (h0 : Heap) (n0 : Nat) (rv : Option Value) (hq : Heap) (Lq : List Loc) : Prop := rv = none ∧ Fr n0 Lq ∧ ∃ tt : Addr, h0.size ≤ tt ∧ Keep h0 hq [d] ∧ Exa Z hq d "com/example/headroom/headroom/SlidingLog$Log" ∧ Fld Z hq d "com/example/headroom/headroom/SlidingLog$Log" "entries" "[J" (.ref tt) ∧ Fld Z hq d "com/example/headroom/headroom/SlidingLog$Log" "first" "I" (.int (0 : Int32)) ∧ Fld Z hq d "com/example/headroom/headroom/SlidingLog$Log" "size" "I" (.int (3 : Int32)) ∧ Fld Z hq d "com/example/headroom/headroom/SlidingLog$Log" "admitted" "J" (.long (adm + q3)) ∧ own_L Z hq tt .long ([(.long w0), (.long w1), (.long w2), (.long w3), (.long q1), (.long q3), (.long (0 : Int64)), (.long (0 : Int64))])
set_option maxRecDepth 65536 in
set_option maxHeartbeats 40000000 in
theorem rm_add_0_2_4 (l : Launch) (Z : State) (a0 : Array Value) (hw : ∀ d ∈ tables_1, d.before a0 Z = true) (ws : List Jvm.Cond) (d : Addr) (q1 : Int64) (q3 : Int64) (t : Addr) (adm : Int64) (w0 : Int64) (w1 : Int64) (w2 : Int64) (w3 : Int64) (h0 : Heap) (n0 : Nat) (Z0 : n0 ≤ h0.size) (F0_ : Exa Z h0 d "com/example/headroom/headroom/SlidingLog$Log") (F1_ : Fld Z h0 d "com/example/headroom/headroom/SlidingLog$Log" "entries" "[J" (.ref t)) (F2_ : Fld Z h0 d "com/example/headroom/headroom/SlidingLog$Log" "first" "I" (.int (0 : Int32))) (F3_ : Fld Z h0 d "com/example/headroom/headroom/SlidingLog$Log" "size" "I" (.int (2 : Int32))) (F4_ : Fld Z h0 d "com/example/headroom/headroom/SlidingLog$Log" "admitted" "J" (.long adm)) (F5_ : own_L Z h0 t .long ([(.long w0), (.long w1), (.long w2), (.long w3)])) (ge_d : n0 ≤ d) (ne_d_t : d ≠ t) (hne : ¬ (w2 = q1)) :
    MetFree l (⟨"com/example/headroom/headroom/SlidingLog$Log", "add", "(JJ)V"⟩ : MethodName) (head1 (Jvm.Cond.code (⟨"com/example/headroom/headroom/SlidingLog$Log", "add", "(JJ)V"⟩ : MethodName) prog_48_method_6_code 6 none :: ws) ({ frames := 2, cells := 1, slots := 8, locals := 32 } : Room)) (fun za U => za = #[(.ref d), (.long q1), (.long q3)] ∧ Z.Warmed39 U.vm ∧ U.heap = h0) (fun _ _ _ _ _ => True) (fun _ U o U' => ∃ rv Lq, o = .returned rv ∧ Q_add_0_2_4 Z d q1 q3 t adm w0 w1 w2 w3 h0 n0 rv U'.heap Lq ∧ FrameEnd U o U' Lq ({ frames := 2, cells := 1, slots := 8, locals := 32 } : Room).cells ({ frames := 2, cells := 1, slots := 8, locals := 32 } : Room).slots) := by
  refine MetFree.of_bodySF (plainFor_of_name pn_1) hisR ?_
  intro p e s m args below meth c s₁ Bd hml0 hP hK
  obtain ⟨rfl, hZ, hh⟩ := hP
  have hx := Bd.exec
  have hby := Bd.bytes
  have hml : c.maxLocals = 6 := hml0
  have hown : s.vm.findClass "com/example/headroom/headroom/SlidingLog$Log" = some m.cls := findClass_of_methodNamed Bd.named
  have hnm := (name_of_methodNamed Bd.named Bd.method).1
  have X0 : Stand p l e ({ frames := 2, cells := 1, slots := 8, locals := 32 } : Room) s m #[(.ref d), (.long q1), (.long q3)] below meth c s₁ [] 0 0 := Stand.of_body Bd
  have e0 : s₁.heap = h0 := by rw [← hh, Bd.state]; rfl
  have N0 := Fr.nil n0
  refine own_out (own_nm fun G hG => own_st (fun zt zk => castTop (ef_rm_add_0_2_4 m d q1 q3) zk) ?_)
  show own_Go p e below G (s₁.setTop (mkF m 0 #[.val (.ref d), .val (.long q1), .second, .val (.long q3), .second, .unset] []))
  refine own_st (fun zw zk => XS.aloadN X0.here hx rfl (hb hby d4_0) rfl rfl zk) ?_
  refine own_st (fun zw zk => XS.dup X0.here hx rfl (hb hby d4_1) rfl rfl zk) ?_
  obtain ⟨T63, X63, e63, st63⟩ := getF X0 hx hZ hown (host := "") (Or.inl (hw _ (List.mem_of_getElem? (i := 24) rfl))) Via.refl e0 F4_ (g := (mkF m 2 #[.val (.ref d), .val (.long q1), .second, .val (.long q3), .second, .unset] [(.ref d), (.ref d)])) rfl rfl (hb hby d4_2)
  refine own_st (fun zw zk => st63 zw zk) ?_
  refine own_st (fun zw zk => XS.lloadN X63.here hx rfl (hb hby d4_5) rfl zk) ?_
  refine own_st (fun zw zk => XS.ladd X63.here hx rfl (hb hby d4_6) rfl zk) ?_
  obtain ⟨T64, h64, X64, e64, W64, st64⟩ := putF X63 hx hZ hown (host := "") (Or.inl (hw _ (List.mem_of_getElem? (i := 24) rfl))) Via.refl e63 F4_ F0_ (Or.inl (hw _ (List.mem_of_getElem? (i := 25) rfl))) (hw _ (List.mem_of_getElem? (i := 3) rfl)) (ty := .long) (by decide) rfl rfl (g := (mkF m 7 #[.val (.ref d), .val (.long q1), .second, .val (.long q3), .second, .unset] [(.long (adm + q3)), (.ref d)])) rfl rfl (hb hby d4_7)
  have F4_64 := F4_.same W64
  have N64 := Fr.snoc X64 N0 ge_d
  refine own_st (fun zw zk => st64 zw zk) ?_
  have F0_64 := F0_.wr W64
  have F1_64 := F1_.other W64 (Or.inr (slot_ne (Or.inl (hw _ (List.mem_of_getElem? (i := 18) rfl))) (Or.inl (hw _ (List.mem_of_getElem? (i := 25) rfl))) (by decide) (t := (.array .long)) (t' := .long) (by decide) (by decide)))
  have F2_64 := F2_.other W64 (Or.inr (slot_ne (Or.inl (hw _ (List.mem_of_getElem? (i := 33) rfl))) (Or.inl (hw _ (List.mem_of_getElem? (i := 25) rfl))) (by decide) (t := .int) (t' := .long) (by decide) (by decide)))
  have F3_64 := F3_.other W64 (Or.inr (slot_ne (Or.inl (hw _ (List.mem_of_getElem? (i := 27) rfl))) (Or.inl (hw _ (List.mem_of_getElem? (i := 25) rfl))) (by decide) (t := .int) (t' := .long) (by decide) (by decide)))
  have F5_64 := F5_.other W64 (Ne.symm ne_d_t)
  have Z64 : n0 ≤ h64.size := Nat.le_trans Z0 (Keep.of_wr W64).1
  have Kp64 := (Keep.refl h0 [d]).wr W64 (Or.inl (List.mem_of_getElem? (i := 0) rfl))
  refine own_st (fun zw zk => XS.aloadN X64.here hx rfl (hb hby d4_10) rfl rfl zk) ?_
  obtain ⟨T65, X65, e65, st65⟩ := getF X64 hx hZ hown (host := "") (Or.inl (hw _ (List.mem_of_getElem? (i := 26) rfl))) Via.refl e64 F3_64 (g := (mkF m 11 #[.val (.ref d), .val (.long q1), .second, .val (.long q3), .second, .unset] [(.ref d)])) rfl rfl (hb hby d4_11)
  refine own_st (fun zw zk => st65 zw zk) ?_
  show own_Go p e below G (T65.setTop (mkF m 14 #[.val (.ref d), .val (.long q1), .second, .val (.long q3), .second, .unset] [(.int (2 : Int32))]))
  refine own_st (fun zw zk => XS.ifNo X65.here hx rfl (hb hby d4_14) rfl ((if0 _ _).trans (tlt (by decide : (0 : Int32) < (2 : Int32))).2.2.2) zk) ?_
  refine own_st (fun zw zk => XS.aloadN X65.here hx rfl (hb hby d4_17) rfl rfl zk) ?_
  obtain ⟨cq66, kq66, q66a, q66b, q66c⟩ := isOf hZ e65 F0_64
  obtain ⟨_, _, ⟨T66, L66, k66, n66⟩, -, X66, ⟨Lc66, hQ66, l66, y66, z66⟩, st66⟩ := X65.virtualBack hx (y := (⟨"com/example/headroom/headroom/SlidingLog$Log", "latest", "()J"⟩ : MethodName)) (z := (⟨"com/example/headroom/headroom/SlidingLog$Log", "latest", "()J"⟩ : MethodName)) hown (mvT hZ (hw _ (List.mem_of_getElem? (i := 34) rfl))) (mvT hZ (hw _ (List.mem_of_getElem? (i := 35) rfl))) (notFace_of_selects (args := #[]) (mvT hZ (hw _ (List.mem_of_getElem? (i := 37) rfl)))) (mvT hZ (hw _ (List.mem_of_getElem? (i := 37) rfl))) (mvT hZ (hw _ (List.mem_of_getElem? (i := 36) rfl))) (by decide) (backOf (W := 0) (rm_latest_0_2_4 l Z a0 hw [] d t (adm + q3) w0 w1 w2 w3 h64 n0 Z64 (F0_64) (F1_64) (F2_64) (F3_64) (F4_64) (F5_64)) hZ (hw _ (List.mem_of_getElem? (i := 38) rfl)) (hw _ (List.mem_of_getElem? (i := 4) rfl)) (by decide) (by decide)) q66a q66c (g := (mkF m 18 #[.val (.ref d), .val (.long q1), .second, .val (.long q3), .second, .unset] [(.ref d)])) rfl (by rw [hml]; rfl) (Steps.refl _) (argsL := []) (rest := []) (lenOf pd_2 rfl) rfl (by show 2 * 0 + _ ≤ _; exact Nat.le_of_eq rfl) (hb hby d4_18) (fun _ _ => ⟨rfl, e65, (by decide : 0 + 0 ≤ _), (by decide : 0 + 0 ≤ _)⟩)
  dsimp only [Pt.U, Pt.locs, Pt.cells, Pt.slots] at X66 l66 y66 z66 st66 hQ66
  subst l66 y66 z66
  obtain ⟨rfl, N66q, e66⟩ := hQ66
  have N66 := Fr.app N64 N66q
  refine own_jp st66 ?_
  refine own_st (fun zw zk => XS.lloadN X66.here hx rfl (hb hby d4_21) rfl zk) ?_
  refine own_st (fun zw zk => XS.lcmp X66.here hx rfl (hb hby d4_22) rfl zk) ?_
  have hc23 : ¬ (w2 = q1) := hne
  refine own_st (fun zw zk => XS.ifYes X66.here hx rfl (pc0 := 23) (pc' := 48) rfl (hb hby d4_23) rfl ((if0 _ _).trans (feq (own_fle hc23)).2) (by decide) (by decide) zk) ?_
  refine own_st (fun zw zk => XS.aloadN X66.here hx rfl (hb hby d4_48) rfl rfl zk) ?_
  obtain ⟨T67, X67, e67, st67⟩ := getF X66 hx hZ hown (host := "") (Or.inl (hw _ (List.mem_of_getElem? (i := 26) rfl))) Via.refl e66 F3_64 (g := (mkF m 49 #[.val (.ref d), .val (.long q1), .second, .val (.long q3), .second, .unset] [(.ref d)])) rfl rfl (hb hby d4_49)
  refine own_st (fun zw zk => st67 zw zk) ?_
  show own_Go p e below G (T67.setTop (mkF m 52 #[.val (.ref d), .val (.long q1), .second, .val (.long q3), .second, .unset] [(.int (2 : Int32))]))
  refine own_st (fun zw zk => XS.aloadN X67.here hx rfl (hb hby d4_52) rfl rfl zk) ?_
  obtain ⟨T68, X68, e68, st68⟩ := getF X67 hx hZ hown (host := "") (Or.inl (hw _ (List.mem_of_getElem? (i := 17) rfl))) Via.refl e67 F1_64 (g := (mkF m 53 #[.val (.ref d), .val (.long q1), .second, .val (.long q3), .second, .unset] [(.ref d), (.int (2 : Int32))])) rfl rfl (hb hby d4_53)
  refine own_st (fun zw zk => st68 zw zk) ?_
  refine own_st (fun zw zk => own_len X68 hx hZ e68 F5_64 (z := (4 : Int32)) (rfl) (g := (mkF m 56 #[.val (.ref d), .val (.long q1), .second, .val (.long q3), .second, .unset] [(.ref t), (.int (2 : Int32))])) rfl rfl (hb hby d4_56) _ zk) ?_
  refine own_st (fun zw zk => XS.iconst X68.here hx rfl (hb hby d4_57) zk) ?_
  refine own_st (fun zw zk => XS.idiv X68.here hx rfl (hb hby d4_58) rfl (by decide) zk) ?_
  refine own_st (fun zw zk => XS.icmpNo X68.here hx rfl (hb hby d4_59) rfl (teq (by decide : (2 : Int32) = (2 : Int32))).2 zk) ?_
  refine own_st (fun zw zk => XS.aloadN X68.here hx rfl (hb hby d4_62) rfl rfl zk) ?_
  obtain ⟨cq69, q69, q69'⟩ := F0_64.cell
  obtain ⟨_, _, ⟨T69, L69, k69, n69⟩, -, X69, ⟨Lc69, hQ69, l69, y69, z69⟩, st69⟩ := X68.privateBack hx (y := (⟨"com/example/headroom/headroom/SlidingLog$Log", "grow", "()V"⟩ : MethodName)) hown (mvT hZ (hw _ (List.mem_of_getElem? (i := 39) rfl))) (mvT hZ (hw _ (List.mem_of_getElem? (i := 40) rfl))) (own_selp hZ (hw _ (List.mem_of_getElem? (i := 3) rfl)) (hw _ (List.mem_of_getElem? (i := 41) rfl)) (hw _ (List.mem_of_getElem? (i := 40) rfl)) (by decide)) (Cond.privateMethod_at (mvP hZ (hw _ (List.mem_of_getElem? (i := 41) rfl)) (args := #[]))) (mvT hZ (hw _ (List.mem_of_getElem? (i := 42) rfl))) (by decide) (backOf (W := 0) (rm_grow_0_2_4 l Z a0 hw [] d t (adm + q3) w0 w1 w2 w3 h64 n0 Z64 (F0_64) (F1_64) (F2_64) (F3_64) (F4_64) (F5_64) (ge_d) (ne_d_t)) hZ (hw _ (List.mem_of_getElem? (i := 42) rfl)) (hw _ (List.mem_of_getElem? (i := 4) rfl)) (by decide) (by decide)) (g := (mkF m 63 #[.val (.ref d), .val (.long q1), .second, .val (.long q3), .second, .unset] [(.ref d)])) rfl (by rw [hml]; rfl) (Steps.refl _) (a := d) (by rw [e68]; exact q69) q69' (argsL := []) (rest := []) (lenOf pd_0 rfl) rfl (by show 2 * 0 + _ ≤ _; exact Nat.le_of_eq rfl) (hb hby d4_63) (fun _ _ => ⟨rfl, e68, (by decide : 0 + 1 ≤ _), (by decide : 0 + 8 ≤ _)⟩)
  dsimp only [Pt.U, Pt.locs, Pt.cells, Pt.slots] at X69 l69 y69 z69 st69 hQ69
  subst l69 y69 z69
  obtain ⟨rfl, N69q, tt69, sztt69, K69, O69_0, O69_1, O69_2, O69_3, O69_4, O69_5⟩ := hQ69
  have ne_d_tt69 : d ≠ tt69 := Nat.ne_of_lt (Nat.lt_of_lt_of_le F0_64.lt sztt69)
  have ne_t_tt69 : t ≠ tt69 := Nat.ne_of_lt (Nat.lt_of_lt_of_le F5_64.lt sztt69)
  have Gtt69 : n0 ≤ tt69 := Nat.le_trans Z64 sztt69
  have Sztt69 : h0.size ≤ tt69 := Nat.le_trans Kp64.1 sztt69
  have F0_69 := F0_64.keep K69
  have F5_69 := F5_64.keep K69 (ninS (Ne.symm ne_d_t) nin0)
  have Z69 : n0 ≤ T69.heap.size := Nat.le_trans Z64 K69.1
  have Kp69 := Kp64.trans K69 (allS (Or.inl (List.mem_of_getElem? (i := 0) rfl)) all0)
  have N69 := Fr.app N66 N69q
  refine own_jp st69 ?_
  show own_Go p e below G (T69.setTop (mkF m 66 #[.val (.ref d), .val (.long q1), .second, .val (.long q3), .second, .unset] []))
  refine own_st (fun zw zk => XS.aloadN X69.here hx rfl (hb hby d4_66) rfl rfl zk) ?_
  refine own_st (fun zw zk => XS.aloadN X69.here hx rfl (hb hby d4_67) rfl rfl zk) ?_
  obtain ⟨T70, X70, e70, st70⟩ := getF X69 hx hZ hown (host := "") (Or.inl (hw _ (List.mem_of_getElem? (i := 26) rfl))) Via.refl rfl O69_3 (g := (mkF m 68 #[.val (.ref d), .val (.long q1), .second, .val (.long q3), .second, .unset] [(.ref d), (.ref d)])) rfl rfl (hb hby d4_68)
  refine own_st (fun zw zk => st70 zw zk) ?_
  obtain ⟨cq71, q71, q71'⟩ := O69_0.cell
  obtain ⟨_, _, ⟨T71, L71, k71, n71⟩, -, X71, ⟨Lc71, hQ71, l71, y71, z71⟩, st71⟩ := X70.privateBack hx (y := (⟨"com/example/headroom/headroom/SlidingLog$Log", "slot", "(I)I"⟩ : MethodName)) hown (mvT hZ (hw _ (List.mem_of_getElem? (i := 28) rfl))) (mvT hZ (hw _ (List.mem_of_getElem? (i := 29) rfl))) (own_selp hZ (hw _ (List.mem_of_getElem? (i := 3) rfl)) (hw _ (List.mem_of_getElem? (i := 30) rfl)) (hw _ (List.mem_of_getElem? (i := 29) rfl)) (by decide)) (Cond.privateMethod_at (mvP hZ (hw _ (List.mem_of_getElem? (i := 30) rfl)) (args := #[]))) (mvT hZ (hw _ (List.mem_of_getElem? (i := 31) rfl))) (by decide) (backOf (W := 0) (rm5 l Z a0 hw [] d (2 : Int32) tt69 (0 : Int32) (8 : Int32) [(.long w0), (.long w1), (.long w2), (.long w3), (.long (0 : Int64)), (.long (0 : Int64)), (.long (0 : Int64)), (.long (0 : Int64))] T69.heap n0 Z69 (O69_1) (O69_2) (O69_5) (rfl)) hZ (hw _ (List.mem_of_getElem? (i := 31) rfl)) (hw _ (List.mem_of_getElem? (i := 4) rfl)) (by decide) (by decide)) (g := (mkF m 71 #[.val (.ref d), .val (.long q1), .second, .val (.long q3), .second, .unset] [(.int (2 : Int32)), (.ref d)])) rfl (by rw [hml]; rfl) (Steps.refl _) (a := d) (by rw [e70]; exact q71) q71' (argsL := [(.int (2 : Int32))]) (rest := []) (lenOf pd_1 rfl) rfl (by show 2 * 0 + _ ≤ _; exact Nat.le_of_eq rfl) (hb hby d4_71) (fun _ _ => ⟨rfl, e70, (by decide : 1 + 0 ≤ _), (by decide : 8 + 0 ≤ _)⟩)
  dsimp only [Pt.U, Pt.locs, Pt.cells, Pt.slots] at X71 l71 y71 z71 st71 hQ71
  subst l71 y71 z71
  obtain ⟨rfl, N71q, e71⟩ := hQ71
  have N71 := Fr.app N69 N71q
  refine own_jp st71 ?_
  refine own_st (fun zw zk => XS.istore X71.here hx rfl (hb hby d4_74) rfl rfl zk) ?_
  show own_Go p e below G (T71.setTop (mkF m 76 #[.val (.ref d), .val (.long q1), .second, .val (.long q3), .second, .val (.int (4 : Int32))] []))
  refine own_st (fun zw zk => XS.aloadN X71.here hx rfl (hb hby d4_76) rfl rfl zk) ?_
  obtain ⟨T72, X72, e72, st72⟩ := getF X71 hx hZ hown (host := "") (Or.inl (hw _ (List.mem_of_getElem? (i := 17) rfl))) Via.refl e71 O69_1 (g := (mkF m 77 #[.val (.ref d), .val (.long q1), .second, .val (.long q3), .second, .val (.int (4 : Int32))] [(.ref d)])) rfl rfl (hb hby d4_77)
  refine own_st (fun zw zk => st72 zw zk) ?_
  refine own_st (fun zw zk => XS.iload X72.here hx rfl (hb hby d4_80) rfl zk) ?_
  refine own_st (fun zw zk => XS.lloadN X72.here hx rfl (hb hby d4_82) rfl zk) ?_
  obtain ⟨T73, h73, X73, e73, W73, V73, st73⟩ := own_jst X72 hx hZ e72 O69_5 (j := (4 : Int32)) (4) (by decide) (by decide) (Nat.le_of_ble_eq_true rfl) (g := (mkF m 83 #[.val (.ref d), .val (.long q1), .second, .val (.long q3), .second, .val (.int (4 : Int32))] [(.long q1), (.int (4 : Int32)), (.ref tt69)])) rfl rfl (hb hby d4_83)
  have Ott69L_73 : own_L Z h73 tt69 .long ([(.long w0), (.long w1), (.long w2), (.long w3), (.long q1), (.long (0 : Int64)), (.long (0 : Int64)), (.long (0 : Int64))]) := V73
  have N73 := Fr.snoc X73 N71 Gtt69
  refine own_st (fun zw zk => st73 zw zk) ?_
  have OdE_73 := O69_0.wr W73
  have F5_73 := F5_69.other W73 ne_t_tt69
  have Odentries_73 := O69_1.other W73 (Or.inl ne_d_tt69)
  have Odfirst_73 := O69_2.other W73 (Or.inl ne_d_tt69)
  have Odsize_73 := O69_3.other W73 (Or.inl ne_d_tt69)
  have Odadmitted_73 := O69_4.other W73 (Or.inl ne_d_tt69)
  have Z73 : n0 ≤ h73.size := Nat.le_trans Z69 (Keep.of_wr W73).1
  have Kp73 := Kp69.wr W73 (Or.inr Sztt69)
  refine own_st (fun zw zk => XS.aloadN X73.here hx rfl (hb hby d4_84) rfl rfl zk) ?_
  obtain ⟨T74, X74, e74, st74⟩ := getF X73 hx hZ hown (host := "") (Or.inl (hw _ (List.mem_of_getElem? (i := 17) rfl))) Via.refl e73 Odentries_73 (g := (mkF m 85 #[.val (.ref d), .val (.long q1), .second, .val (.long q3), .second, .val (.int (4 : Int32))] [(.ref d)])) rfl rfl (hb hby d4_85)
  refine own_st (fun zw zk => st74 zw zk) ?_
  refine own_st (fun zw zk => XS.iload X74.here hx rfl (hb hby d4_88) rfl zk) ?_
  show own_Go p e below G (T74.setTop (mkF m 90 #[.val (.ref d), .val (.long q1), .second, .val (.long q3), .second, .val (.int (4 : Int32))] [(.int (4 : Int32)), (.ref tt69)]))
  refine own_st (fun zw zk => XS.iconst X74.here hx rfl (hb hby d4_90) zk) ?_
  refine own_st (fun zw zk => XS.iadd X74.here hx rfl (hb hby d4_91) rfl zk) ?_
  refine own_st (fun zw zk => XS.lloadN X74.here hx rfl (hb hby d4_92) rfl zk) ?_
  obtain ⟨T75, h75, X75, e75, W75, V75, st75⟩ := own_jst X74 hx hZ e74 Ott69L_73 (j := (5 : Int32)) (5) (by decide) (by decide) (Nat.le_of_ble_eq_true rfl) (g := (mkF m 93 #[.val (.ref d), .val (.long q1), .second, .val (.long q3), .second, .val (.int (4 : Int32))] [(.long q3), (.int (5 : Int32)), (.ref tt69)])) rfl rfl (hb hby d4_93)
  have Ott69L_75 : own_L Z h75 tt69 .long ([(.long w0), (.long w1), (.long w2), (.long w3), (.long q1), (.long q3), (.long (0 : Int64)), (.long (0 : Int64))]) := V75
  have N75 := Fr.snoc X75 N73 Gtt69
  refine own_st (fun zw zk => st75 zw zk) ?_
  have OdE_75 := OdE_73.wr W75
  have F5_75 := F5_73.other W75 ne_t_tt69
  have Odentries_75 := Odentries_73.other W75 (Or.inl ne_d_tt69)
  have Odfirst_75 := Odfirst_73.other W75 (Or.inl ne_d_tt69)
  have Odsize_75 := Odsize_73.other W75 (Or.inl ne_d_tt69)
  have Odadmitted_75 := Odadmitted_73.other W75 (Or.inl ne_d_tt69)
  have Z75 : n0 ≤ h75.size := Nat.le_trans Z73 (Keep.of_wr W75).1
  have Kp75 := Kp73.wr W75 (Or.inr Sztt69)
  refine own_st (fun zw zk => XS.aloadN X75.here hx rfl (hb hby d4_94) rfl rfl zk) ?_
  refine own_st (fun zw zk => XS.dup X75.here hx rfl (hb hby d4_95) rfl rfl zk) ?_
  obtain ⟨T76, X76, e76, st76⟩ := getF X75 hx hZ hown (host := "") (Or.inl (hw _ (List.mem_of_getElem? (i := 26) rfl))) Via.refl e75 Odsize_75 (g := (mkF m 96 #[.val (.ref d), .val (.long q1), .second, .val (.long q3), .second, .val (.int (4 : Int32))] [(.ref d), (.ref d)])) rfl rfl (hb hby d4_96)
  refine own_st (fun zw zk => st76 zw zk) ?_
  refine own_st (fun zw zk => XS.iconst X76.here hx rfl (hb hby d4_99) zk) ?_
  show own_Go p e below G (T76.setTop (mkF m 100 #[.val (.ref d), .val (.long q1), .second, .val (.long q3), .second, .val (.int (4 : Int32))] [(.int (1 : Int32)), (.int (2 : Int32)), (.ref d)]))
  refine own_st (fun zw zk => XS.iadd X76.here hx rfl (hb hby d4_100) rfl zk) ?_
  obtain ⟨T77, h77, X77, e77, W77, st77⟩ := putF X76 hx hZ hown (host := "") (Or.inl (hw _ (List.mem_of_getElem? (i := 26) rfl))) Via.refl e76 Odsize_75 OdE_75 (Or.inl (hw _ (List.mem_of_getElem? (i := 27) rfl))) (hw _ (List.mem_of_getElem? (i := 3) rfl)) (ty := .int) (by decide) rfl rfl (g := (mkF m 101 #[.val (.ref d), .val (.long q1), .second, .val (.long q3), .second, .val (.int (4 : Int32))] [(.int (3 : Int32)), (.ref d)])) rfl rfl (hb hby d4_101)
  have Odsize_77 := Odsize_75.same W77
  have N77 := Fr.snoc X77 N75 ge_d
  refine own_st (fun zw zk => st77 zw zk) ?_
  have OdE_77 := OdE_75.wr W77
  have F5_77 := F5_75.other W77 (Ne.symm ne_d_t)
  have Odentries_77 := Odentries_75.other W77 (Or.inr (slot_ne (Or.inl (hw _ (List.mem_of_getElem? (i := 18) rfl))) (Or.inl (hw _ (List.mem_of_getElem? (i := 27) rfl))) (by decide) (t := (.array .long)) (t' := .int) (by decide) (by decide)))
  have Odfirst_77 := Odfirst_75.other W77 (Or.inr (slot_ne (Or.inl (hw _ (List.mem_of_getElem? (i := 33) rfl))) (Or.inl (hw _ (List.mem_of_getElem? (i := 27) rfl))) (by decide) (t := .int) (t' := .int) (by decide) (by decide)))
  have Odadmitted_77 := Odadmitted_75.other W77 (Or.inr (slot_ne (Or.inl (hw _ (List.mem_of_getElem? (i := 25) rfl))) (Or.inl (hw _ (List.mem_of_getElem? (i := 27) rfl))) (by decide) (t := .long) (t' := .int) (by decide) (by decide)))
  have Ott69L_77 := Ott69L_75.other W77 (Ne.symm ne_d_tt69)
  have Z77 : n0 ≤ h77.size := Nat.le_trans Z75 (Keep.of_wr W77).1
  have Kp77 := Kp75.wr W77 (Or.inl (List.mem_of_getElem? (i := 0) rfl))
  subst hG
  obtain ⟨fs, hr, hrun, hended, hW, hsame⟩ := X77.leave (v := none) (hlocks := Bd.notSynchronized) (fun _ => rfl)
  refine ⟨_, X77.returnOut hx Bd.returns (hb hby d4_104) hr, _, hrun, hended, _, _, rfl, ?_, ⟨_, rfl⟩, hW, hsame.mono (by decide) (by decide)⟩
  show Q_add_0_2_4 Z d q1 q3 t adm w0 w1 w2 w3 h0 n0 _ T77.heap _
  rw [e77]
  exact ⟨rfl, N77, tt69, Sztt69, Kp77, OdE_77, Odentries_77, Odfirst_77, Odsize_77, Odadmitted_77, Ott69L_77⟩
theorem ef_rm_latest_1_2_8 (m : MethodId) (d : Addr) : entryFrame m #[(.ref d)] 1 = mkF m 0 #[.val (.ref d)] [] := by first | (simp [entryFrame, mkF, argsToLocals, Value.category]; done) | rfl
def Q_latest_1_2_8 (Z : State) (d : Addr) (t : Addr) (adm : Int64) (w0 : Int64) (w1 : Int64) (w2 : Int64) (w3 : Int64) (w4 : Int64) (w5 : Int64) (w6 : Int64) (w7 : Int64) (h0 : Heap) (n0 : Nat) (rv : Option Value) (hq : Heap) (Lq : List Loc) : Prop := rv = some (.long w4) ∧ Fr n0 Lq ∧ hq = h0
set_option maxRecDepth 65536 in
set_option maxHeartbeats 40000000 in
theorem rm_latest_1_2_8 (l : Launch) (Z : State) (a0 : Array Value) (hw : ∀ d ∈ tables_1, d.before a0 Z = true) (ws : List Jvm.Cond) (d : Addr) (t : Addr) (adm : Int64) (w0 : Int64) (w1 : Int64) (w2 : Int64) (w3 : Int64) (w4 : Int64) (w5 : Int64) (w6 : Int64) (w7 : Int64) (h0 : Heap) (n0 : Nat) (Z0 : n0 ≤ h0.size) (F0_ : Exa Z h0 d "com/example/headroom/headroom/SlidingLog$Log") (F1_ : Fld Z h0 d "com/example/headroom/headroom/SlidingLog$Log" "entries" "[J" (.ref t)) (F2_ : Fld Z h0 d "com/example/headroom/headroom/SlidingLog$Log" "first" "I" (.int (1 : Int32))) (F3_ : Fld Z h0 d "com/example/headroom/headroom/SlidingLog$Log" "size" "I" (.int (2 : Int32))) (F4_ : Fld Z h0 d "com/example/headroom/headroom/SlidingLog$Log" "admitted" "J" (.long adm)) (F5_ : own_L Z h0 t .long ([(.long w0), (.long w1), (.long w2), (.long w3), (.long w4), (.long w5), (.long w6), (.long w7)])) :
    MetFree l (⟨"com/example/headroom/headroom/SlidingLog$Log", "latest", "()J"⟩ : MethodName) (head1 (Jvm.Cond.code (⟨"com/example/headroom/headroom/SlidingLog$Log", "latest", "()J"⟩ : MethodName) prog_48_method_3_code 1 (some .long) :: ws) ({ frames := 1, cells := 0, slots := 0, locals := 14 } : Room)) (fun za U => za = #[(.ref d)] ∧ Z.Warmed39 U.vm ∧ U.heap = h0) (fun _ _ _ _ _ => True) (fun _ U o U' => ∃ rv Lq, o = .returned rv ∧ Q_latest_1_2_8 Z d t adm w0 w1 w2 w3 w4 w5 w6 w7 h0 n0 rv U'.heap Lq ∧ FrameEnd U o U' Lq ({ frames := 1, cells := 0, slots := 0, locals := 14 } : Room).cells ({ frames := 1, cells := 0, slots := 0, locals := 14 } : Room).slots) := by
  refine MetFree.of_bodySF (plainFor_of_name pn_1) hisR ?_
  intro p e s m args below meth c s₁ Bd hml0 hP hK
  obtain ⟨rfl, hZ, hh⟩ := hP
  have hx := Bd.exec
  have hby := Bd.bytes
  have hml : c.maxLocals = 1 := hml0
  have hown : s.vm.findClass "com/example/headroom/headroom/SlidingLog$Log" = some m.cls := findClass_of_methodNamed Bd.named
  have hnm := (name_of_methodNamed Bd.named Bd.method).1
  have X0 : Stand p l e ({ frames := 1, cells := 0, slots := 0, locals := 14 } : Room) s m #[(.ref d)] below meth c s₁ [] 0 0 := Stand.of_body Bd
  have e0 : s₁.heap = h0 := by rw [← hh, Bd.state]; rfl
  have N0 := Fr.nil n0
  refine own_out (own_nm fun G hG => own_st (fun zt zk => castTop (ef_rm_latest_1_2_8 m d) zk) ?_)
  show own_Go p e below G (s₁.setTop (mkF m 0 #[.val (.ref d)] []))
  refine own_st (fun zw zk => XS.aloadN X0.here hx rfl (hb hby d6_0) rfl rfl zk) ?_
  obtain ⟨T78, X78, e78, st78⟩ := getF X0 hx hZ hown (host := "") (Or.inl (hw _ (List.mem_of_getElem? (i := 17) rfl))) Via.refl e0 F1_ (g := (mkF m 1 #[.val (.ref d)] [(.ref d)])) rfl rfl (hb hby d6_1)
  refine own_st (fun zw zk => st78 zw zk) ?_
  refine own_st (fun zw zk => XS.aloadN X78.here hx rfl (hb hby d6_4) rfl rfl zk) ?_
  refine own_st (fun zw zk => XS.aloadN X78.here hx rfl (hb hby d6_5) rfl rfl zk) ?_
  obtain ⟨T79, X79, e79, st79⟩ := getF X78 hx hZ hown (host := "") (Or.inl (hw _ (List.mem_of_getElem? (i := 26) rfl))) Via.refl e78 F3_ (g := (mkF m 6 #[.val (.ref d)] [(.ref d), (.ref d), (.ref t)])) rfl rfl (hb hby d6_6)
  refine own_st (fun zw zk => st79 zw zk) ?_
  refine own_st (fun zw zk => XS.iconst X79.here hx rfl (hb hby d6_9) zk) ?_
  refine own_st (fun zw zk => XS.isub X79.here hx rfl (hb hby d6_10) rfl zk) ?_
  obtain ⟨cq80, q80, q80'⟩ := F0_.cell
  obtain ⟨_, _, ⟨T80, L80, k80, n80⟩, -, X80, ⟨Lc80, hQ80, l80, y80, z80⟩, st80⟩ := X79.privateBack hx (y := (⟨"com/example/headroom/headroom/SlidingLog$Log", "slot", "(I)I"⟩ : MethodName)) hown (mvT hZ (hw _ (List.mem_of_getElem? (i := 28) rfl))) (mvT hZ (hw _ (List.mem_of_getElem? (i := 29) rfl))) (own_selp hZ (hw _ (List.mem_of_getElem? (i := 3) rfl)) (hw _ (List.mem_of_getElem? (i := 30) rfl)) (hw _ (List.mem_of_getElem? (i := 29) rfl)) (by decide)) (Cond.privateMethod_at (mvP hZ (hw _ (List.mem_of_getElem? (i := 30) rfl)) (args := #[]))) (mvT hZ (hw _ (List.mem_of_getElem? (i := 31) rfl))) (by decide) (backOf (W := 1) (rm5 l Z a0 hw [] d (1 : Int32) t (1 : Int32) (8 : Int32) [(.long w0), (.long w1), (.long w2), (.long w3), (.long w4), (.long w5), (.long w6), (.long w7)] h0 n0 Z0 (F1_) (F2_) (F5_) (rfl)) hZ (hw _ (List.mem_of_getElem? (i := 31) rfl)) (hw _ (List.mem_of_getElem? (i := 4) rfl)) (by decide) (by decide)) (g := (mkF m 11 #[.val (.ref d)] [(.int (1 : Int32)), (.ref d), (.ref t)])) rfl (by rw [hml]; rfl) (Steps.refl _) (a := d) (by rw [e79]; exact q80) q80' (argsL := [(.int (1 : Int32))]) (rest := [(.ref t)]) (lenOf pd_1 rfl) rfl (by show 2 * 0 + _ ≤ _; exact Nat.le_of_eq rfl) (hb hby d6_11) (fun _ _ => ⟨rfl, e79, (by decide : 0 + 0 ≤ _), (by decide : 0 + 0 ≤ _)⟩)
  dsimp only [Pt.U, Pt.locs, Pt.cells, Pt.slots] at X80 l80 y80 z80 st80 hQ80
  subst l80 y80 z80
  obtain ⟨rfl, N80q, e80⟩ := hQ80
  have N80 := Fr.app N0 N80q
  refine own_jp st80 ?_
  show own_Go p e below G (T80.setTop (mkF m 14 #[.val (.ref d)] [(.int (4 : Int32)), (.ref t)]))
  refine own_st (fun zw zk => own_jld X80 hx hZ e80 F5_ (j := (4 : Int32)) (v := (.long w4)) (i := 4) (by decide) (by decide) rfl (g := (mkF m 14 #[.val (.ref d)] [(.int (4 : Int32)), (.ref t)])) rfl rfl (hb hby d6_14) _ zk) ?_
  subst hG
  obtain ⟨fs, hr, hrun, hended, hW, hsame⟩ := X80.leave (v := some (.long w4)) (hlocks := Bd.notSynchronized) (fun h => by rw [Bd.returns] at h; cases h)
  refine ⟨_, own_retJ X80 hx Bd.returns (hb hby d6_15) hr, _, hrun, hended, _, _, rfl, ?_, ⟨_, rfl⟩, hW, hsame.mono (by decide) (by decide)⟩
  show Q_latest_1_2_8 Z d t adm w0 w1 w2 w3 w4 w5 w6 w7 h0 n0 _ T80.heap _
  rw [e80]
  exact ⟨rfl, N80, rfl⟩
theorem ef_rm_add_1_2_8 (m : MethodId) (d : Addr) (q1 : Int64) (q3 : Int64) : entryFrame m #[(.ref d), (.long q1), (.long q3)] 6 = mkF m 0 #[.val (.ref d), .val (.long q1), .second, .val (.long q3), .second, .unset] [] := by first | (simp [entryFrame, mkF, argsToLocals, Value.category]; done) | rfl
def Q_add_1_2_8 (Z : State) (d : Addr) (q1 : Int64) (q3 : Int64) (t : Addr) (adm : Int64) (w0 : Int64) (w1 : Int64) (w2 : Int64) (w3 : Int64) (w4 : Int64) (w5 : Int64) (w6 : Int64) (w7 : Int64) (h0 : Heap) (n0 : Nat) (rv : Option Value) (hq : Heap) (Lq : List Loc) : Prop := rv = none ∧ Fr n0 Lq ∧ Keep h0 hq [d, t] ∧ Exa Z hq d "com/example/headroom/headroom/SlidingLog$Log" ∧ Fld Z hq d "com/example/headroom/headroom/SlidingLog$Log" "entries" "[J" (.ref t) ∧ Fld Z hq d "com/example/headroom/headroom/SlidingLog$Log" "first" "I" (.int (1 : Int32)) ∧ Fld Z hq d "com/example/headroom/headroom/SlidingLog$Log" "size" "I" (.int (3 : Int32)) ∧ Fld Z hq d "com/example/headroom/headroom/SlidingLog$Log" "admitted" "J" (.long (adm + q3)) ∧ own_L Z hq t .long ([(.long w0), (.long w1), (.long w2), (.long w3), (.long w4), (.long w5), (.long q1), (.long q3)])
set_option maxRecDepth 65536 in
set_option maxHeartbeats 40000000 in
theorem rm_add_1_2_8 (l : Launch) (Z : State) (a0 : Array Value) (hw : ∀ d ∈ tables_1, d.before a0 Z = true) (ws : List Jvm.Cond) (d : Addr) (q1 : Int64) (q3 : Int64) (t : Addr) (adm : Int64) (w0 : Int64) (w1 : Int64) (w2 : Int64) (w3 : Int64) (w4 : Int64) (w5 : Int64) (w6 : Int64) (w7 : Int64) (h0 : Heap) (n0 : Nat) (Z0 : n0 ≤ h0.size) (F0_ : Exa Z h0 d "com/example/headroom/headroom/SlidingLog$Log") (F1_ : Fld Z h0 d "com/example/headroom/headroom/SlidingLog$Log" "entries" "[J" (.ref t)) (F2_ : Fld Z h0 d "com/example/headroom/headroom/SlidingLog$Log" "first" "I" (.int (1 : Int32))) (F3_ : Fld Z h0 d "com/example/headroom/headroom/SlidingLog$Log" "size" "I" (.int (2 : Int32))) (F4_ : Fld Z h0 d "com/example/headroom/headroom/SlidingLog$Log" "admitted" "J" (.long adm)) (F5_ : own_L Z h0 t .long ([(.long w0), (.long w1), (.long w2), (.long w3), (.long w4), (.long w5), (.long w6), (.long w7)])) (ge_d : n0 ≤ d) (ge_t : n0 ≤ t) (ne_d_t : d ≠ t) (hne : ¬ (w4 = q1)) :
    MetFree l (⟨"com/example/headroom/headroom/SlidingLog$Log", "add", "(JJ)V"⟩ : MethodName) (head1 (Jvm.Cond.code (⟨"com/example/headroom/headroom/SlidingLog$Log", "add", "(JJ)V"⟩ : MethodName) prog_48_method_6_code 6 none :: ws) ({ frames := 2, cells := 0, slots := 0, locals := 26 } : Room)) (fun za U => za = #[(.ref d), (.long q1), (.long q3)] ∧ Z.Warmed39 U.vm ∧ U.heap = h0) (fun _ _ _ _ _ => True) (fun _ U o U' => ∃ rv Lq, o = .returned rv ∧ Q_add_1_2_8 Z d q1 q3 t adm w0 w1 w2 w3 w4 w5 w6 w7 h0 n0 rv U'.heap Lq ∧ FrameEnd U o U' Lq ({ frames := 2, cells := 0, slots := 0, locals := 26 } : Room).cells ({ frames := 2, cells := 0, slots := 0, locals := 26 } : Room).slots) := by
  refine MetFree.of_bodySF (plainFor_of_name pn_1) hisR ?_
  intro p e s m args below meth c s₁ Bd hml0 hP hK
  obtain ⟨rfl, hZ, hh⟩ := hP
  have hx := Bd.exec
  have hby := Bd.bytes
  have hml : c.maxLocals = 6 := hml0
  have hown : s.vm.findClass "com/example/headroom/headroom/SlidingLog$Log" = some m.cls := findClass_of_methodNamed Bd.named
  have hnm := (name_of_methodNamed Bd.named Bd.method).1
  have X0 : Stand p l e ({ frames := 2, cells := 0, slots := 0, locals := 26 } : Room) s m #[(.ref d), (.long q1), (.long q3)] below meth c s₁ [] 0 0 := Stand.of_body Bd
  have e0 : s₁.heap = h0 := by rw [← hh, Bd.state]; rfl
  have N0 := Fr.nil n0
  refine own_out (own_nm fun G hG => own_st (fun zt zk => castTop (ef_rm_add_1_2_8 m d q1 q3) zk) ?_)
  show own_Go p e below G (s₁.setTop (mkF m 0 #[.val (.ref d), .val (.long q1), .second, .val (.long q3), .second, .unset] []))
  refine own_st (fun zw zk => XS.aloadN X0.here hx rfl (hb hby d4_0) rfl rfl zk) ?_
  refine own_st (fun zw zk => XS.dup X0.here hx rfl (hb hby d4_1) rfl rfl zk) ?_
  obtain ⟨T81, X81, e81, st81⟩ := getF X0 hx hZ hown (host := "") (Or.inl (hw _ (List.mem_of_getElem? (i := 24) rfl))) Via.refl e0 F4_ (g := (mkF m 2 #[.val (.ref d), .val (.long q1), .second, .val (.long q3), .second, .unset] [(.ref d), (.ref d)])) rfl rfl (hb hby d4_2)
  refine own_st (fun zw zk => st81 zw zk) ?_
  refine own_st (fun zw zk => XS.lloadN X81.here hx rfl (hb hby d4_5) rfl zk) ?_
  refine own_st (fun zw zk => XS.ladd X81.here hx rfl (hb hby d4_6) rfl zk) ?_
  obtain ⟨T82, h82, X82, e82, W82, st82⟩ := putF X81 hx hZ hown (host := "") (Or.inl (hw _ (List.mem_of_getElem? (i := 24) rfl))) Via.refl e81 F4_ F0_ (Or.inl (hw _ (List.mem_of_getElem? (i := 25) rfl))) (hw _ (List.mem_of_getElem? (i := 3) rfl)) (ty := .long) (by decide) rfl rfl (g := (mkF m 7 #[.val (.ref d), .val (.long q1), .second, .val (.long q3), .second, .unset] [(.long (adm + q3)), (.ref d)])) rfl rfl (hb hby d4_7)
  have F4_82 := F4_.same W82
  have N82 := Fr.snoc X82 N0 ge_d
  refine own_st (fun zw zk => st82 zw zk) ?_
  have F0_82 := F0_.wr W82
  have F1_82 := F1_.other W82 (Or.inr (slot_ne (Or.inl (hw _ (List.mem_of_getElem? (i := 18) rfl))) (Or.inl (hw _ (List.mem_of_getElem? (i := 25) rfl))) (by decide) (t := (.array .long)) (t' := .long) (by decide) (by decide)))
  have F2_82 := F2_.other W82 (Or.inr (slot_ne (Or.inl (hw _ (List.mem_of_getElem? (i := 33) rfl))) (Or.inl (hw _ (List.mem_of_getElem? (i := 25) rfl))) (by decide) (t := .int) (t' := .long) (by decide) (by decide)))
  have F3_82 := F3_.other W82 (Or.inr (slot_ne (Or.inl (hw _ (List.mem_of_getElem? (i := 27) rfl))) (Or.inl (hw _ (List.mem_of_getElem? (i := 25) rfl))) (by decide) (t := .int) (t' := .long) (by decide) (by decide)))
  have F5_82 := F5_.other W82 (Ne.symm ne_d_t)
  have Z82 : n0 ≤ h82.size := Nat.le_trans Z0 (Keep.of_wr W82).1
  have Kp82 := (Keep.refl h0 [d, t]).wr W82 (Or.inl (List.mem_of_getElem? (i := 0) rfl))
  refine own_st (fun zw zk => XS.aloadN X82.here hx rfl (hb hby d4_10) rfl rfl zk) ?_
  obtain ⟨T83, X83, e83, st83⟩ := getF X82 hx hZ hown (host := "") (Or.inl (hw _ (List.mem_of_getElem? (i := 26) rfl))) Via.refl e82 F3_82 (g := (mkF m 11 #[.val (.ref d), .val (.long q1), .second, .val (.long q3), .second, .unset] [(.ref d)])) rfl rfl (hb hby d4_11)
  refine own_st (fun zw zk => st83 zw zk) ?_
  show own_Go p e below G (T83.setTop (mkF m 14 #[.val (.ref d), .val (.long q1), .second, .val (.long q3), .second, .unset] [(.int (2 : Int32))]))
  refine own_st (fun zw zk => XS.ifNo X83.here hx rfl (hb hby d4_14) rfl ((if0 _ _).trans (tlt (by decide : (0 : Int32) < (2 : Int32))).2.2.2) zk) ?_
  refine own_st (fun zw zk => XS.aloadN X83.here hx rfl (hb hby d4_17) rfl rfl zk) ?_
  obtain ⟨cq84, kq84, q84a, q84b, q84c⟩ := isOf hZ e83 F0_82
  obtain ⟨_, _, ⟨T84, L84, k84, n84⟩, -, X84, ⟨Lc84, hQ84, l84, y84, z84⟩, st84⟩ := X83.virtualBack hx (y := (⟨"com/example/headroom/headroom/SlidingLog$Log", "latest", "()J"⟩ : MethodName)) (z := (⟨"com/example/headroom/headroom/SlidingLog$Log", "latest", "()J"⟩ : MethodName)) hown (mvT hZ (hw _ (List.mem_of_getElem? (i := 34) rfl))) (mvT hZ (hw _ (List.mem_of_getElem? (i := 35) rfl))) (notFace_of_selects (args := #[]) (mvT hZ (hw _ (List.mem_of_getElem? (i := 37) rfl)))) (mvT hZ (hw _ (List.mem_of_getElem? (i := 37) rfl))) (mvT hZ (hw _ (List.mem_of_getElem? (i := 36) rfl))) (by decide) (backOf (W := 0) (rm_latest_1_2_8 l Z a0 hw [] d t (adm + q3) w0 w1 w2 w3 w4 w5 w6 w7 h82 n0 Z82 (F0_82) (F1_82) (F2_82) (F3_82) (F4_82) (F5_82)) hZ (hw _ (List.mem_of_getElem? (i := 38) rfl)) (hw _ (List.mem_of_getElem? (i := 4) rfl)) (by decide) (by decide)) q84a q84c (g := (mkF m 18 #[.val (.ref d), .val (.long q1), .second, .val (.long q3), .second, .unset] [(.ref d)])) rfl (by rw [hml]; rfl) (Steps.refl _) (argsL := []) (rest := []) (lenOf pd_2 rfl) rfl (by show 2 * 0 + _ ≤ _; exact Nat.le_of_eq rfl) (hb hby d4_18) (fun _ _ => ⟨rfl, e83, (by decide : 0 + 0 ≤ _), (by decide : 0 + 0 ≤ _)⟩)
  dsimp only [Pt.U, Pt.locs, Pt.cells, Pt.slots] at X84 l84 y84 z84 st84 hQ84
  subst l84 y84 z84
  obtain ⟨rfl, N84q, e84⟩ := hQ84
  have N84 := Fr.app N82 N84q
  refine own_jp st84 ?_
  refine own_st (fun zw zk => XS.lloadN X84.here hx rfl (hb hby d4_21) rfl zk) ?_
  refine own_st (fun zw zk => XS.lcmp X84.here hx rfl (hb hby d4_22) rfl zk) ?_
  have hc23 : ¬ (w4 = q1) := hne
  refine own_st (fun zw zk => XS.ifYes X84.here hx rfl (pc0 := 23) (pc' := 48) rfl (hb hby d4_23) rfl ((if0 _ _).trans (feq (own_fle hc23)).2) (by decide) (by decide) zk) ?_
  refine own_st (fun zw zk => XS.aloadN X84.here hx rfl (hb hby d4_48) rfl rfl zk) ?_
  obtain ⟨T85, X85, e85, st85⟩ := getF X84 hx hZ hown (host := "") (Or.inl (hw _ (List.mem_of_getElem? (i := 26) rfl))) Via.refl e84 F3_82 (g := (mkF m 49 #[.val (.ref d), .val (.long q1), .second, .val (.long q3), .second, .unset] [(.ref d)])) rfl rfl (hb hby d4_49)
  refine own_st (fun zw zk => st85 zw zk) ?_
  show own_Go p e below G (T85.setTop (mkF m 52 #[.val (.ref d), .val (.long q1), .second, .val (.long q3), .second, .unset] [(.int (2 : Int32))]))
  refine own_st (fun zw zk => XS.aloadN X85.here hx rfl (hb hby d4_52) rfl rfl zk) ?_
  obtain ⟨T86, X86, e86, st86⟩ := getF X85 hx hZ hown (host := "") (Or.inl (hw _ (List.mem_of_getElem? (i := 17) rfl))) Via.refl e85 F1_82 (g := (mkF m 53 #[.val (.ref d), .val (.long q1), .second, .val (.long q3), .second, .unset] [(.ref d), (.int (2 : Int32))])) rfl rfl (hb hby d4_53)
  refine own_st (fun zw zk => st86 zw zk) ?_
  refine own_st (fun zw zk => own_len X86 hx hZ e86 F5_82 (z := (8 : Int32)) (rfl) (g := (mkF m 56 #[.val (.ref d), .val (.long q1), .second, .val (.long q3), .second, .unset] [(.ref t), (.int (2 : Int32))])) rfl rfl (hb hby d4_56) _ zk) ?_
  refine own_st (fun zw zk => XS.iconst X86.here hx rfl (hb hby d4_57) zk) ?_
  refine own_st (fun zw zk => XS.idiv X86.here hx rfl (hb hby d4_58) rfl (by decide) zk) ?_
  refine own_st (fun zw zk => XS.icmpYes X86.here hx rfl (pc0 := 59) (pc' := 66) rfl (hb hby d4_59) rfl (feq (by decide : ¬ ((2 : Int32) = (4 : Int32)))).2 (by decide) (by decide) zk) ?_
  refine own_st (fun zw zk => XS.aloadN X86.here hx rfl (hb hby d4_66) rfl rfl zk) ?_
  refine own_st (fun zw zk => XS.aloadN X86.here hx rfl (hb hby d4_67) rfl rfl zk) ?_
  show own_Go p e below G (T86.setTop (mkF m 68 #[.val (.ref d), .val (.long q1), .second, .val (.long q3), .second, .unset] [(.ref d), (.ref d)]))
  obtain ⟨T87, X87, e87, st87⟩ := getF X86 hx hZ hown (host := "") (Or.inl (hw _ (List.mem_of_getElem? (i := 26) rfl))) Via.refl e86 F3_82 (g := (mkF m 68 #[.val (.ref d), .val (.long q1), .second, .val (.long q3), .second, .unset] [(.ref d), (.ref d)])) rfl rfl (hb hby d4_68)
  refine own_st (fun zw zk => st87 zw zk) ?_
  obtain ⟨cq88, q88, q88'⟩ := F0_82.cell
  obtain ⟨_, _, ⟨T88, L88, k88, n88⟩, -, X88, ⟨Lc88, hQ88, l88, y88, z88⟩, st88⟩ := X87.privateBack hx (y := (⟨"com/example/headroom/headroom/SlidingLog$Log", "slot", "(I)I"⟩ : MethodName)) hown (mvT hZ (hw _ (List.mem_of_getElem? (i := 28) rfl))) (mvT hZ (hw _ (List.mem_of_getElem? (i := 29) rfl))) (own_selp hZ (hw _ (List.mem_of_getElem? (i := 3) rfl)) (hw _ (List.mem_of_getElem? (i := 30) rfl)) (hw _ (List.mem_of_getElem? (i := 29) rfl)) (by decide)) (Cond.privateMethod_at (mvP hZ (hw _ (List.mem_of_getElem? (i := 30) rfl)) (args := #[]))) (mvT hZ (hw _ (List.mem_of_getElem? (i := 31) rfl))) (by decide) (backOf (W := 0) (rm5 l Z a0 hw [] d (2 : Int32) t (1 : Int32) (8 : Int32) [(.long w0), (.long w1), (.long w2), (.long w3), (.long w4), (.long w5), (.long w6), (.long w7)] h82 n0 Z82 (F1_82) (F2_82) (F5_82) (rfl)) hZ (hw _ (List.mem_of_getElem? (i := 31) rfl)) (hw _ (List.mem_of_getElem? (i := 4) rfl)) (by decide) (by decide)) (g := (mkF m 71 #[.val (.ref d), .val (.long q1), .second, .val (.long q3), .second, .unset] [(.int (2 : Int32)), (.ref d)])) rfl (by rw [hml]; rfl) (Steps.refl _) (a := d) (by rw [e87]; exact q88) q88' (argsL := [(.int (2 : Int32))]) (rest := []) (lenOf pd_1 rfl) rfl (by show 2 * 0 + _ ≤ _; exact Nat.le_of_eq rfl) (hb hby d4_71) (fun _ _ => ⟨rfl, e87, (by decide : 0 + 0 ≤ _), (by decide : 0 + 0 ≤ _)⟩)
  dsimp only [Pt.U, Pt.locs, Pt.cells, Pt.slots] at X88 l88 y88 z88 st88 hQ88
  subst l88 y88 z88
  obtain ⟨rfl, N88q, e88⟩ := hQ88
  have N88 := Fr.app N84 N88q
  refine own_jp st88 ?_
  refine own_st (fun zw zk => XS.istore X88.here hx rfl (hb hby d4_74) rfl rfl zk) ?_
  show own_Go p e below G (T88.setTop (mkF m 76 #[.val (.ref d), .val (.long q1), .second, .val (.long q3), .second, .val (.int (6 : Int32))] []))
  refine own_st (fun zw zk => XS.aloadN X88.here hx rfl (hb hby d4_76) rfl rfl zk) ?_
  obtain ⟨T89, X89, e89, st89⟩ := getF X88 hx hZ hown (host := "") (Or.inl (hw _ (List.mem_of_getElem? (i := 17) rfl))) Via.refl e88 F1_82 (g := (mkF m 77 #[.val (.ref d), .val (.long q1), .second, .val (.long q3), .second, .val (.int (6 : Int32))] [(.ref d)])) rfl rfl (hb hby d4_77)
  refine own_st (fun zw zk => st89 zw zk) ?_
  refine own_st (fun zw zk => XS.iload X89.here hx rfl (hb hby d4_80) rfl zk) ?_
  refine own_st (fun zw zk => XS.lloadN X89.here hx rfl (hb hby d4_82) rfl zk) ?_
  obtain ⟨T90, h90, X90, e90, W90, V90, st90⟩ := own_jst X89 hx hZ e89 F5_82 (j := (6 : Int32)) (6) (by decide) (by decide) (Nat.le_of_ble_eq_true rfl) (g := (mkF m 83 #[.val (.ref d), .val (.long q1), .second, .val (.long q3), .second, .val (.int (6 : Int32))] [(.long q1), (.int (6 : Int32)), (.ref t)])) rfl rfl (hb hby d4_83)
  have F5_90 : own_L Z h90 t .long ([(.long w0), (.long w1), (.long w2), (.long w3), (.long w4), (.long w5), (.long q1), (.long w7)]) := V90
  have N90 := Fr.snoc X90 N88 ge_t
  refine own_st (fun zw zk => st90 zw zk) ?_
  have F0_90 := F0_82.wr W90
  have F1_90 := F1_82.other W90 (Or.inl ne_d_t)
  have F2_90 := F2_82.other W90 (Or.inl ne_d_t)
  have F3_90 := F3_82.other W90 (Or.inl ne_d_t)
  have F4_90 := F4_82.other W90 (Or.inl ne_d_t)
  have Z90 : n0 ≤ h90.size := Nat.le_trans Z82 (Keep.of_wr W90).1
  have Kp90 := Kp82.wr W90 (Or.inl (List.mem_of_getElem? (i := 1) rfl))
  refine own_st (fun zw zk => XS.aloadN X90.here hx rfl (hb hby d4_84) rfl rfl zk) ?_
  obtain ⟨T91, X91, e91, st91⟩ := getF X90 hx hZ hown (host := "") (Or.inl (hw _ (List.mem_of_getElem? (i := 17) rfl))) Via.refl e90 F1_90 (g := (mkF m 85 #[.val (.ref d), .val (.long q1), .second, .val (.long q3), .second, .val (.int (6 : Int32))] [(.ref d)])) rfl rfl (hb hby d4_85)
  refine own_st (fun zw zk => st91 zw zk) ?_
  refine own_st (fun zw zk => XS.iload X91.here hx rfl (hb hby d4_88) rfl zk) ?_
  show own_Go p e below G (T91.setTop (mkF m 90 #[.val (.ref d), .val (.long q1), .second, .val (.long q3), .second, .val (.int (6 : Int32))] [(.int (6 : Int32)), (.ref t)]))
  refine own_st (fun zw zk => XS.iconst X91.here hx rfl (hb hby d4_90) zk) ?_
  refine own_st (fun zw zk => XS.iadd X91.here hx rfl (hb hby d4_91) rfl zk) ?_
  refine own_st (fun zw zk => XS.lloadN X91.here hx rfl (hb hby d4_92) rfl zk) ?_
  obtain ⟨T92, h92, X92, e92, W92, V92, st92⟩ := own_jst X91 hx hZ e91 F5_90 (j := (7 : Int32)) (7) (by decide) (by decide) (Nat.le_of_ble_eq_true rfl) (g := (mkF m 93 #[.val (.ref d), .val (.long q1), .second, .val (.long q3), .second, .val (.int (6 : Int32))] [(.long q3), (.int (7 : Int32)), (.ref t)])) rfl rfl (hb hby d4_93)
  have F5_92 : own_L Z h92 t .long ([(.long w0), (.long w1), (.long w2), (.long w3), (.long w4), (.long w5), (.long q1), (.long q3)]) := V92
  have N92 := Fr.snoc X92 N90 ge_t
  refine own_st (fun zw zk => st92 zw zk) ?_
  have F0_92 := F0_90.wr W92
  have F1_92 := F1_90.other W92 (Or.inl ne_d_t)
  have F2_92 := F2_90.other W92 (Or.inl ne_d_t)
  have F3_92 := F3_90.other W92 (Or.inl ne_d_t)
  have F4_92 := F4_90.other W92 (Or.inl ne_d_t)
  have Z92 : n0 ≤ h92.size := Nat.le_trans Z90 (Keep.of_wr W92).1
  have Kp92 := Kp90.wr W92 (Or.inl (List.mem_of_getElem? (i := 1) rfl))
  refine own_st (fun zw zk => XS.aloadN X92.here hx rfl (hb hby d4_94) rfl rfl zk) ?_
  refine own_st (fun zw zk => XS.dup X92.here hx rfl (hb hby d4_95) rfl rfl zk) ?_
  obtain ⟨T93, X93, e93, st93⟩ := getF X92 hx hZ hown (host := "") (Or.inl (hw _ (List.mem_of_getElem? (i := 26) rfl))) Via.refl e92 F3_92 (g := (mkF m 96 #[.val (.ref d), .val (.long q1), .second, .val (.long q3), .second, .val (.int (6 : Int32))] [(.ref d), (.ref d)])) rfl rfl (hb hby d4_96)
  refine own_st (fun zw zk => st93 zw zk) ?_
  refine own_st (fun zw zk => XS.iconst X93.here hx rfl (hb hby d4_99) zk) ?_
  show own_Go p e below G (T93.setTop (mkF m 100 #[.val (.ref d), .val (.long q1), .second, .val (.long q3), .second, .val (.int (6 : Int32))] [(.int (1 : Int32)), (.int (2 : Int32)), (.ref d)]))
  refine own_st (fun zw zk => XS.iadd X93.here hx rfl (hb hby d4_100) rfl zk) ?_
  obtain ⟨T94, h94, X94, e94, W94, st94⟩ := putF X93 hx hZ hown (host := "") (Or.inl (hw _ (List.mem_of_getElem? (i := 26) rfl))) Via.refl e93 F3_92 F0_92 (Or.inl (hw _ (List.mem_of_getElem? (i := 27) rfl))) (hw _ (List.mem_of_getElem? (i := 3) rfl)) (ty := .int) (by decide) rfl rfl (g := (mkF m 101 #[.val (.ref d), .val (.long q1), .second, .val (.long q3), .second, .val (.int (6 : Int32))] [(.int (3 : Int32)), (.ref d)])) rfl rfl (hb hby d4_101)
  have F3_94 := F3_92.same W94
  have N94 := Fr.snoc X94 N92 ge_d
  refine own_st (fun zw zk => st94 zw zk) ?_
  have F0_94 := F0_92.wr W94
  have F1_94 := F1_92.other W94 (Or.inr (slot_ne (Or.inl (hw _ (List.mem_of_getElem? (i := 18) rfl))) (Or.inl (hw _ (List.mem_of_getElem? (i := 27) rfl))) (by decide) (t := (.array .long)) (t' := .int) (by decide) (by decide)))
  have F2_94 := F2_92.other W94 (Or.inr (slot_ne (Or.inl (hw _ (List.mem_of_getElem? (i := 33) rfl))) (Or.inl (hw _ (List.mem_of_getElem? (i := 27) rfl))) (by decide) (t := .int) (t' := .int) (by decide) (by decide)))
  have F4_94 := F4_92.other W94 (Or.inr (slot_ne (Or.inl (hw _ (List.mem_of_getElem? (i := 25) rfl))) (Or.inl (hw _ (List.mem_of_getElem? (i := 27) rfl))) (by decide) (t := .long) (t' := .int) (by decide) (by decide)))
  have F5_94 := F5_92.other W94 (Ne.symm ne_d_t)
  have Z94 : n0 ≤ h94.size := Nat.le_trans Z92 (Keep.of_wr W94).1
  have Kp94 := Kp92.wr W94 (Or.inl (List.mem_of_getElem? (i := 0) rfl))
  subst hG
  obtain ⟨fs, hr, hrun, hended, hW, hsame⟩ := X94.leave (v := none) (hlocks := Bd.notSynchronized) (fun _ => rfl)
  refine ⟨_, X94.returnOut hx Bd.returns (hb hby d4_104) hr, _, hrun, hended, _, _, rfl, ?_, ⟨_, rfl⟩, hW, hsame.mono (by decide) (by decide)⟩
  show Q_add_1_2_8 Z d q1 q3 t adm w0 w1 w2 w3 w4 w5 w6 w7 h0 n0 _ T94.heap _
  rw [e94]
  exact ⟨rfl, N94, Kp94, F0_94, F1_94, F2_94, F3_94, F4_94, F5_94⟩
theorem ef_rm_latest_1_3_8 (m : MethodId) (d : Addr) : entryFrame m #[(.ref d)] 1 = mkF m 0 #[.val (.ref d)] [] := by first | (simp [entryFrame, mkF, argsToLocals, Value.category]; done) | rfl
def Q_latest_1_3_8 (Z : State) (d : Addr) (t : Addr) (adm : Int64) (w0 : Int64) (w1 : Int64) (w2 : Int64) (w3 : Int64) (w4 : Int64) (w5 : Int64) (w6 : Int64) (w7 : Int64) (h0 : Heap) (n0 : Nat) (rv : Option Value) (hq : Heap) (Lq : List Loc) : Prop := rv = some (.long w6) ∧ Fr n0 Lq ∧ hq = h0
set_option maxRecDepth 65536 in
set_option maxHeartbeats 40000000 in
theorem rm_latest_1_3_8 (l : Launch) (Z : State) (a0 : Array Value) (hw : ∀ d ∈ tables_1, d.before a0 Z = true) (ws : List Jvm.Cond) (d : Addr) (t : Addr) (adm : Int64) (w0 : Int64) (w1 : Int64) (w2 : Int64) (w3 : Int64) (w4 : Int64) (w5 : Int64) (w6 : Int64) (w7 : Int64) (h0 : Heap) (n0 : Nat) (Z0 : n0 ≤ h0.size) (F0_ : Exa Z h0 d "com/example/headroom/headroom/SlidingLog$Log") (F1_ : Fld Z h0 d "com/example/headroom/headroom/SlidingLog$Log" "entries" "[J" (.ref t)) (F2_ : Fld Z h0 d "com/example/headroom/headroom/SlidingLog$Log" "first" "I" (.int (1 : Int32))) (F3_ : Fld Z h0 d "com/example/headroom/headroom/SlidingLog$Log" "size" "I" (.int (3 : Int32))) (F4_ : Fld Z h0 d "com/example/headroom/headroom/SlidingLog$Log" "admitted" "J" (.long adm)) (F5_ : own_L Z h0 t .long ([(.long w0), (.long w1), (.long w2), (.long w3), (.long w4), (.long w5), (.long w6), (.long w7)])) :
    MetFree l (⟨"com/example/headroom/headroom/SlidingLog$Log", "latest", "()J"⟩ : MethodName) (head1 (Jvm.Cond.code (⟨"com/example/headroom/headroom/SlidingLog$Log", "latest", "()J"⟩ : MethodName) prog_48_method_3_code 1 (some .long) :: ws) ({ frames := 1, cells := 0, slots := 0, locals := 14 } : Room)) (fun za U => za = #[(.ref d)] ∧ Z.Warmed39 U.vm ∧ U.heap = h0) (fun _ _ _ _ _ => True) (fun _ U o U' => ∃ rv Lq, o = .returned rv ∧ Q_latest_1_3_8 Z d t adm w0 w1 w2 w3 w4 w5 w6 w7 h0 n0 rv U'.heap Lq ∧ FrameEnd U o U' Lq ({ frames := 1, cells := 0, slots := 0, locals := 14 } : Room).cells ({ frames := 1, cells := 0, slots := 0, locals := 14 } : Room).slots) := by
  refine MetFree.of_bodySF (plainFor_of_name pn_1) hisR ?_
  intro p e s m args below meth c s₁ Bd hml0 hP hK
  obtain ⟨rfl, hZ, hh⟩ := hP
  have hx := Bd.exec
  have hby := Bd.bytes
  have hml : c.maxLocals = 1 := hml0
  have hown : s.vm.findClass "com/example/headroom/headroom/SlidingLog$Log" = some m.cls := findClass_of_methodNamed Bd.named
  have hnm := (name_of_methodNamed Bd.named Bd.method).1
  have X0 : Stand p l e ({ frames := 1, cells := 0, slots := 0, locals := 14 } : Room) s m #[(.ref d)] below meth c s₁ [] 0 0 := Stand.of_body Bd
  have e0 : s₁.heap = h0 := by rw [← hh, Bd.state]; rfl
  have N0 := Fr.nil n0
  refine own_out (own_nm fun G hG => own_st (fun zt zk => castTop (ef_rm_latest_1_3_8 m d) zk) ?_)
  show own_Go p e below G (s₁.setTop (mkF m 0 #[.val (.ref d)] []))
  refine own_st (fun zw zk => XS.aloadN X0.here hx rfl (hb hby d6_0) rfl rfl zk) ?_
  obtain ⟨T95, X95, e95, st95⟩ := getF X0 hx hZ hown (host := "") (Or.inl (hw _ (List.mem_of_getElem? (i := 17) rfl))) Via.refl e0 F1_ (g := (mkF m 1 #[.val (.ref d)] [(.ref d)])) rfl rfl (hb hby d6_1)
  refine own_st (fun zw zk => st95 zw zk) ?_
  refine own_st (fun zw zk => XS.aloadN X95.here hx rfl (hb hby d6_4) rfl rfl zk) ?_
  refine own_st (fun zw zk => XS.aloadN X95.here hx rfl (hb hby d6_5) rfl rfl zk) ?_
  obtain ⟨T96, X96, e96, st96⟩ := getF X95 hx hZ hown (host := "") (Or.inl (hw _ (List.mem_of_getElem? (i := 26) rfl))) Via.refl e95 F3_ (g := (mkF m 6 #[.val (.ref d)] [(.ref d), (.ref d), (.ref t)])) rfl rfl (hb hby d6_6)
  refine own_st (fun zw zk => st96 zw zk) ?_
  refine own_st (fun zw zk => XS.iconst X96.here hx rfl (hb hby d6_9) zk) ?_
  refine own_st (fun zw zk => XS.isub X96.here hx rfl (hb hby d6_10) rfl zk) ?_
  obtain ⟨cq97, q97, q97'⟩ := F0_.cell
  obtain ⟨_, _, ⟨T97, L97, k97, n97⟩, -, X97, ⟨Lc97, hQ97, l97, y97, z97⟩, st97⟩ := X96.privateBack hx (y := (⟨"com/example/headroom/headroom/SlidingLog$Log", "slot", "(I)I"⟩ : MethodName)) hown (mvT hZ (hw _ (List.mem_of_getElem? (i := 28) rfl))) (mvT hZ (hw _ (List.mem_of_getElem? (i := 29) rfl))) (own_selp hZ (hw _ (List.mem_of_getElem? (i := 3) rfl)) (hw _ (List.mem_of_getElem? (i := 30) rfl)) (hw _ (List.mem_of_getElem? (i := 29) rfl)) (by decide)) (Cond.privateMethod_at (mvP hZ (hw _ (List.mem_of_getElem? (i := 30) rfl)) (args := #[]))) (mvT hZ (hw _ (List.mem_of_getElem? (i := 31) rfl))) (by decide) (backOf (W := 1) (rm5 l Z a0 hw [] d (2 : Int32) t (1 : Int32) (8 : Int32) [(.long w0), (.long w1), (.long w2), (.long w3), (.long w4), (.long w5), (.long w6), (.long w7)] h0 n0 Z0 (F1_) (F2_) (F5_) (rfl)) hZ (hw _ (List.mem_of_getElem? (i := 31) rfl)) (hw _ (List.mem_of_getElem? (i := 4) rfl)) (by decide) (by decide)) (g := (mkF m 11 #[.val (.ref d)] [(.int (2 : Int32)), (.ref d), (.ref t)])) rfl (by rw [hml]; rfl) (Steps.refl _) (a := d) (by rw [e96]; exact q97) q97' (argsL := [(.int (2 : Int32))]) (rest := [(.ref t)]) (lenOf pd_1 rfl) rfl (by show 2 * 0 + _ ≤ _; exact Nat.le_of_eq rfl) (hb hby d6_11) (fun _ _ => ⟨rfl, e96, (by decide : 0 + 0 ≤ _), (by decide : 0 + 0 ≤ _)⟩)
  dsimp only [Pt.U, Pt.locs, Pt.cells, Pt.slots] at X97 l97 y97 z97 st97 hQ97
  subst l97 y97 z97
  obtain ⟨rfl, N97q, e97⟩ := hQ97
  have N97 := Fr.app N0 N97q
  refine own_jp st97 ?_
  show own_Go p e below G (T97.setTop (mkF m 14 #[.val (.ref d)] [(.int (6 : Int32)), (.ref t)]))
  refine own_st (fun zw zk => own_jld X97 hx hZ e97 F5_ (j := (6 : Int32)) (v := (.long w6)) (i := 6) (by decide) (by decide) rfl (g := (mkF m 14 #[.val (.ref d)] [(.int (6 : Int32)), (.ref t)])) rfl rfl (hb hby d6_14) _ zk) ?_
  subst hG
  obtain ⟨fs, hr, hrun, hended, hW, hsame⟩ := X97.leave (v := some (.long w6)) (hlocks := Bd.notSynchronized) (fun h => by rw [Bd.returns] at h; cases h)
  refine ⟨_, own_retJ X97 hx Bd.returns (hb hby d6_15) hr, _, hrun, hended, _, _, rfl, ?_, ⟨_, rfl⟩, hW, hsame.mono (by decide) (by decide)⟩
  show Q_latest_1_3_8 Z d t adm w0 w1 w2 w3 w4 w5 w6 w7 h0 n0 _ T97.heap _
  rw [e97]
  exact ⟨rfl, N97, rfl⟩
theorem ef_rm_add_1_3_8 (m : MethodId) (d : Addr) (q1 : Int64) (q3 : Int64) : entryFrame m #[(.ref d), (.long q1), (.long q3)] 6 = mkF m 0 #[.val (.ref d), .val (.long q1), .second, .val (.long q3), .second, .unset] [] := by first | (simp [entryFrame, mkF, argsToLocals, Value.category]; done) | rfl
def Q_add_1_3_8 (Z : State) (d : Addr) (q1 : Int64) (q3 : Int64) (t : Addr) (adm : Int64) (w0 : Int64) (w1 : Int64) (w2 : Int64) (w3 : Int64) (w4 : Int64) (w5 : Int64) (w6 : Int64) (w7 : Int64) (h0 : Heap) (n0 : Nat) (rv : Option Value) (hq : Heap) (Lq : List Loc) : Prop := rv = none ∧ Fr n0 Lq ∧ Keep h0 hq [d, t] ∧ Exa Z hq d "com/example/headroom/headroom/SlidingLog$Log" ∧ Fld Z hq d "com/example/headroom/headroom/SlidingLog$Log" "entries" "[J" (.ref t) ∧ Fld Z hq d "com/example/headroom/headroom/SlidingLog$Log" "first" "I" (.int (1 : Int32)) ∧ Fld Z hq d "com/example/headroom/headroom/SlidingLog$Log" "size" "I" (.int (4 : Int32)) ∧ Fld Z hq d "com/example/headroom/headroom/SlidingLog$Log" "admitted" "J" (.long (adm + q3)) ∧ own_L Z hq t .long ([(.long q1), (.long q3), (.long w2), (.long w3), (.long w4), (.long w5), (.long w6), (.long w7)])
set_option maxRecDepth 65536 in
set_option maxHeartbeats 40000000 in
theorem rm_add_1_3_8 (l : Launch) (Z : State) (a0 : Array Value) (hw : ∀ d ∈ tables_1, d.before a0 Z = true) (ws : List Jvm.Cond) (d : Addr) (q1 : Int64) (q3 : Int64) (t : Addr) (adm : Int64) (w0 : Int64) (w1 : Int64) (w2 : Int64) (w3 : Int64) (w4 : Int64) (w5 : Int64) (w6 : Int64) (w7 : Int64) (h0 : Heap) (n0 : Nat) (Z0 : n0 ≤ h0.size) (F0_ : Exa Z h0 d "com/example/headroom/headroom/SlidingLog$Log") (F1_ : Fld Z h0 d "com/example/headroom/headroom/SlidingLog$Log" "entries" "[J" (.ref t)) (F2_ : Fld Z h0 d "com/example/headroom/headroom/SlidingLog$Log" "first" "I" (.int (1 : Int32))) (F3_ : Fld Z h0 d "com/example/headroom/headroom/SlidingLog$Log" "size" "I" (.int (3 : Int32))) (F4_ : Fld Z h0 d "com/example/headroom/headroom/SlidingLog$Log" "admitted" "J" (.long adm)) (F5_ : own_L Z h0 t .long ([(.long w0), (.long w1), (.long w2), (.long w3), (.long w4), (.long w5), (.long w6), (.long w7)])) (ge_d : n0 ≤ d) (ge_t : n0 ≤ t) (ne_d_t : d ≠ t) (hne : ¬ (w6 = q1)) :
    MetFree l (⟨"com/example/headroom/headroom/SlidingLog$Log", "add", "(JJ)V"⟩ : MethodName) (head1 (Jvm.Cond.code (⟨"com/example/headroom/headroom/SlidingLog$Log", "add", "(JJ)V"⟩ : MethodName) prog_48_method_6_code 6 none :: ws) ({ frames := 2, cells := 0, slots := 0, locals := 26 } : Room)) (fun za U => za = #[(.ref d), (.long q1), (.long q3)] ∧ Z.Warmed39 U.vm ∧ U.heap = h0) (fun _ _ _ _ _ => True) (fun _ U o U' => ∃ rv Lq, o = .returned rv ∧ Q_add_1_3_8 Z d q1 q3 t adm w0 w1 w2 w3 w4 w5 w6 w7 h0 n0 rv U'.heap Lq ∧ FrameEnd U o U' Lq ({ frames := 2, cells := 0, slots := 0, locals := 26 } : Room).cells ({ frames := 2, cells := 0, slots := 0, locals := 26 } : Room).slots) := by
  refine MetFree.of_bodySF (plainFor_of_name pn_1) hisR ?_
  intro p e s m args below meth c s₁ Bd hml0 hP hK
  obtain ⟨rfl, hZ, hh⟩ := hP
  have hx := Bd.exec
  have hby := Bd.bytes
  have hml : c.maxLocals = 6 := hml0
  have hown : s.vm.findClass "com/example/headroom/headroom/SlidingLog$Log" = some m.cls := findClass_of_methodNamed Bd.named
  have hnm := (name_of_methodNamed Bd.named Bd.method).1
  have X0 : Stand p l e ({ frames := 2, cells := 0, slots := 0, locals := 26 } : Room) s m #[(.ref d), (.long q1), (.long q3)] below meth c s₁ [] 0 0 := Stand.of_body Bd
  have e0 : s₁.heap = h0 := by rw [← hh, Bd.state]; rfl
  have N0 := Fr.nil n0
  refine own_out (own_nm fun G hG => own_st (fun zt zk => castTop (ef_rm_add_1_3_8 m d q1 q3) zk) ?_)
  show own_Go p e below G (s₁.setTop (mkF m 0 #[.val (.ref d), .val (.long q1), .second, .val (.long q3), .second, .unset] []))
  refine own_st (fun zw zk => XS.aloadN X0.here hx rfl (hb hby d4_0) rfl rfl zk) ?_
  refine own_st (fun zw zk => XS.dup X0.here hx rfl (hb hby d4_1) rfl rfl zk) ?_
  obtain ⟨T98, X98, e98, st98⟩ := getF X0 hx hZ hown (host := "") (Or.inl (hw _ (List.mem_of_getElem? (i := 24) rfl))) Via.refl e0 F4_ (g := (mkF m 2 #[.val (.ref d), .val (.long q1), .second, .val (.long q3), .second, .unset] [(.ref d), (.ref d)])) rfl rfl (hb hby d4_2)
  refine own_st (fun zw zk => st98 zw zk) ?_
  refine own_st (fun zw zk => XS.lloadN X98.here hx rfl (hb hby d4_5) rfl zk) ?_
  refine own_st (fun zw zk => XS.ladd X98.here hx rfl (hb hby d4_6) rfl zk) ?_
  obtain ⟨T99, h99, X99, e99, W99, st99⟩ := putF X98 hx hZ hown (host := "") (Or.inl (hw _ (List.mem_of_getElem? (i := 24) rfl))) Via.refl e98 F4_ F0_ (Or.inl (hw _ (List.mem_of_getElem? (i := 25) rfl))) (hw _ (List.mem_of_getElem? (i := 3) rfl)) (ty := .long) (by decide) rfl rfl (g := (mkF m 7 #[.val (.ref d), .val (.long q1), .second, .val (.long q3), .second, .unset] [(.long (adm + q3)), (.ref d)])) rfl rfl (hb hby d4_7)
  have F4_99 := F4_.same W99
  have N99 := Fr.snoc X99 N0 ge_d
  refine own_st (fun zw zk => st99 zw zk) ?_
  have F0_99 := F0_.wr W99
  have F1_99 := F1_.other W99 (Or.inr (slot_ne (Or.inl (hw _ (List.mem_of_getElem? (i := 18) rfl))) (Or.inl (hw _ (List.mem_of_getElem? (i := 25) rfl))) (by decide) (t := (.array .long)) (t' := .long) (by decide) (by decide)))
  have F2_99 := F2_.other W99 (Or.inr (slot_ne (Or.inl (hw _ (List.mem_of_getElem? (i := 33) rfl))) (Or.inl (hw _ (List.mem_of_getElem? (i := 25) rfl))) (by decide) (t := .int) (t' := .long) (by decide) (by decide)))
  have F3_99 := F3_.other W99 (Or.inr (slot_ne (Or.inl (hw _ (List.mem_of_getElem? (i := 27) rfl))) (Or.inl (hw _ (List.mem_of_getElem? (i := 25) rfl))) (by decide) (t := .int) (t' := .long) (by decide) (by decide)))
  have F5_99 := F5_.other W99 (Ne.symm ne_d_t)
  have Z99 : n0 ≤ h99.size := Nat.le_trans Z0 (Keep.of_wr W99).1
  have Kp99 := (Keep.refl h0 [d, t]).wr W99 (Or.inl (List.mem_of_getElem? (i := 0) rfl))
  refine own_st (fun zw zk => XS.aloadN X99.here hx rfl (hb hby d4_10) rfl rfl zk) ?_
  obtain ⟨T100, X100, e100, st100⟩ := getF X99 hx hZ hown (host := "") (Or.inl (hw _ (List.mem_of_getElem? (i := 26) rfl))) Via.refl e99 F3_99 (g := (mkF m 11 #[.val (.ref d), .val (.long q1), .second, .val (.long q3), .second, .unset] [(.ref d)])) rfl rfl (hb hby d4_11)
  refine own_st (fun zw zk => st100 zw zk) ?_
  show own_Go p e below G (T100.setTop (mkF m 14 #[.val (.ref d), .val (.long q1), .second, .val (.long q3), .second, .unset] [(.int (3 : Int32))]))
  refine own_st (fun zw zk => XS.ifNo X100.here hx rfl (hb hby d4_14) rfl ((if0 _ _).trans (tlt (by decide : (0 : Int32) < (3 : Int32))).2.2.2) zk) ?_
  refine own_st (fun zw zk => XS.aloadN X100.here hx rfl (hb hby d4_17) rfl rfl zk) ?_
  obtain ⟨cq101, kq101, q101a, q101b, q101c⟩ := isOf hZ e100 F0_99
  obtain ⟨_, _, ⟨T101, L101, k101, n101⟩, -, X101, ⟨Lc101, hQ101, l101, y101, z101⟩, st101⟩ := X100.virtualBack hx (y := (⟨"com/example/headroom/headroom/SlidingLog$Log", "latest", "()J"⟩ : MethodName)) (z := (⟨"com/example/headroom/headroom/SlidingLog$Log", "latest", "()J"⟩ : MethodName)) hown (mvT hZ (hw _ (List.mem_of_getElem? (i := 34) rfl))) (mvT hZ (hw _ (List.mem_of_getElem? (i := 35) rfl))) (notFace_of_selects (args := #[]) (mvT hZ (hw _ (List.mem_of_getElem? (i := 37) rfl)))) (mvT hZ (hw _ (List.mem_of_getElem? (i := 37) rfl))) (mvT hZ (hw _ (List.mem_of_getElem? (i := 36) rfl))) (by decide) (backOf (W := 0) (rm_latest_1_3_8 l Z a0 hw [] d t (adm + q3) w0 w1 w2 w3 w4 w5 w6 w7 h99 n0 Z99 (F0_99) (F1_99) (F2_99) (F3_99) (F4_99) (F5_99)) hZ (hw _ (List.mem_of_getElem? (i := 38) rfl)) (hw _ (List.mem_of_getElem? (i := 4) rfl)) (by decide) (by decide)) q101a q101c (g := (mkF m 18 #[.val (.ref d), .val (.long q1), .second, .val (.long q3), .second, .unset] [(.ref d)])) rfl (by rw [hml]; rfl) (Steps.refl _) (argsL := []) (rest := []) (lenOf pd_2 rfl) rfl (by show 2 * 0 + _ ≤ _; exact Nat.le_of_eq rfl) (hb hby d4_18) (fun _ _ => ⟨rfl, e100, (by decide : 0 + 0 ≤ _), (by decide : 0 + 0 ≤ _)⟩)
  dsimp only [Pt.U, Pt.locs, Pt.cells, Pt.slots] at X101 l101 y101 z101 st101 hQ101
  subst l101 y101 z101
  obtain ⟨rfl, N101q, e101⟩ := hQ101
  have N101 := Fr.app N99 N101q
  refine own_jp st101 ?_
  refine own_st (fun zw zk => XS.lloadN X101.here hx rfl (hb hby d4_21) rfl zk) ?_
  refine own_st (fun zw zk => XS.lcmp X101.here hx rfl (hb hby d4_22) rfl zk) ?_
  have hc23 : ¬ (w6 = q1) := hne
  refine own_st (fun zw zk => XS.ifYes X101.here hx rfl (pc0 := 23) (pc' := 48) rfl (hb hby d4_23) rfl ((if0 _ _).trans (feq (own_fle hc23)).2) (by decide) (by decide) zk) ?_
  refine own_st (fun zw zk => XS.aloadN X101.here hx rfl (hb hby d4_48) rfl rfl zk) ?_
  obtain ⟨T102, X102, e102, st102⟩ := getF X101 hx hZ hown (host := "") (Or.inl (hw _ (List.mem_of_getElem? (i := 26) rfl))) Via.refl e101 F3_99 (g := (mkF m 49 #[.val (.ref d), .val (.long q1), .second, .val (.long q3), .second, .unset] [(.ref d)])) rfl rfl (hb hby d4_49)
  refine own_st (fun zw zk => st102 zw zk) ?_
  show own_Go p e below G (T102.setTop (mkF m 52 #[.val (.ref d), .val (.long q1), .second, .val (.long q3), .second, .unset] [(.int (3 : Int32))]))
  refine own_st (fun zw zk => XS.aloadN X102.here hx rfl (hb hby d4_52) rfl rfl zk) ?_
  obtain ⟨T103, X103, e103, st103⟩ := getF X102 hx hZ hown (host := "") (Or.inl (hw _ (List.mem_of_getElem? (i := 17) rfl))) Via.refl e102 F1_99 (g := (mkF m 53 #[.val (.ref d), .val (.long q1), .second, .val (.long q3), .second, .unset] [(.ref d), (.int (3 : Int32))])) rfl rfl (hb hby d4_53)
  refine own_st (fun zw zk => st103 zw zk) ?_
  refine own_st (fun zw zk => own_len X103 hx hZ e103 F5_99 (z := (8 : Int32)) (rfl) (g := (mkF m 56 #[.val (.ref d), .val (.long q1), .second, .val (.long q3), .second, .unset] [(.ref t), (.int (3 : Int32))])) rfl rfl (hb hby d4_56) _ zk) ?_
  refine own_st (fun zw zk => XS.iconst X103.here hx rfl (hb hby d4_57) zk) ?_
  refine own_st (fun zw zk => XS.idiv X103.here hx rfl (hb hby d4_58) rfl (by decide) zk) ?_
  refine own_st (fun zw zk => XS.icmpYes X103.here hx rfl (pc0 := 59) (pc' := 66) rfl (hb hby d4_59) rfl (feq (by decide : ¬ ((3 : Int32) = (4 : Int32)))).2 (by decide) (by decide) zk) ?_
  refine own_st (fun zw zk => XS.aloadN X103.here hx rfl (hb hby d4_66) rfl rfl zk) ?_
  refine own_st (fun zw zk => XS.aloadN X103.here hx rfl (hb hby d4_67) rfl rfl zk) ?_
  show own_Go p e below G (T103.setTop (mkF m 68 #[.val (.ref d), .val (.long q1), .second, .val (.long q3), .second, .unset] [(.ref d), (.ref d)]))
  obtain ⟨T104, X104, e104, st104⟩ := getF X103 hx hZ hown (host := "") (Or.inl (hw _ (List.mem_of_getElem? (i := 26) rfl))) Via.refl e103 F3_99 (g := (mkF m 68 #[.val (.ref d), .val (.long q1), .second, .val (.long q3), .second, .unset] [(.ref d), (.ref d)])) rfl rfl (hb hby d4_68)
  refine own_st (fun zw zk => st104 zw zk) ?_
  obtain ⟨cq105, q105, q105'⟩ := F0_99.cell
  obtain ⟨_, _, ⟨T105, L105, k105, n105⟩, -, X105, ⟨Lc105, hQ105, l105, y105, z105⟩, st105⟩ := X104.privateBack hx (y := (⟨"com/example/headroom/headroom/SlidingLog$Log", "slot", "(I)I"⟩ : MethodName)) hown (mvT hZ (hw _ (List.mem_of_getElem? (i := 28) rfl))) (mvT hZ (hw _ (List.mem_of_getElem? (i := 29) rfl))) (own_selp hZ (hw _ (List.mem_of_getElem? (i := 3) rfl)) (hw _ (List.mem_of_getElem? (i := 30) rfl)) (hw _ (List.mem_of_getElem? (i := 29) rfl)) (by decide)) (Cond.privateMethod_at (mvP hZ (hw _ (List.mem_of_getElem? (i := 30) rfl)) (args := #[]))) (mvT hZ (hw _ (List.mem_of_getElem? (i := 31) rfl))) (by decide) (backOf (W := 0) (rm5 l Z a0 hw [] d (3 : Int32) t (1 : Int32) (8 : Int32) [(.long w0), (.long w1), (.long w2), (.long w3), (.long w4), (.long w5), (.long w6), (.long w7)] h99 n0 Z99 (F1_99) (F2_99) (F5_99) (rfl)) hZ (hw _ (List.mem_of_getElem? (i := 31) rfl)) (hw _ (List.mem_of_getElem? (i := 4) rfl)) (by decide) (by decide)) (g := (mkF m 71 #[.val (.ref d), .val (.long q1), .second, .val (.long q3), .second, .unset] [(.int (3 : Int32)), (.ref d)])) rfl (by rw [hml]; rfl) (Steps.refl _) (a := d) (by rw [e104]; exact q105) q105' (argsL := [(.int (3 : Int32))]) (rest := []) (lenOf pd_1 rfl) rfl (by show 2 * 0 + _ ≤ _; exact Nat.le_of_eq rfl) (hb hby d4_71) (fun _ _ => ⟨rfl, e104, (by decide : 0 + 0 ≤ _), (by decide : 0 + 0 ≤ _)⟩)
  dsimp only [Pt.U, Pt.locs, Pt.cells, Pt.slots] at X105 l105 y105 z105 st105 hQ105
  subst l105 y105 z105
  obtain ⟨rfl, N105q, e105⟩ := hQ105
  have N105 := Fr.app N101 N105q
  refine own_jp st105 ?_
  refine own_st (fun zw zk => XS.istore X105.here hx rfl (hb hby d4_74) rfl rfl zk) ?_
  show own_Go p e below G (T105.setTop (mkF m 76 #[.val (.ref d), .val (.long q1), .second, .val (.long q3), .second, .val (.int (0 : Int32))] []))
  refine own_st (fun zw zk => XS.aloadN X105.here hx rfl (hb hby d4_76) rfl rfl zk) ?_
  obtain ⟨T106, X106, e106, st106⟩ := getF X105 hx hZ hown (host := "") (Or.inl (hw _ (List.mem_of_getElem? (i := 17) rfl))) Via.refl e105 F1_99 (g := (mkF m 77 #[.val (.ref d), .val (.long q1), .second, .val (.long q3), .second, .val (.int (0 : Int32))] [(.ref d)])) rfl rfl (hb hby d4_77)
  refine own_st (fun zw zk => st106 zw zk) ?_
  refine own_st (fun zw zk => XS.iload X106.here hx rfl (hb hby d4_80) rfl zk) ?_
  refine own_st (fun zw zk => XS.lloadN X106.here hx rfl (hb hby d4_82) rfl zk) ?_
  obtain ⟨T107, h107, X107, e107, W107, V107, st107⟩ := own_jst X106 hx hZ e106 F5_99 (j := (0 : Int32)) (0) (by decide) (by decide) (Nat.le_of_ble_eq_true rfl) (g := (mkF m 83 #[.val (.ref d), .val (.long q1), .second, .val (.long q3), .second, .val (.int (0 : Int32))] [(.long q1), (.int (0 : Int32)), (.ref t)])) rfl rfl (hb hby d4_83)
  have F5_107 : own_L Z h107 t .long ([(.long q1), (.long w1), (.long w2), (.long w3), (.long w4), (.long w5), (.long w6), (.long w7)]) := V107
  have N107 := Fr.snoc X107 N105 ge_t
  refine own_st (fun zw zk => st107 zw zk) ?_
  have F0_107 := F0_99.wr W107
  have F1_107 := F1_99.other W107 (Or.inl ne_d_t)
  have F2_107 := F2_99.other W107 (Or.inl ne_d_t)
  have F3_107 := F3_99.other W107 (Or.inl ne_d_t)
  have F4_107 := F4_99.other W107 (Or.inl ne_d_t)
  have Z107 : n0 ≤ h107.size := Nat.le_trans Z99 (Keep.of_wr W107).1
  have Kp107 := Kp99.wr W107 (Or.inl (List.mem_of_getElem? (i := 1) rfl))
  refine own_st (fun zw zk => XS.aloadN X107.here hx rfl (hb hby d4_84) rfl rfl zk) ?_
  obtain ⟨T108, X108, e108, st108⟩ := getF X107 hx hZ hown (host := "") (Or.inl (hw _ (List.mem_of_getElem? (i := 17) rfl))) Via.refl e107 F1_107 (g := (mkF m 85 #[.val (.ref d), .val (.long q1), .second, .val (.long q3), .second, .val (.int (0 : Int32))] [(.ref d)])) rfl rfl (hb hby d4_85)
  refine own_st (fun zw zk => st108 zw zk) ?_
  refine own_st (fun zw zk => XS.iload X108.here hx rfl (hb hby d4_88) rfl zk) ?_
  show own_Go p e below G (T108.setTop (mkF m 90 #[.val (.ref d), .val (.long q1), .second, .val (.long q3), .second, .val (.int (0 : Int32))] [(.int (0 : Int32)), (.ref t)]))
  refine own_st (fun zw zk => XS.iconst X108.here hx rfl (hb hby d4_90) zk) ?_
  refine own_st (fun zw zk => XS.iadd X108.here hx rfl (hb hby d4_91) rfl zk) ?_
  refine own_st (fun zw zk => XS.lloadN X108.here hx rfl (hb hby d4_92) rfl zk) ?_
  obtain ⟨T109, h109, X109, e109, W109, V109, st109⟩ := own_jst X108 hx hZ e108 F5_107 (j := (1 : Int32)) (1) (by decide) (by decide) (Nat.le_of_ble_eq_true rfl) (g := (mkF m 93 #[.val (.ref d), .val (.long q1), .second, .val (.long q3), .second, .val (.int (0 : Int32))] [(.long q3), (.int (1 : Int32)), (.ref t)])) rfl rfl (hb hby d4_93)
  have F5_109 : own_L Z h109 t .long ([(.long q1), (.long q3), (.long w2), (.long w3), (.long w4), (.long w5), (.long w6), (.long w7)]) := V109
  have N109 := Fr.snoc X109 N107 ge_t
  refine own_st (fun zw zk => st109 zw zk) ?_
  have F0_109 := F0_107.wr W109
  have F1_109 := F1_107.other W109 (Or.inl ne_d_t)
  have F2_109 := F2_107.other W109 (Or.inl ne_d_t)
  have F3_109 := F3_107.other W109 (Or.inl ne_d_t)
  have F4_109 := F4_107.other W109 (Or.inl ne_d_t)
  have Z109 : n0 ≤ h109.size := Nat.le_trans Z107 (Keep.of_wr W109).1
  have Kp109 := Kp107.wr W109 (Or.inl (List.mem_of_getElem? (i := 1) rfl))
  refine own_st (fun zw zk => XS.aloadN X109.here hx rfl (hb hby d4_94) rfl rfl zk) ?_
  refine own_st (fun zw zk => XS.dup X109.here hx rfl (hb hby d4_95) rfl rfl zk) ?_
  obtain ⟨T110, X110, e110, st110⟩ := getF X109 hx hZ hown (host := "") (Or.inl (hw _ (List.mem_of_getElem? (i := 26) rfl))) Via.refl e109 F3_109 (g := (mkF m 96 #[.val (.ref d), .val (.long q1), .second, .val (.long q3), .second, .val (.int (0 : Int32))] [(.ref d), (.ref d)])) rfl rfl (hb hby d4_96)
  refine own_st (fun zw zk => st110 zw zk) ?_
  refine own_st (fun zw zk => XS.iconst X110.here hx rfl (hb hby d4_99) zk) ?_
  show own_Go p e below G (T110.setTop (mkF m 100 #[.val (.ref d), .val (.long q1), .second, .val (.long q3), .second, .val (.int (0 : Int32))] [(.int (1 : Int32)), (.int (3 : Int32)), (.ref d)]))
  refine own_st (fun zw zk => XS.iadd X110.here hx rfl (hb hby d4_100) rfl zk) ?_
  obtain ⟨T111, h111, X111, e111, W111, st111⟩ := putF X110 hx hZ hown (host := "") (Or.inl (hw _ (List.mem_of_getElem? (i := 26) rfl))) Via.refl e110 F3_109 F0_109 (Or.inl (hw _ (List.mem_of_getElem? (i := 27) rfl))) (hw _ (List.mem_of_getElem? (i := 3) rfl)) (ty := .int) (by decide) rfl rfl (g := (mkF m 101 #[.val (.ref d), .val (.long q1), .second, .val (.long q3), .second, .val (.int (0 : Int32))] [(.int (4 : Int32)), (.ref d)])) rfl rfl (hb hby d4_101)
  have F3_111 := F3_109.same W111
  have N111 := Fr.snoc X111 N109 ge_d
  refine own_st (fun zw zk => st111 zw zk) ?_
  have F0_111 := F0_109.wr W111
  have F1_111 := F1_109.other W111 (Or.inr (slot_ne (Or.inl (hw _ (List.mem_of_getElem? (i := 18) rfl))) (Or.inl (hw _ (List.mem_of_getElem? (i := 27) rfl))) (by decide) (t := (.array .long)) (t' := .int) (by decide) (by decide)))
  have F2_111 := F2_109.other W111 (Or.inr (slot_ne (Or.inl (hw _ (List.mem_of_getElem? (i := 33) rfl))) (Or.inl (hw _ (List.mem_of_getElem? (i := 27) rfl))) (by decide) (t := .int) (t' := .int) (by decide) (by decide)))
  have F4_111 := F4_109.other W111 (Or.inr (slot_ne (Or.inl (hw _ (List.mem_of_getElem? (i := 25) rfl))) (Or.inl (hw _ (List.mem_of_getElem? (i := 27) rfl))) (by decide) (t := .long) (t' := .int) (by decide) (by decide)))
  have F5_111 := F5_109.other W111 (Ne.symm ne_d_t)
  have Z111 : n0 ≤ h111.size := Nat.le_trans Z109 (Keep.of_wr W111).1
  have Kp111 := Kp109.wr W111 (Or.inl (List.mem_of_getElem? (i := 0) rfl))
  subst hG
  obtain ⟨fs, hr, hrun, hended, hW, hsame⟩ := X111.leave (v := none) (hlocks := Bd.notSynchronized) (fun _ => rfl)
  refine ⟨_, X111.returnOut hx Bd.returns (hb hby d4_104) hr, _, hrun, hended, _, _, rfl, ?_, ⟨_, rfl⟩, hW, hsame.mono (by decide) (by decide)⟩
  show Q_add_1_3_8 Z d q1 q3 t adm w0 w1 w2 w3 w4 w5 w6 w7 h0 n0 _ T111.heap _
  rw [e111]
  exact ⟨rfl, N111, Kp111, F0_111, F1_111, F2_111, F3_111, F4_111, F5_111⟩
theorem d8_0 : decode prog_48_method_4_code 0 = .ok (.aload_n 0, 1) := by decide +kernel
theorem d8_1 : decode prog_48_method_4_code 1 = .ok (.getfield 17, 3) := by decide +kernel
theorem d8_4 : decode prog_48_method_4_code 4 = .ok (.ifCond .le 72, 3) := by decide +kernel
theorem d8_7 : decode prog_48_method_4_code 7 = .ok (.aload_n 0, 1) := by decide +kernel
theorem d8_8 : decode prog_48_method_4_code 8 = .ok (.getfield 7, 3) := by decide +kernel
theorem d8_11 : decode prog_48_method_4_code 11 = .ok (.aload_n 0, 1) := by decide +kernel
theorem d8_12 : decode prog_48_method_4_code 12 = .ok (.iconst 0, 1) := by decide +kernel
theorem d8_13 : decode prog_48_method_4_code 13 = .ok (.invokevirtual 20, 3) := by decide +kernel
theorem d8_16 : decode prog_48_method_4_code 16 = .ok (.laload, 1) := by decide +kernel
theorem d8_17 : decode prog_48_method_4_code 17 = .ok (.lload_n 1, 1) := by decide +kernel
theorem d8_18 : decode prog_48_method_4_code 18 = .ok (.lcmp, 1) := by decide +kernel
theorem d8_19 : decode prog_48_method_4_code 19 = .ok (.ifCond .gt 57, 3) := by decide +kernel
theorem d8_22 : decode prog_48_method_4_code 22 = .ok (.aload_n 0, 1) := by decide +kernel
theorem d8_23 : decode prog_48_method_4_code 23 = .ok (.dup, 1) := by decide +kernel
theorem d8_24 : decode prog_48_method_4_code 24 = .ok (.getfield 24, 3) := by decide +kernel
theorem d8_27 : decode prog_48_method_4_code 27 = .ok (.aload_n 0, 1) := by decide +kernel
theorem d8_28 : decode prog_48_method_4_code 28 = .ok (.getfield 7, 3) := by decide +kernel
theorem d8_31 : decode prog_48_method_4_code 31 = .ok (.aload_n 0, 1) := by decide +kernel
theorem d8_32 : decode prog_48_method_4_code 32 = .ok (.iconst 0, 1) := by decide +kernel
theorem d8_33 : decode prog_48_method_4_code 33 = .ok (.invokevirtual 20, 3) := by decide +kernel
theorem d8_36 : decode prog_48_method_4_code 36 = .ok (.iconst 1, 1) := by decide +kernel
theorem d8_37 : decode prog_48_method_4_code 37 = .ok (.iadd, 1) := by decide +kernel
theorem d8_38 : decode prog_48_method_4_code 38 = .ok (.laload, 1) := by decide +kernel
theorem d8_39 : decode prog_48_method_4_code 39 = .ok (.lsub, 1) := by decide +kernel
theorem d8_40 : decode prog_48_method_4_code 40 = .ok (.putfield 24, 3) := by decide +kernel
theorem d8_43 : decode prog_48_method_4_code 43 = .ok (.aload_n 0, 1) := by decide +kernel
theorem d8_44 : decode prog_48_method_4_code 44 = .ok (.aload_n 0, 1) := by decide +kernel
theorem d8_45 : decode prog_48_method_4_code 45 = .ok (.getfield 13, 3) := by decide +kernel
theorem d8_48 : decode prog_48_method_4_code 48 = .ok (.iconst 1, 1) := by decide +kernel
theorem d8_49 : decode prog_48_method_4_code 49 = .ok (.iadd, 1) := by decide +kernel
theorem d8_50 : decode prog_48_method_4_code 50 = .ok (.aload_n 0, 1) := by decide +kernel
theorem d8_51 : decode prog_48_method_4_code 51 = .ok (.getfield 7, 3) := by decide +kernel
theorem d8_54 : decode prog_48_method_4_code 54 = .ok (.arraylength, 1) := by decide +kernel
theorem d8_55 : decode prog_48_method_4_code 55 = .ok (.iconst 2, 1) := by decide +kernel
theorem d8_56 : decode prog_48_method_4_code 56 = .ok (.idiv, 1) := by decide +kernel
theorem d8_57 : decode prog_48_method_4_code 57 = .ok (.iconst 1, 1) := by decide +kernel
theorem d8_58 : decode prog_48_method_4_code 58 = .ok (.isub, 1) := by decide +kernel
theorem d8_59 : decode prog_48_method_4_code 59 = .ok (.iand, 1) := by decide +kernel
theorem d8_60 : decode prog_48_method_4_code 60 = .ok (.putfield 13, 3) := by decide +kernel
theorem d8_63 : decode prog_48_method_4_code 63 = .ok (.aload_n 0, 1) := by decide +kernel
theorem d8_64 : decode prog_48_method_4_code 64 = .ok (.dup, 1) := by decide +kernel
theorem d8_65 : decode prog_48_method_4_code 65 = .ok (.getfield 17, 3) := by decide +kernel
theorem d8_68 : decode prog_48_method_4_code 68 = .ok (.iconst 1, 1) := by decide +kernel
theorem d8_69 : decode prog_48_method_4_code 69 = .ok (.isub, 1) := by decide +kernel
theorem d8_70 : decode prog_48_method_4_code 70 = .ok (.putfield 17, 3) := by decide +kernel
theorem d8_73 : decode prog_48_method_4_code 73 = .ok (.goto (-73), 3) := by decide +kernel
theorem d8_76 : decode prog_48_method_4_code 76 = .ok (.return_, 1) := by decide +kernel
theorem ef_rm_forgetUpTo_0_3_8_1 (m : MethodId) (d : Addr) (q1 : Int64) : entryFrame m #[(.ref d), (.long q1)] 3 = mkF m 0 #[.val (.ref d), .val (.long q1), .second] [] := by first | (simp [entryFrame, mkF, argsToLocals, Value.category]; done) | rfl
def Q_forgetUpTo_0_3_8_1 (Z : State) (d : Addr) (q1 : Int64) (t : Addr) (adm : Int64) (w0 : Int64) (w1 : Int64) (w2 : Int64) (w3 : Int64) (w4 : Int64) (w5 : Int64) (w6 : Int64) (w7 : Int64) (h0 : Heap) (n0 : Nat) (rv : Option Value) (hq : Heap) (Lq : List Loc) : Prop := rv = none ∧ Fr n0 Lq ∧ Keep h0 hq [d] ∧ Exa Z hq d "com/example/headroom/headroom/SlidingLog$Log" ∧ Fld Z hq d "com/example/headroom/headroom/SlidingLog$Log" "entries" "[J" (.ref t) ∧ Fld Z hq d "com/example/headroom/headroom/SlidingLog$Log" "first" "I" (.int (1 : Int32)) ∧ Fld Z hq d "com/example/headroom/headroom/SlidingLog$Log" "size" "I" (.int (2 : Int32)) ∧ Fld Z hq d "com/example/headroom/headroom/SlidingLog$Log" "admitted" "J" (.long (adm - w1))
set_option maxRecDepth 65536 in
set_option maxHeartbeats 40000000 in
theorem rm_forgetUpTo_0_3_8_1 (l : Launch) (Z : State) (a0 : Array Value) (hw : ∀ d ∈ tables_1, d.before a0 Z = true) (ws : List Jvm.Cond) (d : Addr) (q1 : Int64) (t : Addr) (adm : Int64) (w0 : Int64) (w1 : Int64) (w2 : Int64) (w3 : Int64) (w4 : Int64) (w5 : Int64) (w6 : Int64) (w7 : Int64) (h0 : Heap) (n0 : Nat) (Z0 : n0 ≤ h0.size) (F0_ : Exa Z h0 d "com/example/headroom/headroom/SlidingLog$Log") (F1_ : Fld Z h0 d "com/example/headroom/headroom/SlidingLog$Log" "entries" "[J" (.ref t)) (F2_ : Fld Z h0 d "com/example/headroom/headroom/SlidingLog$Log" "first" "I" (.int (0 : Int32))) (F3_ : Fld Z h0 d "com/example/headroom/headroom/SlidingLog$Log" "size" "I" (.int (3 : Int32))) (F4_ : Fld Z h0 d "com/example/headroom/headroom/SlidingLog$Log" "admitted" "J" (.long adm)) (F5_ : own_L Z h0 t .long ([(.long w0), (.long w1), (.long w2), (.long w3), (.long w4), (.long w5), (.long w6), (.long w7)])) (ge_d : n0 ≤ d) (ne_d_t : d ≠ t) (hf0 : ¬ (q1 < w0)) (hf1 : q1 < w2) :
    MetFree l (⟨"com/example/headroom/headroom/SlidingLog$Log", "forgetUpTo", "(J)V"⟩ : MethodName) (head1 (Jvm.Cond.code (⟨"com/example/headroom/headroom/SlidingLog$Log", "forgetUpTo", "(J)V"⟩ : MethodName) prog_48_method_4_code 3 none :: ws) ({ frames := 1, cells := 0, slots := 0, locals := 17 } : Room)) (fun za U => za = #[(.ref d), (.long q1)] ∧ Z.Warmed39 U.vm ∧ U.heap = h0) (fun _ _ _ _ _ => True) (fun _ U o U' => ∃ rv Lq, o = .returned rv ∧ Q_forgetUpTo_0_3_8_1 Z d q1 t adm w0 w1 w2 w3 w4 w5 w6 w7 h0 n0 rv U'.heap Lq ∧ FrameEnd U o U' Lq ({ frames := 1, cells := 0, slots := 0, locals := 17 } : Room).cells ({ frames := 1, cells := 0, slots := 0, locals := 17 } : Room).slots) := by
  refine MetFree.of_bodySF (plainFor_of_name pn_1) hisR ?_
  intro p e s m args below meth c s₁ Bd hml0 hP hK
  obtain ⟨rfl, hZ, hh⟩ := hP
  have hx := Bd.exec
  have hby := Bd.bytes
  have hml : c.maxLocals = 3 := hml0
  have hown : s.vm.findClass "com/example/headroom/headroom/SlidingLog$Log" = some m.cls := findClass_of_methodNamed Bd.named
  have hnm := (name_of_methodNamed Bd.named Bd.method).1
  have X0 : Stand p l e ({ frames := 1, cells := 0, slots := 0, locals := 17 } : Room) s m #[(.ref d), (.long q1)] below meth c s₁ [] 0 0 := Stand.of_body Bd
  have e0 : s₁.heap = h0 := by rw [← hh, Bd.state]; rfl
  have N0 := Fr.nil n0
  refine own_out (own_nm fun G hG => own_st (fun zt zk => castTop (ef_rm_forgetUpTo_0_3_8_1 m d q1) zk) ?_)
  show own_Go p e below G (s₁.setTop (mkF m 0 #[.val (.ref d), .val (.long q1), .second] []))
  refine own_st (fun zw zk => XS.aloadN X0.here hx rfl (hb hby d8_0) rfl rfl zk) ?_
  obtain ⟨T112, X112, e112, st112⟩ := getF X0 hx hZ hown (host := "") (Or.inl (hw _ (List.mem_of_getElem? (i := 26) rfl))) Via.refl e0 F3_ (g := (mkF m 1 #[.val (.ref d), .val (.long q1), .second] [(.ref d)])) rfl rfl (hb hby d8_1)
  refine own_st (fun zw zk => st112 zw zk) ?_
  refine own_st (fun zw zk => XS.ifNo X112.here hx rfl (hb hby d8_4) rfl ((if0 _ _).trans (tlt (by decide : (0 : Int32) < (3 : Int32))).2.2.2) zk) ?_
  refine own_st (fun zw zk => XS.aloadN X112.here hx rfl (hb hby d8_7) rfl rfl zk) ?_
  obtain ⟨T113, X113, e113, st113⟩ := getF X112 hx hZ hown (host := "") (Or.inl (hw _ (List.mem_of_getElem? (i := 17) rfl))) Via.refl e112 F1_ (g := (mkF m 8 #[.val (.ref d), .val (.long q1), .second] [(.ref d)])) rfl rfl (hb hby d8_8)
  refine own_st (fun zw zk => st113 zw zk) ?_
  refine own_st (fun zw zk => XS.aloadN X113.here hx rfl (hb hby d8_11) rfl rfl zk) ?_
  refine own_st (fun zw zk => XS.iconst X113.here hx rfl (hb hby d8_12) zk) ?_
  obtain ⟨cq114, q114, q114'⟩ := F0_.cell
  obtain ⟨_, _, ⟨T114, L114, k114, n114⟩, -, X114, ⟨Lc114, hQ114, l114, y114, z114⟩, st114⟩ := X113.privateBack hx (y := (⟨"com/example/headroom/headroom/SlidingLog$Log", "slot", "(I)I"⟩ : MethodName)) hown (mvT hZ (hw _ (List.mem_of_getElem? (i := 28) rfl))) (mvT hZ (hw _ (List.mem_of_getElem? (i := 29) rfl))) (own_selp hZ (hw _ (List.mem_of_getElem? (i := 3) rfl)) (hw _ (List.mem_of_getElem? (i := 30) rfl)) (hw _ (List.mem_of_getElem? (i := 29) rfl)) (by decide)) (Cond.privateMethod_at (mvP hZ (hw _ (List.mem_of_getElem? (i := 30) rfl)) (args := #[]))) (mvT hZ (hw _ (List.mem_of_getElem? (i := 31) rfl))) (by decide) (backOf (W := 1) (rm5 l Z a0 hw [] d (0 : Int32) t (0 : Int32) (8 : Int32) [(.long w0), (.long w1), (.long w2), (.long w3), (.long w4), (.long w5), (.long w6), (.long w7)] h0 n0 Z0 (F1_) (F2_) (F5_) (rfl)) hZ (hw _ (List.mem_of_getElem? (i := 31) rfl)) (hw _ (List.mem_of_getElem? (i := 4) rfl)) (by decide) (by decide)) (g := (mkF m 13 #[.val (.ref d), .val (.long q1), .second] [(.int (0 : Int32)), (.ref d), (.ref t)])) rfl (by rw [hml]; rfl) (Steps.refl _) (a := d) (by rw [e113]; exact q114) q114' (argsL := [(.int (0 : Int32))]) (rest := [(.ref t)]) (lenOf pd_1 rfl) rfl (by show 2 * 0 + _ ≤ _; exact Nat.le_of_eq rfl) (hb hby d8_13) (fun _ _ => ⟨rfl, e113, (by decide : 0 + 0 ≤ _), (by decide : 0 + 0 ≤ _)⟩)
  dsimp only [Pt.U, Pt.locs, Pt.cells, Pt.slots] at X114 l114 y114 z114 st114 hQ114
  subst l114 y114 z114
  obtain ⟨rfl, N114q, e114⟩ := hQ114
  have N114 := Fr.app N0 N114q
  refine own_jp st114 ?_
  show own_Go p e below G (T114.setTop (mkF m 16 #[.val (.ref d), .val (.long q1), .second] [(.int (0 : Int32)), (.ref t)]))
  refine own_st (fun zw zk => own_jld X114 hx hZ e114 F5_ (j := (0 : Int32)) (v := (.long w0)) (i := 0) (by decide) (by decide) rfl (g := (mkF m 16 #[.val (.ref d), .val (.long q1), .second] [(.int (0 : Int32)), (.ref t)])) rfl rfl (hb hby d8_16) _ zk) ?_
  refine own_st (fun zw zk => XS.lloadN X114.here hx rfl (hb hby d8_17) rfl zk) ?_
  refine own_st (fun zw zk => XS.lcmp X114.here hx rfl (hb hby d8_18) rfl zk) ?_
  have hc19 : ¬ (q1 < w0) := hf0
  refine own_st (fun zw zk => XS.ifNo X114.here hx rfl (hb hby d8_19) rfl ((if0 _ _).trans (flt (own_flg hc19)).2.2.1) zk) ?_
  refine own_st (fun zw zk => XS.aloadN X114.here hx rfl (hb hby d8_22) rfl rfl zk) ?_
  refine own_st (fun zw zk => XS.dup X114.here hx rfl (hb hby d8_23) rfl rfl zk) ?_
  obtain ⟨T115, X115, e115, st115⟩ := getF X114 hx hZ hown (host := "") (Or.inl (hw _ (List.mem_of_getElem? (i := 24) rfl))) Via.refl e114 F4_ (g := (mkF m 24 #[.val (.ref d), .val (.long q1), .second] [(.ref d), (.ref d)])) rfl rfl (hb hby d8_24)
  refine own_st (fun zw zk => st115 zw zk) ?_
  refine own_st (fun zw zk => XS.aloadN X115.here hx rfl (hb hby d8_27) rfl rfl zk) ?_
  show own_Go p e below G (T115.setTop (mkF m 28 #[.val (.ref d), .val (.long q1), .second] [(.ref d), (.long adm), (.ref d)]))
  obtain ⟨T116, X116, e116, st116⟩ := getF X115 hx hZ hown (host := "") (Or.inl (hw _ (List.mem_of_getElem? (i := 17) rfl))) Via.refl e115 F1_ (g := (mkF m 28 #[.val (.ref d), .val (.long q1), .second] [(.ref d), (.long adm), (.ref d)])) rfl rfl (hb hby d8_28)
  refine own_st (fun zw zk => st116 zw zk) ?_
  refine own_st (fun zw zk => XS.aloadN X116.here hx rfl (hb hby d8_31) rfl rfl zk) ?_
  refine own_st (fun zw zk => XS.iconst X116.here hx rfl (hb hby d8_32) zk) ?_
  obtain ⟨cq117, q117, q117'⟩ := F0_.cell
  obtain ⟨_, _, ⟨T117, L117, k117, n117⟩, -, X117, ⟨Lc117, hQ117, l117, y117, z117⟩, st117⟩ := X116.privateBack hx (y := (⟨"com/example/headroom/headroom/SlidingLog$Log", "slot", "(I)I"⟩ : MethodName)) hown (mvT hZ (hw _ (List.mem_of_getElem? (i := 28) rfl))) (mvT hZ (hw _ (List.mem_of_getElem? (i := 29) rfl))) (own_selp hZ (hw _ (List.mem_of_getElem? (i := 3) rfl)) (hw _ (List.mem_of_getElem? (i := 30) rfl)) (hw _ (List.mem_of_getElem? (i := 29) rfl)) (by decide)) (Cond.privateMethod_at (mvP hZ (hw _ (List.mem_of_getElem? (i := 30) rfl)) (args := #[]))) (mvT hZ (hw _ (List.mem_of_getElem? (i := 31) rfl))) (by decide) (backOf (W := 4) (rm5 l Z a0 hw [] d (0 : Int32) t (0 : Int32) (8 : Int32) [(.long w0), (.long w1), (.long w2), (.long w3), (.long w4), (.long w5), (.long w6), (.long w7)] h0 n0 Z0 (F1_) (F2_) (F5_) (rfl)) hZ (hw _ (List.mem_of_getElem? (i := 31) rfl)) (hw _ (List.mem_of_getElem? (i := 4) rfl)) (by decide) (by decide)) (g := (mkF m 33 #[.val (.ref d), .val (.long q1), .second] [(.int (0 : Int32)), (.ref d), (.ref t), (.long adm), (.ref d)])) rfl (by rw [hml]; rfl) (Steps.refl _) (a := d) (by rw [e116]; exact q117) q117' (argsL := [(.int (0 : Int32))]) (rest := [(.ref t), (.long adm), (.ref d)]) (lenOf pd_1 rfl) rfl (by show 2 * 0 + _ ≤ _; exact Nat.le_of_eq rfl) (hb hby d8_33) (fun _ _ => ⟨rfl, e116, (by decide : 0 + 0 ≤ _), (by decide : 0 + 0 ≤ _)⟩)
  dsimp only [Pt.U, Pt.locs, Pt.cells, Pt.slots] at X117 l117 y117 z117 st117 hQ117
  subst l117 y117 z117
  obtain ⟨rfl, N117q, e117⟩ := hQ117
  have N117 := Fr.app N114 N117q
  refine own_jp st117 ?_
  refine own_st (fun zw zk => XS.iconst X117.here hx rfl (hb hby d8_36) zk) ?_
  refine own_st (fun zw zk => XS.iadd X117.here hx rfl (hb hby d8_37) rfl zk) ?_
  refine own_st (fun zw zk => own_jld X117 hx hZ e117 F5_ (j := (1 : Int32)) (v := (.long w1)) (i := 1) (by decide) (by decide) rfl (g := (mkF m 38 #[.val (.ref d), .val (.long q1), .second] [(.int (1 : Int32)), (.ref t), (.long adm), (.ref d)])) rfl rfl (hb hby d8_38) _ zk) ?_
  refine own_st (fun zw zk => XS.lsub X117.here hx rfl (hb hby d8_39) rfl zk) ?_
  show own_Go p e below G (T117.setTop (mkF m 40 #[.val (.ref d), .val (.long q1), .second] [(.long (adm - w1)), (.ref d)]))
  obtain ⟨T118, h118, X118, e118, W118, st118⟩ := putF X117 hx hZ hown (host := "") (Or.inl (hw _ (List.mem_of_getElem? (i := 24) rfl))) Via.refl e117 F4_ F0_ (Or.inl (hw _ (List.mem_of_getElem? (i := 25) rfl))) (hw _ (List.mem_of_getElem? (i := 3) rfl)) (ty := .long) (by decide) rfl rfl (g := (mkF m 40 #[.val (.ref d), .val (.long q1), .second] [(.long (adm - w1)), (.ref d)])) rfl rfl (hb hby d8_40)
  have F4_118 := F4_.same W118
  have N118 := Fr.snoc X118 N117 ge_d
  refine own_st (fun zw zk => st118 zw zk) ?_
  have F0_118 := F0_.wr W118
  have F1_118 := F1_.other W118 (Or.inr (slot_ne (Or.inl (hw _ (List.mem_of_getElem? (i := 18) rfl))) (Or.inl (hw _ (List.mem_of_getElem? (i := 25) rfl))) (by decide) (t := (.array .long)) (t' := .long) (by decide) (by decide)))
  have F2_118 := F2_.other W118 (Or.inr (slot_ne (Or.inl (hw _ (List.mem_of_getElem? (i := 33) rfl))) (Or.inl (hw _ (List.mem_of_getElem? (i := 25) rfl))) (by decide) (t := .int) (t' := .long) (by decide) (by decide)))
  have F3_118 := F3_.other W118 (Or.inr (slot_ne (Or.inl (hw _ (List.mem_of_getElem? (i := 27) rfl))) (Or.inl (hw _ (List.mem_of_getElem? (i := 25) rfl))) (by decide) (t := .int) (t' := .long) (by decide) (by decide)))
  have F5_118 := F5_.other W118 (Ne.symm ne_d_t)
  have Z118 : n0 ≤ h118.size := Nat.le_trans Z0 (Keep.of_wr W118).1
  have Kp118 := (Keep.refl h0 [d]).wr W118 (Or.inl (List.mem_of_getElem? (i := 0) rfl))
  refine own_st (fun zw zk => XS.aloadN X118.here hx rfl (hb hby d8_43) rfl rfl zk) ?_
  refine own_st (fun zw zk => XS.aloadN X118.here hx rfl (hb hby d8_44) rfl rfl zk) ?_
  obtain ⟨T119, X119, e119, st119⟩ := getF X118 hx hZ hown (host := "") (Or.inl (hw _ (List.mem_of_getElem? (i := 32) rfl))) Via.refl e118 F2_118 (g := (mkF m 45 #[.val (.ref d), .val (.long q1), .second] [(.ref d), (.ref d)])) rfl rfl (hb hby d8_45)
  refine own_st (fun zw zk => st119 zw zk) ?_
  refine own_st (fun zw zk => XS.iconst X119.here hx rfl (hb hby d8_48) zk) ?_
  refine own_st (fun zw zk => XS.iadd X119.here hx rfl (hb hby d8_49) rfl zk) ?_
  refine own_st (fun zw zk => XS.aloadN X119.here hx rfl (hb hby d8_50) rfl rfl zk) ?_
  obtain ⟨T120, X120, e120, st120⟩ := getF X119 hx hZ hown (host := "") (Or.inl (hw _ (List.mem_of_getElem? (i := 17) rfl))) Via.refl e119 F1_118 (g := (mkF m 51 #[.val (.ref d), .val (.long q1), .second] [(.ref d), (.int (1 : Int32)), (.ref d)])) rfl rfl (hb hby d8_51)
  refine own_st (fun zw zk => st120 zw zk) ?_
  show own_Go p e below G (T120.setTop (mkF m 54 #[.val (.ref d), .val (.long q1), .second] [(.ref t), (.int (1 : Int32)), (.ref d)]))
  refine own_st (fun zw zk => own_len X120 hx hZ e120 F5_118 (z := (8 : Int32)) (rfl) (g := (mkF m 54 #[.val (.ref d), .val (.long q1), .second] [(.ref t), (.int (1 : Int32)), (.ref d)])) rfl rfl (hb hby d8_54) _ zk) ?_
  refine own_st (fun zw zk => XS.iconst X120.here hx rfl (hb hby d8_55) zk) ?_
  refine own_st (fun zw zk => XS.idiv X120.here hx rfl (hb hby d8_56) rfl (by decide) zk) ?_
  refine own_st (fun zw zk => XS.iconst X120.here hx rfl (hb hby d8_57) zk) ?_
  refine own_st (fun zw zk => XS.isub X120.here hx rfl (hb hby d8_58) rfl zk) ?_
  refine own_st (fun zw zk => XS.iand X120.here hx rfl (hb hby d8_59) rfl zk) ?_
  obtain ⟨T121, h121, X121, e121, W121, st121⟩ := putF X120 hx hZ hown (host := "") (Or.inl (hw _ (List.mem_of_getElem? (i := 32) rfl))) Via.refl e120 F2_118 F0_118 (Or.inl (hw _ (List.mem_of_getElem? (i := 33) rfl))) (hw _ (List.mem_of_getElem? (i := 3) rfl)) (ty := .int) (by decide) rfl rfl (g := (mkF m 60 #[.val (.ref d), .val (.long q1), .second] [(.int (1 : Int32)), (.ref d)])) rfl rfl (hb hby d8_60)
  have F2_121 := F2_118.same W121
  have N121 := Fr.snoc X121 N118 ge_d
  refine own_st (fun zw zk => st121 zw zk) ?_
  have F0_121 := F0_118.wr W121
  have F1_121 := F1_118.other W121 (Or.inr (slot_ne (Or.inl (hw _ (List.mem_of_getElem? (i := 18) rfl))) (Or.inl (hw _ (List.mem_of_getElem? (i := 33) rfl))) (by decide) (t := (.array .long)) (t' := .int) (by decide) (by decide)))
  have F3_121 := F3_118.other W121 (Or.inr (slot_ne (Or.inl (hw _ (List.mem_of_getElem? (i := 27) rfl))) (Or.inl (hw _ (List.mem_of_getElem? (i := 33) rfl))) (by decide) (t := .int) (t' := .int) (by decide) (by decide)))
  have F5_121 := F5_118.other W121 (Ne.symm ne_d_t)
  have F4_121 := F4_118.other W121 (Or.inr (slot_ne (Or.inl (hw _ (List.mem_of_getElem? (i := 25) rfl))) (Or.inl (hw _ (List.mem_of_getElem? (i := 33) rfl))) (by decide) (t := .long) (t' := .int) (by decide) (by decide)))
  have Z121 : n0 ≤ h121.size := Nat.le_trans Z118 (Keep.of_wr W121).1
  have Kp121 := Kp118.wr W121 (Or.inl (List.mem_of_getElem? (i := 0) rfl))
  refine own_st (fun zw zk => XS.aloadN X121.here hx rfl (hb hby d8_63) rfl rfl zk) ?_
  show own_Go p e below G (T121.setTop (mkF m 64 #[.val (.ref d), .val (.long q1), .second] [(.ref d)]))
  refine own_st (fun zw zk => XS.dup X121.here hx rfl (hb hby d8_64) rfl rfl zk) ?_
  obtain ⟨T122, X122, e122, st122⟩ := getF X121 hx hZ hown (host := "") (Or.inl (hw _ (List.mem_of_getElem? (i := 26) rfl))) Via.refl e121 F3_121 (g := (mkF m 65 #[.val (.ref d), .val (.long q1), .second] [(.ref d), (.ref d)])) rfl rfl (hb hby d8_65)
  refine own_st (fun zw zk => st122 zw zk) ?_
  refine own_st (fun zw zk => XS.iconst X122.here hx rfl (hb hby d8_68) zk) ?_
  refine own_st (fun zw zk => XS.isub X122.here hx rfl (hb hby d8_69) rfl zk) ?_
  obtain ⟨T123, h123, X123, e123, W123, st123⟩ := putF X122 hx hZ hown (host := "") (Or.inl (hw _ (List.mem_of_getElem? (i := 26) rfl))) Via.refl e122 F3_121 F0_121 (Or.inl (hw _ (List.mem_of_getElem? (i := 27) rfl))) (hw _ (List.mem_of_getElem? (i := 3) rfl)) (ty := .int) (by decide) rfl rfl (g := (mkF m 70 #[.val (.ref d), .val (.long q1), .second] [(.int (2 : Int32)), (.ref d)])) rfl rfl (hb hby d8_70)
  have F3_123 := F3_121.same W123
  have N123 := Fr.snoc X123 N121 ge_d
  refine own_st (fun zw zk => st123 zw zk) ?_
  have F0_123 := F0_121.wr W123
  have F1_123 := F1_121.other W123 (Or.inr (slot_ne (Or.inl (hw _ (List.mem_of_getElem? (i := 18) rfl))) (Or.inl (hw _ (List.mem_of_getElem? (i := 27) rfl))) (by decide) (t := (.array .long)) (t' := .int) (by decide) (by decide)))
  have F5_123 := F5_121.other W123 (Ne.symm ne_d_t)
  have F4_123 := F4_121.other W123 (Or.inr (slot_ne (Or.inl (hw _ (List.mem_of_getElem? (i := 25) rfl))) (Or.inl (hw _ (List.mem_of_getElem? (i := 27) rfl))) (by decide) (t := .long) (t' := .int) (by decide) (by decide)))
  have F2_123 := F2_121.other W123 (Or.inr (slot_ne (Or.inl (hw _ (List.mem_of_getElem? (i := 33) rfl))) (Or.inl (hw _ (List.mem_of_getElem? (i := 27) rfl))) (by decide) (t := .int) (t' := .int) (by decide) (by decide)))
  have Z123 : n0 ≤ h123.size := Nat.le_trans Z121 (Keep.of_wr W123).1
  have Kp123 := Kp121.wr W123 (Or.inl (List.mem_of_getElem? (i := 0) rfl))
  refine own_st (fun zw zk => XS.goto X123.here hx rfl (pc0 := 73) (pc' := 0) rfl (hb hby d8_73) (by decide) (by decide) zk) ?_
  show own_Go p e below G (T123.setTop (mkF m 0 #[.val (.ref d), .val (.long q1), .second] []))
  refine own_st (fun zw zk => XS.aloadN X123.here hx rfl (hb hby d8_0) rfl rfl zk) ?_
  obtain ⟨T124, X124, e124, st124⟩ := getF X123 hx hZ hown (host := "") (Or.inl (hw _ (List.mem_of_getElem? (i := 26) rfl))) Via.refl e123 F3_123 (g := (mkF m 1 #[.val (.ref d), .val (.long q1), .second] [(.ref d)])) rfl rfl (hb hby d8_1)
  refine own_st (fun zw zk => st124 zw zk) ?_
  refine own_st (fun zw zk => XS.ifNo X124.here hx rfl (hb hby d8_4) rfl ((if0 _ _).trans (tlt (by decide : (0 : Int32) < (2 : Int32))).2.2.2) zk) ?_
  refine own_st (fun zw zk => XS.aloadN X124.here hx rfl (hb hby d8_7) rfl rfl zk) ?_
  obtain ⟨T125, X125, e125, st125⟩ := getF X124 hx hZ hown (host := "") (Or.inl (hw _ (List.mem_of_getElem? (i := 17) rfl))) Via.refl e124 F1_123 (g := (mkF m 8 #[.val (.ref d), .val (.long q1), .second] [(.ref d)])) rfl rfl (hb hby d8_8)
  refine own_st (fun zw zk => st125 zw zk) ?_
  refine own_st (fun zw zk => XS.aloadN X125.here hx rfl (hb hby d8_11) rfl rfl zk) ?_
  refine own_st (fun zw zk => XS.iconst X125.here hx rfl (hb hby d8_12) zk) ?_
  obtain ⟨cq126, q126, q126'⟩ := F0_123.cell
  obtain ⟨_, _, ⟨T126, L126, k126, n126⟩, -, X126, ⟨Lc126, hQ126, l126, y126, z126⟩, st126⟩ := X125.privateBack hx (y := (⟨"com/example/headroom/headroom/SlidingLog$Log", "slot", "(I)I"⟩ : MethodName)) hown (mvT hZ (hw _ (List.mem_of_getElem? (i := 28) rfl))) (mvT hZ (hw _ (List.mem_of_getElem? (i := 29) rfl))) (own_selp hZ (hw _ (List.mem_of_getElem? (i := 3) rfl)) (hw _ (List.mem_of_getElem? (i := 30) rfl)) (hw _ (List.mem_of_getElem? (i := 29) rfl)) (by decide)) (Cond.privateMethod_at (mvP hZ (hw _ (List.mem_of_getElem? (i := 30) rfl)) (args := #[]))) (mvT hZ (hw _ (List.mem_of_getElem? (i := 31) rfl))) (by decide) (backOf (W := 1) (rm5 l Z a0 hw [] d (0 : Int32) t (1 : Int32) (8 : Int32) [(.long w0), (.long w1), (.long w2), (.long w3), (.long w4), (.long w5), (.long w6), (.long w7)] h123 n0 Z123 (F1_123) (F2_123) (F5_123) (rfl)) hZ (hw _ (List.mem_of_getElem? (i := 31) rfl)) (hw _ (List.mem_of_getElem? (i := 4) rfl)) (by decide) (by decide)) (g := (mkF m 13 #[.val (.ref d), .val (.long q1), .second] [(.int (0 : Int32)), (.ref d), (.ref t)])) rfl (by rw [hml]; rfl) (Steps.refl _) (a := d) (by rw [e125]; exact q126) q126' (argsL := [(.int (0 : Int32))]) (rest := [(.ref t)]) (lenOf pd_1 rfl) rfl (by show 2 * 0 + _ ≤ _; exact Nat.le_of_eq rfl) (hb hby d8_13) (fun _ _ => ⟨rfl, e125, (by decide : 0 + 0 ≤ _), (by decide : 0 + 0 ≤ _)⟩)
  dsimp only [Pt.U, Pt.locs, Pt.cells, Pt.slots] at X126 l126 y126 z126 st126 hQ126
  subst l126 y126 z126
  obtain ⟨rfl, N126q, e126⟩ := hQ126
  have N126 := Fr.app N123 N126q
  refine own_jp st126 ?_
  show own_Go p e below G (T126.setTop (mkF m 16 #[.val (.ref d), .val (.long q1), .second] [(.int (2 : Int32)), (.ref t)]))
  refine own_st (fun zw zk => own_jld X126 hx hZ e126 F5_123 (j := (2 : Int32)) (v := (.long w2)) (i := 2) (by decide) (by decide) rfl (g := (mkF m 16 #[.val (.ref d), .val (.long q1), .second] [(.int (2 : Int32)), (.ref t)])) rfl rfl (hb hby d8_16) _ zk) ?_
  refine own_st (fun zw zk => XS.lloadN X126.here hx rfl (hb hby d8_17) rfl zk) ?_
  refine own_st (fun zw zk => XS.lcmp X126.here hx rfl (hb hby d8_18) rfl zk) ?_
  have hc19_1 : q1 < w2 := hf1
  refine own_st (fun zw zk => XS.ifYes X126.here hx rfl (pc0 := 19) (pc' := 76) rfl (hb hby d8_19) rfl ((if0 _ _).trans (tlt (own_tlg hc19_1)).2.2.1) (by decide) (by decide) zk) ?_
  subst hG
  obtain ⟨fs, hr, hrun, hended, hW, hsame⟩ := X126.leave (v := none) (hlocks := Bd.notSynchronized) (fun _ => rfl)
  refine ⟨_, X126.returnOut hx Bd.returns (hb hby d8_76) hr, _, hrun, hended, _, _, rfl, ?_, ⟨_, rfl⟩, hW, hsame.mono (by decide) (by decide)⟩
  show Q_forgetUpTo_0_3_8_1 Z d q1 t adm w0 w1 w2 w3 w4 w5 w6 w7 h0 n0 _ T126.heap _
  rw [e126]
  exact ⟨rfl, N126, Kp123, F0_123, F1_123, F2_123, F3_123, F4_123⟩
theorem ef_rm_forgetUpTo_1_4_8_0 (m : MethodId) (d : Addr) (q1 : Int64) : entryFrame m #[(.ref d), (.long q1)] 3 = mkF m 0 #[.val (.ref d), .val (.long q1), .second] [] := by first | (simp [entryFrame, mkF, argsToLocals, Value.category]; done) | rfl
def Q_forgetUpTo_1_4_8_0 (Z : State) (d : Addr) (q1 : Int64) (t : Addr) (adm : Int64) (w0 : Int64) (w1 : Int64) (w2 : Int64) (w3 : Int64) (w4 : Int64) (w5 : Int64) (w6 : Int64) (w7 : Int64) (h0 : Heap) (n0 : Nat) (rv : Option Value) (hq : Heap) (Lq : List Loc) : Prop := rv = none ∧ Fr n0 Lq ∧ Keep h0 hq [d] ∧ Exa Z hq d "com/example/headroom/headroom/SlidingLog$Log" ∧ Fld Z hq d "com/example/headroom/headroom/SlidingLog$Log" "entries" "[J" (.ref t) ∧ Fld Z hq d "com/example/headroom/headroom/SlidingLog$Log" "first" "I" (.int (1 : Int32)) ∧ Fld Z hq d "com/example/headroom/headroom/SlidingLog$Log" "size" "I" (.int (4 : Int32)) ∧ Fld Z hq d "com/example/headroom/headroom/SlidingLog$Log" "admitted" "J" (.long adm)
set_option maxRecDepth 65536 in
set_option maxHeartbeats 40000000 in
theorem rm_forgetUpTo_1_4_8_0 (l : Launch) (Z : State) (a0 : Array Value) (hw : ∀ d ∈ tables_1, d.before a0 Z = true) (ws : List Jvm.Cond) (d : Addr) (q1 : Int64) (t : Addr) (adm : Int64) (w0 : Int64) (w1 : Int64) (w2 : Int64) (w3 : Int64) (w4 : Int64) (w5 : Int64) (w6 : Int64) (w7 : Int64) (h0 : Heap) (n0 : Nat) (Z0 : n0 ≤ h0.size) (F0_ : Exa Z h0 d "com/example/headroom/headroom/SlidingLog$Log") (F1_ : Fld Z h0 d "com/example/headroom/headroom/SlidingLog$Log" "entries" "[J" (.ref t)) (F2_ : Fld Z h0 d "com/example/headroom/headroom/SlidingLog$Log" "first" "I" (.int (1 : Int32))) (F3_ : Fld Z h0 d "com/example/headroom/headroom/SlidingLog$Log" "size" "I" (.int (4 : Int32))) (F4_ : Fld Z h0 d "com/example/headroom/headroom/SlidingLog$Log" "admitted" "J" (.long adm)) (F5_ : own_L Z h0 t .long ([(.long w0), (.long w1), (.long w2), (.long w3), (.long w4), (.long w5), (.long w6), (.long w7)])) (ge_d : n0 ≤ d) (ne_d_t : d ≠ t) (hf0 : q1 < w2) :
    MetFree l (⟨"com/example/headroom/headroom/SlidingLog$Log", "forgetUpTo", "(J)V"⟩ : MethodName) (head1 (Jvm.Cond.code (⟨"com/example/headroom/headroom/SlidingLog$Log", "forgetUpTo", "(J)V"⟩ : MethodName) prog_48_method_4_code 3 none :: ws) ({ frames := 1, cells := 0, slots := 0, locals := 14 } : Room)) (fun za U => za = #[(.ref d), (.long q1)] ∧ Z.Warmed39 U.vm ∧ U.heap = h0) (fun _ _ _ _ _ => True) (fun _ U o U' => ∃ rv Lq, o = .returned rv ∧ Q_forgetUpTo_1_4_8_0 Z d q1 t adm w0 w1 w2 w3 w4 w5 w6 w7 h0 n0 rv U'.heap Lq ∧ FrameEnd U o U' Lq ({ frames := 1, cells := 0, slots := 0, locals := 14 } : Room).cells ({ frames := 1, cells := 0, slots := 0, locals := 14 } : Room).slots) := by
  refine MetFree.of_bodySF (plainFor_of_name pn_1) hisR ?_
  intro p e s m args below meth c s₁ Bd hml0 hP hK
  obtain ⟨rfl, hZ, hh⟩ := hP
  have hx := Bd.exec
  have hby := Bd.bytes
  have hml : c.maxLocals = 3 := hml0
  have hown : s.vm.findClass "com/example/headroom/headroom/SlidingLog$Log" = some m.cls := findClass_of_methodNamed Bd.named
  have hnm := (name_of_methodNamed Bd.named Bd.method).1
  have X0 : Stand p l e ({ frames := 1, cells := 0, slots := 0, locals := 14 } : Room) s m #[(.ref d), (.long q1)] below meth c s₁ [] 0 0 := Stand.of_body Bd
  have e0 : s₁.heap = h0 := by rw [← hh, Bd.state]; rfl
  have N0 := Fr.nil n0
  refine own_out (own_nm fun G hG => own_st (fun zt zk => castTop (ef_rm_forgetUpTo_1_4_8_0 m d q1) zk) ?_)
  show own_Go p e below G (s₁.setTop (mkF m 0 #[.val (.ref d), .val (.long q1), .second] []))
  refine own_st (fun zw zk => XS.aloadN X0.here hx rfl (hb hby d8_0) rfl rfl zk) ?_
  obtain ⟨T127, X127, e127, st127⟩ := getF X0 hx hZ hown (host := "") (Or.inl (hw _ (List.mem_of_getElem? (i := 26) rfl))) Via.refl e0 F3_ (g := (mkF m 1 #[.val (.ref d), .val (.long q1), .second] [(.ref d)])) rfl rfl (hb hby d8_1)
  refine own_st (fun zw zk => st127 zw zk) ?_
  refine own_st (fun zw zk => XS.ifNo X127.here hx rfl (hb hby d8_4) rfl ((if0 _ _).trans (tlt (by decide : (0 : Int32) < (4 : Int32))).2.2.2) zk) ?_
  refine own_st (fun zw zk => XS.aloadN X127.here hx rfl (hb hby d8_7) rfl rfl zk) ?_
  obtain ⟨T128, X128, e128, st128⟩ := getF X127 hx hZ hown (host := "") (Or.inl (hw _ (List.mem_of_getElem? (i := 17) rfl))) Via.refl e127 F1_ (g := (mkF m 8 #[.val (.ref d), .val (.long q1), .second] [(.ref d)])) rfl rfl (hb hby d8_8)
  refine own_st (fun zw zk => st128 zw zk) ?_
  refine own_st (fun zw zk => XS.aloadN X128.here hx rfl (hb hby d8_11) rfl rfl zk) ?_
  refine own_st (fun zw zk => XS.iconst X128.here hx rfl (hb hby d8_12) zk) ?_
  obtain ⟨cq129, q129, q129'⟩ := F0_.cell
  obtain ⟨_, _, ⟨T129, L129, k129, n129⟩, -, X129, ⟨Lc129, hQ129, l129, y129, z129⟩, st129⟩ := X128.privateBack hx (y := (⟨"com/example/headroom/headroom/SlidingLog$Log", "slot", "(I)I"⟩ : MethodName)) hown (mvT hZ (hw _ (List.mem_of_getElem? (i := 28) rfl))) (mvT hZ (hw _ (List.mem_of_getElem? (i := 29) rfl))) (own_selp hZ (hw _ (List.mem_of_getElem? (i := 3) rfl)) (hw _ (List.mem_of_getElem? (i := 30) rfl)) (hw _ (List.mem_of_getElem? (i := 29) rfl)) (by decide)) (Cond.privateMethod_at (mvP hZ (hw _ (List.mem_of_getElem? (i := 30) rfl)) (args := #[]))) (mvT hZ (hw _ (List.mem_of_getElem? (i := 31) rfl))) (by decide) (backOf (W := 1) (rm5 l Z a0 hw [] d (0 : Int32) t (1 : Int32) (8 : Int32) [(.long w0), (.long w1), (.long w2), (.long w3), (.long w4), (.long w5), (.long w6), (.long w7)] h0 n0 Z0 (F1_) (F2_) (F5_) (rfl)) hZ (hw _ (List.mem_of_getElem? (i := 31) rfl)) (hw _ (List.mem_of_getElem? (i := 4) rfl)) (by decide) (by decide)) (g := (mkF m 13 #[.val (.ref d), .val (.long q1), .second] [(.int (0 : Int32)), (.ref d), (.ref t)])) rfl (by rw [hml]; rfl) (Steps.refl _) (a := d) (by rw [e128]; exact q129) q129' (argsL := [(.int (0 : Int32))]) (rest := [(.ref t)]) (lenOf pd_1 rfl) rfl (by show 2 * 0 + _ ≤ _; exact Nat.le_of_eq rfl) (hb hby d8_13) (fun _ _ => ⟨rfl, e128, (by decide : 0 + 0 ≤ _), (by decide : 0 + 0 ≤ _)⟩)
  dsimp only [Pt.U, Pt.locs, Pt.cells, Pt.slots] at X129 l129 y129 z129 st129 hQ129
  subst l129 y129 z129
  obtain ⟨rfl, N129q, e129⟩ := hQ129
  have N129 := Fr.app N0 N129q
  refine own_jp st129 ?_
  show own_Go p e below G (T129.setTop (mkF m 16 #[.val (.ref d), .val (.long q1), .second] [(.int (2 : Int32)), (.ref t)]))
  refine own_st (fun zw zk => own_jld X129 hx hZ e129 F5_ (j := (2 : Int32)) (v := (.long w2)) (i := 2) (by decide) (by decide) rfl (g := (mkF m 16 #[.val (.ref d), .val (.long q1), .second] [(.int (2 : Int32)), (.ref t)])) rfl rfl (hb hby d8_16) _ zk) ?_
  refine own_st (fun zw zk => XS.lloadN X129.here hx rfl (hb hby d8_17) rfl zk) ?_
  refine own_st (fun zw zk => XS.lcmp X129.here hx rfl (hb hby d8_18) rfl zk) ?_
  have hc19 : q1 < w2 := hf0
  refine own_st (fun zw zk => XS.ifYes X129.here hx rfl (pc0 := 19) (pc' := 76) rfl (hb hby d8_19) rfl ((if0 _ _).trans (tlt (own_tlg hc19)).2.2.1) (by decide) (by decide) zk) ?_
  subst hG
  obtain ⟨fs, hr, hrun, hended, hW, hsame⟩ := X129.leave (v := none) (hlocks := Bd.notSynchronized) (fun _ => rfl)
  refine ⟨_, X129.returnOut hx Bd.returns (hb hby d8_76) hr, _, hrun, hended, _, _, rfl, ?_, ⟨_, rfl⟩, hW, hsame.mono (by decide) (by decide)⟩
  show Q_forgetUpTo_1_4_8_0 Z d q1 t adm w0 w1 w2 w3 w4 w5 w6 w7 h0 n0 _ T129.heap _
  rw [e129]
  exact ⟨rfl, N129, (Keep.refl h0 [d]), F0_, F1_, F2_, F3_, F4_⟩
theorem ef_rm_forgetUpTo_1_4_8_1 (m : MethodId) (d : Addr) (q1 : Int64) : entryFrame m #[(.ref d), (.long q1)] 3 = mkF m 0 #[.val (.ref d), .val (.long q1), .second] [] := by first | (simp [entryFrame, mkF, argsToLocals, Value.category]; done) | rfl
def Q_forgetUpTo_1_4_8_1 (Z : State) (d : Addr) (q1 : Int64) (t : Addr) (adm : Int64) (w0 : Int64) (w1 : Int64) (w2 : Int64) (w3 : Int64) (w4 : Int64) (w5 : Int64) (w6 : Int64) (w7 : Int64) (h0 : Heap) (n0 : Nat) (rv : Option Value) (hq : Heap) (Lq : List Loc) : Prop := rv = none ∧ Fr n0 Lq ∧ Keep h0 hq [d] ∧ Exa Z hq d "com/example/headroom/headroom/SlidingLog$Log" ∧ Fld Z hq d "com/example/headroom/headroom/SlidingLog$Log" "entries" "[J" (.ref t) ∧ Fld Z hq d "com/example/headroom/headroom/SlidingLog$Log" "first" "I" (.int (2 : Int32)) ∧ Fld Z hq d "com/example/headroom/headroom/SlidingLog$Log" "size" "I" (.int (3 : Int32)) ∧ Fld Z hq d "com/example/headroom/headroom/SlidingLog$Log" "admitted" "J" (.long (adm - w3))
set_option maxRecDepth 65536 in
set_option maxHeartbeats 40000000 in
theorem rm_forgetUpTo_1_4_8_1 (l : Launch) (Z : State) (a0 : Array Value) (hw : ∀ d ∈ tables_1, d.before a0 Z = true) (ws : List Jvm.Cond) (d : Addr) (q1 : Int64) (t : Addr) (adm : Int64) (w0 : Int64) (w1 : Int64) (w2 : Int64) (w3 : Int64) (w4 : Int64) (w5 : Int64) (w6 : Int64) (w7 : Int64) (h0 : Heap) (n0 : Nat) (Z0 : n0 ≤ h0.size) (F0_ : Exa Z h0 d "com/example/headroom/headroom/SlidingLog$Log") (F1_ : Fld Z h0 d "com/example/headroom/headroom/SlidingLog$Log" "entries" "[J" (.ref t)) (F2_ : Fld Z h0 d "com/example/headroom/headroom/SlidingLog$Log" "first" "I" (.int (1 : Int32))) (F3_ : Fld Z h0 d "com/example/headroom/headroom/SlidingLog$Log" "size" "I" (.int (4 : Int32))) (F4_ : Fld Z h0 d "com/example/headroom/headroom/SlidingLog$Log" "admitted" "J" (.long adm)) (F5_ : own_L Z h0 t .long ([(.long w0), (.long w1), (.long w2), (.long w3), (.long w4), (.long w5), (.long w6), (.long w7)])) (ge_d : n0 ≤ d) (ne_d_t : d ≠ t) (hf0 : ¬ (q1 < w2)) (hf1 : q1 < w4) :
    MetFree l (⟨"com/example/headroom/headroom/SlidingLog$Log", "forgetUpTo", "(J)V"⟩ : MethodName) (head1 (Jvm.Cond.code (⟨"com/example/headroom/headroom/SlidingLog$Log", "forgetUpTo", "(J)V"⟩ : MethodName) prog_48_method_4_code 3 none :: ws) ({ frames := 1, cells := 0, slots := 0, locals := 17 } : Room)) (fun za U => za = #[(.ref d), (.long q1)] ∧ Z.Warmed39 U.vm ∧ U.heap = h0) (fun _ _ _ _ _ => True) (fun _ U o U' => ∃ rv Lq, o = .returned rv ∧ Q_forgetUpTo_1_4_8_1 Z d q1 t adm w0 w1 w2 w3 w4 w5 w6 w7 h0 n0 rv U'.heap Lq ∧ FrameEnd U o U' Lq ({ frames := 1, cells := 0, slots := 0, locals := 17 } : Room).cells ({ frames := 1, cells := 0, slots := 0, locals := 17 } : Room).slots) := by
  refine MetFree.of_bodySF (plainFor_of_name pn_1) hisR ?_
  intro p e s m args below meth c s₁ Bd hml0 hP hK
  obtain ⟨rfl, hZ, hh⟩ := hP
  have hx := Bd.exec
  have hby := Bd.bytes
  have hml : c.maxLocals = 3 := hml0
  have hown : s.vm.findClass "com/example/headroom/headroom/SlidingLog$Log" = some m.cls := findClass_of_methodNamed Bd.named
  have hnm := (name_of_methodNamed Bd.named Bd.method).1
  have X0 : Stand p l e ({ frames := 1, cells := 0, slots := 0, locals := 17 } : Room) s m #[(.ref d), (.long q1)] below meth c s₁ [] 0 0 := Stand.of_body Bd
  have e0 : s₁.heap = h0 := by rw [← hh, Bd.state]; rfl
  have N0 := Fr.nil n0
  refine own_out (own_nm fun G hG => own_st (fun zt zk => castTop (ef_rm_forgetUpTo_1_4_8_1 m d q1) zk) ?_)
  show own_Go p e below G (s₁.setTop (mkF m 0 #[.val (.ref d), .val (.long q1), .second] []))
  refine own_st (fun zw zk => XS.aloadN X0.here hx rfl (hb hby d8_0) rfl rfl zk) ?_
  obtain ⟨T130, X130, e130, st130⟩ := getF X0 hx hZ hown (host := "") (Or.inl (hw _ (List.mem_of_getElem? (i := 26) rfl))) Via.refl e0 F3_ (g := (mkF m 1 #[.val (.ref d), .val (.long q1), .second] [(.ref d)])) rfl rfl (hb hby d8_1)
  refine own_st (fun zw zk => st130 zw zk) ?_
  refine own_st (fun zw zk => XS.ifNo X130.here hx rfl (hb hby d8_4) rfl ((if0 _ _).trans (tlt (by decide : (0 : Int32) < (4 : Int32))).2.2.2) zk) ?_
  refine own_st (fun zw zk => XS.aloadN X130.here hx rfl (hb hby d8_7) rfl rfl zk) ?_
  obtain ⟨T131, X131, e131, st131⟩ := getF X130 hx hZ hown (host := "") (Or.inl (hw _ (List.mem_of_getElem? (i := 17) rfl))) Via.refl e130 F1_ (g := (mkF m 8 #[.val (.ref d), .val (.long q1), .second] [(.ref d)])) rfl rfl (hb hby d8_8)
  refine own_st (fun zw zk => st131 zw zk) ?_
  refine own_st (fun zw zk => XS.aloadN X131.here hx rfl (hb hby d8_11) rfl rfl zk) ?_
  refine own_st (fun zw zk => XS.iconst X131.here hx rfl (hb hby d8_12) zk) ?_
  obtain ⟨cq132, q132, q132'⟩ := F0_.cell
  obtain ⟨_, _, ⟨T132, L132, k132, n132⟩, -, X132, ⟨Lc132, hQ132, l132, y132, z132⟩, st132⟩ := X131.privateBack hx (y := (⟨"com/example/headroom/headroom/SlidingLog$Log", "slot", "(I)I"⟩ : MethodName)) hown (mvT hZ (hw _ (List.mem_of_getElem? (i := 28) rfl))) (mvT hZ (hw _ (List.mem_of_getElem? (i := 29) rfl))) (own_selp hZ (hw _ (List.mem_of_getElem? (i := 3) rfl)) (hw _ (List.mem_of_getElem? (i := 30) rfl)) (hw _ (List.mem_of_getElem? (i := 29) rfl)) (by decide)) (Cond.privateMethod_at (mvP hZ (hw _ (List.mem_of_getElem? (i := 30) rfl)) (args := #[]))) (mvT hZ (hw _ (List.mem_of_getElem? (i := 31) rfl))) (by decide) (backOf (W := 1) (rm5 l Z a0 hw [] d (0 : Int32) t (1 : Int32) (8 : Int32) [(.long w0), (.long w1), (.long w2), (.long w3), (.long w4), (.long w5), (.long w6), (.long w7)] h0 n0 Z0 (F1_) (F2_) (F5_) (rfl)) hZ (hw _ (List.mem_of_getElem? (i := 31) rfl)) (hw _ (List.mem_of_getElem? (i := 4) rfl)) (by decide) (by decide)) (g := (mkF m 13 #[.val (.ref d), .val (.long q1), .second] [(.int (0 : Int32)), (.ref d), (.ref t)])) rfl (by rw [hml]; rfl) (Steps.refl _) (a := d) (by rw [e131]; exact q132) q132' (argsL := [(.int (0 : Int32))]) (rest := [(.ref t)]) (lenOf pd_1 rfl) rfl (by show 2 * 0 + _ ≤ _; exact Nat.le_of_eq rfl) (hb hby d8_13) (fun _ _ => ⟨rfl, e131, (by decide : 0 + 0 ≤ _), (by decide : 0 + 0 ≤ _)⟩)
  dsimp only [Pt.U, Pt.locs, Pt.cells, Pt.slots] at X132 l132 y132 z132 st132 hQ132
  subst l132 y132 z132
  obtain ⟨rfl, N132q, e132⟩ := hQ132
  have N132 := Fr.app N0 N132q
  refine own_jp st132 ?_
  show own_Go p e below G (T132.setTop (mkF m 16 #[.val (.ref d), .val (.long q1), .second] [(.int (2 : Int32)), (.ref t)]))
  refine own_st (fun zw zk => own_jld X132 hx hZ e132 F5_ (j := (2 : Int32)) (v := (.long w2)) (i := 2) (by decide) (by decide) rfl (g := (mkF m 16 #[.val (.ref d), .val (.long q1), .second] [(.int (2 : Int32)), (.ref t)])) rfl rfl (hb hby d8_16) _ zk) ?_
  refine own_st (fun zw zk => XS.lloadN X132.here hx rfl (hb hby d8_17) rfl zk) ?_
  refine own_st (fun zw zk => XS.lcmp X132.here hx rfl (hb hby d8_18) rfl zk) ?_
  have hc19 : ¬ (q1 < w2) := hf0
  refine own_st (fun zw zk => XS.ifNo X132.here hx rfl (hb hby d8_19) rfl ((if0 _ _).trans (flt (own_flg hc19)).2.2.1) zk) ?_
  refine own_st (fun zw zk => XS.aloadN X132.here hx rfl (hb hby d8_22) rfl rfl zk) ?_
  refine own_st (fun zw zk => XS.dup X132.here hx rfl (hb hby d8_23) rfl rfl zk) ?_
  obtain ⟨T133, X133, e133, st133⟩ := getF X132 hx hZ hown (host := "") (Or.inl (hw _ (List.mem_of_getElem? (i := 24) rfl))) Via.refl e132 F4_ (g := (mkF m 24 #[.val (.ref d), .val (.long q1), .second] [(.ref d), (.ref d)])) rfl rfl (hb hby d8_24)
  refine own_st (fun zw zk => st133 zw zk) ?_
  refine own_st (fun zw zk => XS.aloadN X133.here hx rfl (hb hby d8_27) rfl rfl zk) ?_
  show own_Go p e below G (T133.setTop (mkF m 28 #[.val (.ref d), .val (.long q1), .second] [(.ref d), (.long adm), (.ref d)]))
  obtain ⟨T134, X134, e134, st134⟩ := getF X133 hx hZ hown (host := "") (Or.inl (hw _ (List.mem_of_getElem? (i := 17) rfl))) Via.refl e133 F1_ (g := (mkF m 28 #[.val (.ref d), .val (.long q1), .second] [(.ref d), (.long adm), (.ref d)])) rfl rfl (hb hby d8_28)
  refine own_st (fun zw zk => st134 zw zk) ?_
  refine own_st (fun zw zk => XS.aloadN X134.here hx rfl (hb hby d8_31) rfl rfl zk) ?_
  refine own_st (fun zw zk => XS.iconst X134.here hx rfl (hb hby d8_32) zk) ?_
  obtain ⟨cq135, q135, q135'⟩ := F0_.cell
  obtain ⟨_, _, ⟨T135, L135, k135, n135⟩, -, X135, ⟨Lc135, hQ135, l135, y135, z135⟩, st135⟩ := X134.privateBack hx (y := (⟨"com/example/headroom/headroom/SlidingLog$Log", "slot", "(I)I"⟩ : MethodName)) hown (mvT hZ (hw _ (List.mem_of_getElem? (i := 28) rfl))) (mvT hZ (hw _ (List.mem_of_getElem? (i := 29) rfl))) (own_selp hZ (hw _ (List.mem_of_getElem? (i := 3) rfl)) (hw _ (List.mem_of_getElem? (i := 30) rfl)) (hw _ (List.mem_of_getElem? (i := 29) rfl)) (by decide)) (Cond.privateMethod_at (mvP hZ (hw _ (List.mem_of_getElem? (i := 30) rfl)) (args := #[]))) (mvT hZ (hw _ (List.mem_of_getElem? (i := 31) rfl))) (by decide) (backOf (W := 4) (rm5 l Z a0 hw [] d (0 : Int32) t (1 : Int32) (8 : Int32) [(.long w0), (.long w1), (.long w2), (.long w3), (.long w4), (.long w5), (.long w6), (.long w7)] h0 n0 Z0 (F1_) (F2_) (F5_) (rfl)) hZ (hw _ (List.mem_of_getElem? (i := 31) rfl)) (hw _ (List.mem_of_getElem? (i := 4) rfl)) (by decide) (by decide)) (g := (mkF m 33 #[.val (.ref d), .val (.long q1), .second] [(.int (0 : Int32)), (.ref d), (.ref t), (.long adm), (.ref d)])) rfl (by rw [hml]; rfl) (Steps.refl _) (a := d) (by rw [e134]; exact q135) q135' (argsL := [(.int (0 : Int32))]) (rest := [(.ref t), (.long adm), (.ref d)]) (lenOf pd_1 rfl) rfl (by show 2 * 0 + _ ≤ _; exact Nat.le_of_eq rfl) (hb hby d8_33) (fun _ _ => ⟨rfl, e134, (by decide : 0 + 0 ≤ _), (by decide : 0 + 0 ≤ _)⟩)
  dsimp only [Pt.U, Pt.locs, Pt.cells, Pt.slots] at X135 l135 y135 z135 st135 hQ135
  subst l135 y135 z135
  obtain ⟨rfl, N135q, e135⟩ := hQ135
  have N135 := Fr.app N132 N135q
  refine own_jp st135 ?_
  refine own_st (fun zw zk => XS.iconst X135.here hx rfl (hb hby d8_36) zk) ?_
  refine own_st (fun zw zk => XS.iadd X135.here hx rfl (hb hby d8_37) rfl zk) ?_
  refine own_st (fun zw zk => own_jld X135 hx hZ e135 F5_ (j := (3 : Int32)) (v := (.long w3)) (i := 3) (by decide) (by decide) rfl (g := (mkF m 38 #[.val (.ref d), .val (.long q1), .second] [(.int (3 : Int32)), (.ref t), (.long adm), (.ref d)])) rfl rfl (hb hby d8_38) _ zk) ?_
  refine own_st (fun zw zk => XS.lsub X135.here hx rfl (hb hby d8_39) rfl zk) ?_
  show own_Go p e below G (T135.setTop (mkF m 40 #[.val (.ref d), .val (.long q1), .second] [(.long (adm - w3)), (.ref d)]))
  obtain ⟨T136, h136, X136, e136, W136, st136⟩ := putF X135 hx hZ hown (host := "") (Or.inl (hw _ (List.mem_of_getElem? (i := 24) rfl))) Via.refl e135 F4_ F0_ (Or.inl (hw _ (List.mem_of_getElem? (i := 25) rfl))) (hw _ (List.mem_of_getElem? (i := 3) rfl)) (ty := .long) (by decide) rfl rfl (g := (mkF m 40 #[.val (.ref d), .val (.long q1), .second] [(.long (adm - w3)), (.ref d)])) rfl rfl (hb hby d8_40)
  have F4_136 := F4_.same W136
  have N136 := Fr.snoc X136 N135 ge_d
  refine own_st (fun zw zk => st136 zw zk) ?_
  have F0_136 := F0_.wr W136
  have F1_136 := F1_.other W136 (Or.inr (slot_ne (Or.inl (hw _ (List.mem_of_getElem? (i := 18) rfl))) (Or.inl (hw _ (List.mem_of_getElem? (i := 25) rfl))) (by decide) (t := (.array .long)) (t' := .long) (by decide) (by decide)))
  have F2_136 := F2_.other W136 (Or.inr (slot_ne (Or.inl (hw _ (List.mem_of_getElem? (i := 33) rfl))) (Or.inl (hw _ (List.mem_of_getElem? (i := 25) rfl))) (by decide) (t := .int) (t' := .long) (by decide) (by decide)))
  have F3_136 := F3_.other W136 (Or.inr (slot_ne (Or.inl (hw _ (List.mem_of_getElem? (i := 27) rfl))) (Or.inl (hw _ (List.mem_of_getElem? (i := 25) rfl))) (by decide) (t := .int) (t' := .long) (by decide) (by decide)))
  have F5_136 := F5_.other W136 (Ne.symm ne_d_t)
  have Z136 : n0 ≤ h136.size := Nat.le_trans Z0 (Keep.of_wr W136).1
  have Kp136 := (Keep.refl h0 [d]).wr W136 (Or.inl (List.mem_of_getElem? (i := 0) rfl))
  refine own_st (fun zw zk => XS.aloadN X136.here hx rfl (hb hby d8_43) rfl rfl zk) ?_
  refine own_st (fun zw zk => XS.aloadN X136.here hx rfl (hb hby d8_44) rfl rfl zk) ?_
  obtain ⟨T137, X137, e137, st137⟩ := getF X136 hx hZ hown (host := "") (Or.inl (hw _ (List.mem_of_getElem? (i := 32) rfl))) Via.refl e136 F2_136 (g := (mkF m 45 #[.val (.ref d), .val (.long q1), .second] [(.ref d), (.ref d)])) rfl rfl (hb hby d8_45)
  refine own_st (fun zw zk => st137 zw zk) ?_
  refine own_st (fun zw zk => XS.iconst X137.here hx rfl (hb hby d8_48) zk) ?_
  refine own_st (fun zw zk => XS.iadd X137.here hx rfl (hb hby d8_49) rfl zk) ?_
  refine own_st (fun zw zk => XS.aloadN X137.here hx rfl (hb hby d8_50) rfl rfl zk) ?_
  obtain ⟨T138, X138, e138, st138⟩ := getF X137 hx hZ hown (host := "") (Or.inl (hw _ (List.mem_of_getElem? (i := 17) rfl))) Via.refl e137 F1_136 (g := (mkF m 51 #[.val (.ref d), .val (.long q1), .second] [(.ref d), (.int (2 : Int32)), (.ref d)])) rfl rfl (hb hby d8_51)
  refine own_st (fun zw zk => st138 zw zk) ?_
  show own_Go p e below G (T138.setTop (mkF m 54 #[.val (.ref d), .val (.long q1), .second] [(.ref t), (.int (2 : Int32)), (.ref d)]))
  refine own_st (fun zw zk => own_len X138 hx hZ e138 F5_136 (z := (8 : Int32)) (rfl) (g := (mkF m 54 #[.val (.ref d), .val (.long q1), .second] [(.ref t), (.int (2 : Int32)), (.ref d)])) rfl rfl (hb hby d8_54) _ zk) ?_
  refine own_st (fun zw zk => XS.iconst X138.here hx rfl (hb hby d8_55) zk) ?_
  refine own_st (fun zw zk => XS.idiv X138.here hx rfl (hb hby d8_56) rfl (by decide) zk) ?_
  refine own_st (fun zw zk => XS.iconst X138.here hx rfl (hb hby d8_57) zk) ?_
  refine own_st (fun zw zk => XS.isub X138.here hx rfl (hb hby d8_58) rfl zk) ?_
  refine own_st (fun zw zk => XS.iand X138.here hx rfl (hb hby d8_59) rfl zk) ?_
  obtain ⟨T139, h139, X139, e139, W139, st139⟩ := putF X138 hx hZ hown (host := "") (Or.inl (hw _ (List.mem_of_getElem? (i := 32) rfl))) Via.refl e138 F2_136 F0_136 (Or.inl (hw _ (List.mem_of_getElem? (i := 33) rfl))) (hw _ (List.mem_of_getElem? (i := 3) rfl)) (ty := .int) (by decide) rfl rfl (g := (mkF m 60 #[.val (.ref d), .val (.long q1), .second] [(.int (2 : Int32)), (.ref d)])) rfl rfl (hb hby d8_60)
  have F2_139 := F2_136.same W139
  have N139 := Fr.snoc X139 N136 ge_d
  refine own_st (fun zw zk => st139 zw zk) ?_
  have F0_139 := F0_136.wr W139
  have F1_139 := F1_136.other W139 (Or.inr (slot_ne (Or.inl (hw _ (List.mem_of_getElem? (i := 18) rfl))) (Or.inl (hw _ (List.mem_of_getElem? (i := 33) rfl))) (by decide) (t := (.array .long)) (t' := .int) (by decide) (by decide)))
  have F3_139 := F3_136.other W139 (Or.inr (slot_ne (Or.inl (hw _ (List.mem_of_getElem? (i := 27) rfl))) (Or.inl (hw _ (List.mem_of_getElem? (i := 33) rfl))) (by decide) (t := .int) (t' := .int) (by decide) (by decide)))
  have F5_139 := F5_136.other W139 (Ne.symm ne_d_t)
  have F4_139 := F4_136.other W139 (Or.inr (slot_ne (Or.inl (hw _ (List.mem_of_getElem? (i := 25) rfl))) (Or.inl (hw _ (List.mem_of_getElem? (i := 33) rfl))) (by decide) (t := .long) (t' := .int) (by decide) (by decide)))
  have Z139 : n0 ≤ h139.size := Nat.le_trans Z136 (Keep.of_wr W139).1
  have Kp139 := Kp136.wr W139 (Or.inl (List.mem_of_getElem? (i := 0) rfl))
  refine own_st (fun zw zk => XS.aloadN X139.here hx rfl (hb hby d8_63) rfl rfl zk) ?_
  show own_Go p e below G (T139.setTop (mkF m 64 #[.val (.ref d), .val (.long q1), .second] [(.ref d)]))
  refine own_st (fun zw zk => XS.dup X139.here hx rfl (hb hby d8_64) rfl rfl zk) ?_
  obtain ⟨T140, X140, e140, st140⟩ := getF X139 hx hZ hown (host := "") (Or.inl (hw _ (List.mem_of_getElem? (i := 26) rfl))) Via.refl e139 F3_139 (g := (mkF m 65 #[.val (.ref d), .val (.long q1), .second] [(.ref d), (.ref d)])) rfl rfl (hb hby d8_65)
  refine own_st (fun zw zk => st140 zw zk) ?_
  refine own_st (fun zw zk => XS.iconst X140.here hx rfl (hb hby d8_68) zk) ?_
  refine own_st (fun zw zk => XS.isub X140.here hx rfl (hb hby d8_69) rfl zk) ?_
  obtain ⟨T141, h141, X141, e141, W141, st141⟩ := putF X140 hx hZ hown (host := "") (Or.inl (hw _ (List.mem_of_getElem? (i := 26) rfl))) Via.refl e140 F3_139 F0_139 (Or.inl (hw _ (List.mem_of_getElem? (i := 27) rfl))) (hw _ (List.mem_of_getElem? (i := 3) rfl)) (ty := .int) (by decide) rfl rfl (g := (mkF m 70 #[.val (.ref d), .val (.long q1), .second] [(.int (3 : Int32)), (.ref d)])) rfl rfl (hb hby d8_70)
  have F3_141 := F3_139.same W141
  have N141 := Fr.snoc X141 N139 ge_d
  refine own_st (fun zw zk => st141 zw zk) ?_
  have F0_141 := F0_139.wr W141
  have F1_141 := F1_139.other W141 (Or.inr (slot_ne (Or.inl (hw _ (List.mem_of_getElem? (i := 18) rfl))) (Or.inl (hw _ (List.mem_of_getElem? (i := 27) rfl))) (by decide) (t := (.array .long)) (t' := .int) (by decide) (by decide)))
  have F5_141 := F5_139.other W141 (Ne.symm ne_d_t)
  have F4_141 := F4_139.other W141 (Or.inr (slot_ne (Or.inl (hw _ (List.mem_of_getElem? (i := 25) rfl))) (Or.inl (hw _ (List.mem_of_getElem? (i := 27) rfl))) (by decide) (t := .long) (t' := .int) (by decide) (by decide)))
  have F2_141 := F2_139.other W141 (Or.inr (slot_ne (Or.inl (hw _ (List.mem_of_getElem? (i := 33) rfl))) (Or.inl (hw _ (List.mem_of_getElem? (i := 27) rfl))) (by decide) (t := .int) (t' := .int) (by decide) (by decide)))
  have Z141 : n0 ≤ h141.size := Nat.le_trans Z139 (Keep.of_wr W141).1
  have Kp141 := Kp139.wr W141 (Or.inl (List.mem_of_getElem? (i := 0) rfl))
  refine own_st (fun zw zk => XS.goto X141.here hx rfl (pc0 := 73) (pc' := 0) rfl (hb hby d8_73) (by decide) (by decide) zk) ?_
  show own_Go p e below G (T141.setTop (mkF m 0 #[.val (.ref d), .val (.long q1), .second] []))
  refine own_st (fun zw zk => XS.aloadN X141.here hx rfl (hb hby d8_0) rfl rfl zk) ?_
  obtain ⟨T142, X142, e142, st142⟩ := getF X141 hx hZ hown (host := "") (Or.inl (hw _ (List.mem_of_getElem? (i := 26) rfl))) Via.refl e141 F3_141 (g := (mkF m 1 #[.val (.ref d), .val (.long q1), .second] [(.ref d)])) rfl rfl (hb hby d8_1)
  refine own_st (fun zw zk => st142 zw zk) ?_
  refine own_st (fun zw zk => XS.ifNo X142.here hx rfl (hb hby d8_4) rfl ((if0 _ _).trans (tlt (by decide : (0 : Int32) < (3 : Int32))).2.2.2) zk) ?_
  refine own_st (fun zw zk => XS.aloadN X142.here hx rfl (hb hby d8_7) rfl rfl zk) ?_
  obtain ⟨T143, X143, e143, st143⟩ := getF X142 hx hZ hown (host := "") (Or.inl (hw _ (List.mem_of_getElem? (i := 17) rfl))) Via.refl e142 F1_141 (g := (mkF m 8 #[.val (.ref d), .val (.long q1), .second] [(.ref d)])) rfl rfl (hb hby d8_8)
  refine own_st (fun zw zk => st143 zw zk) ?_
  refine own_st (fun zw zk => XS.aloadN X143.here hx rfl (hb hby d8_11) rfl rfl zk) ?_
  refine own_st (fun zw zk => XS.iconst X143.here hx rfl (hb hby d8_12) zk) ?_
  obtain ⟨cq144, q144, q144'⟩ := F0_141.cell
  obtain ⟨_, _, ⟨T144, L144, k144, n144⟩, -, X144, ⟨Lc144, hQ144, l144, y144, z144⟩, st144⟩ := X143.privateBack hx (y := (⟨"com/example/headroom/headroom/SlidingLog$Log", "slot", "(I)I"⟩ : MethodName)) hown (mvT hZ (hw _ (List.mem_of_getElem? (i := 28) rfl))) (mvT hZ (hw _ (List.mem_of_getElem? (i := 29) rfl))) (own_selp hZ (hw _ (List.mem_of_getElem? (i := 3) rfl)) (hw _ (List.mem_of_getElem? (i := 30) rfl)) (hw _ (List.mem_of_getElem? (i := 29) rfl)) (by decide)) (Cond.privateMethod_at (mvP hZ (hw _ (List.mem_of_getElem? (i := 30) rfl)) (args := #[]))) (mvT hZ (hw _ (List.mem_of_getElem? (i := 31) rfl))) (by decide) (backOf (W := 1) (rm5 l Z a0 hw [] d (0 : Int32) t (2 : Int32) (8 : Int32) [(.long w0), (.long w1), (.long w2), (.long w3), (.long w4), (.long w5), (.long w6), (.long w7)] h141 n0 Z141 (F1_141) (F2_141) (F5_141) (rfl)) hZ (hw _ (List.mem_of_getElem? (i := 31) rfl)) (hw _ (List.mem_of_getElem? (i := 4) rfl)) (by decide) (by decide)) (g := (mkF m 13 #[.val (.ref d), .val (.long q1), .second] [(.int (0 : Int32)), (.ref d), (.ref t)])) rfl (by rw [hml]; rfl) (Steps.refl _) (a := d) (by rw [e143]; exact q144) q144' (argsL := [(.int (0 : Int32))]) (rest := [(.ref t)]) (lenOf pd_1 rfl) rfl (by show 2 * 0 + _ ≤ _; exact Nat.le_of_eq rfl) (hb hby d8_13) (fun _ _ => ⟨rfl, e143, (by decide : 0 + 0 ≤ _), (by decide : 0 + 0 ≤ _)⟩)
  dsimp only [Pt.U, Pt.locs, Pt.cells, Pt.slots] at X144 l144 y144 z144 st144 hQ144
  subst l144 y144 z144
  obtain ⟨rfl, N144q, e144⟩ := hQ144
  have N144 := Fr.app N141 N144q
  refine own_jp st144 ?_
  show own_Go p e below G (T144.setTop (mkF m 16 #[.val (.ref d), .val (.long q1), .second] [(.int (4 : Int32)), (.ref t)]))
  refine own_st (fun zw zk => own_jld X144 hx hZ e144 F5_141 (j := (4 : Int32)) (v := (.long w4)) (i := 4) (by decide) (by decide) rfl (g := (mkF m 16 #[.val (.ref d), .val (.long q1), .second] [(.int (4 : Int32)), (.ref t)])) rfl rfl (hb hby d8_16) _ zk) ?_
  refine own_st (fun zw zk => XS.lloadN X144.here hx rfl (hb hby d8_17) rfl zk) ?_
  refine own_st (fun zw zk => XS.lcmp X144.here hx rfl (hb hby d8_18) rfl zk) ?_
  have hc19_1 : q1 < w4 := hf1
  refine own_st (fun zw zk => XS.ifYes X144.here hx rfl (pc0 := 19) (pc' := 76) rfl (hb hby d8_19) rfl ((if0 _ _).trans (tlt (own_tlg hc19_1)).2.2.1) (by decide) (by decide) zk) ?_
  subst hG
  obtain ⟨fs, hr, hrun, hended, hW, hsame⟩ := X144.leave (v := none) (hlocks := Bd.notSynchronized) (fun _ => rfl)
  refine ⟨_, X144.returnOut hx Bd.returns (hb hby d8_76) hr, _, hrun, hended, _, _, rfl, ?_, ⟨_, rfl⟩, hW, hsame.mono (by decide) (by decide)⟩
  show Q_forgetUpTo_1_4_8_1 Z d q1 t adm w0 w1 w2 w3 w4 w5 w6 w7 h0 n0 _ T144.heap _
  rw [e144]
  exact ⟨rfl, N144, Kp141, F0_141, F1_141, F2_141, F3_141, F4_141⟩
theorem ef_rm_forgetUpTo_1_4_8_2 (m : MethodId) (d : Addr) (q1 : Int64) : entryFrame m #[(.ref d), (.long q1)] 3 = mkF m 0 #[.val (.ref d), .val (.long q1), .second] [] := by first | (simp [entryFrame, mkF, argsToLocals, Value.category]; done) | rfl
def Q_forgetUpTo_1_4_8_2 (Z : State) (d : Addr) (q1 : Int64) (t : Addr) (adm : Int64) (w0 : Int64) (w1 : Int64) (w2 : Int64) (w3 : Int64) (w4 : Int64) (w5 : Int64) (w6 : Int64) (w7 : Int64) (h0 : Heap) (n0 : Nat) (rv : Option Value) (hq : Heap) (Lq : List Loc) : Prop := rv = none ∧ Fr n0 Lq ∧ Keep h0 hq [d] ∧ Exa Z hq d "com/example/headroom/headroom/SlidingLog$Log" ∧ Fld Z hq d "com/example/headroom/headroom/SlidingLog$Log" "entries" "[J" (.ref t) ∧ Fld Z hq d "com/example/headroom/headroom/SlidingLog$Log" "first" "I" (.int (3 : Int32)) ∧ Fld Z hq d "com/example/headroom/headroom/SlidingLog$Log" "size" "I" (.int (2 : Int32)) ∧ Fld Z hq d "com/example/headroom/headroom/SlidingLog$Log" "admitted" "J" (.long ((adm - w3) - w5))
set_option maxRecDepth 65536 in
set_option maxHeartbeats 40000000 in
theorem rm_forgetUpTo_1_4_8_2 (l : Launch) (Z : State) (a0 : Array Value) (hw : ∀ d ∈ tables_1, d.before a0 Z = true) (ws : List Jvm.Cond) (d : Addr) (q1 : Int64) (t : Addr) (adm : Int64) (w0 : Int64) (w1 : Int64) (w2 : Int64) (w3 : Int64) (w4 : Int64) (w5 : Int64) (w6 : Int64) (w7 : Int64) (h0 : Heap) (n0 : Nat) (Z0 : n0 ≤ h0.size) (F0_ : Exa Z h0 d "com/example/headroom/headroom/SlidingLog$Log") (F1_ : Fld Z h0 d "com/example/headroom/headroom/SlidingLog$Log" "entries" "[J" (.ref t)) (F2_ : Fld Z h0 d "com/example/headroom/headroom/SlidingLog$Log" "first" "I" (.int (1 : Int32))) (F3_ : Fld Z h0 d "com/example/headroom/headroom/SlidingLog$Log" "size" "I" (.int (4 : Int32))) (F4_ : Fld Z h0 d "com/example/headroom/headroom/SlidingLog$Log" "admitted" "J" (.long adm)) (F5_ : own_L Z h0 t .long ([(.long w0), (.long w1), (.long w2), (.long w3), (.long w4), (.long w5), (.long w6), (.long w7)])) (ge_d : n0 ≤ d) (ne_d_t : d ≠ t) (hf0 : ¬ (q1 < w2)) (hf1 : ¬ (q1 < w4)) (hf2 : q1 < w6) :
    MetFree l (⟨"com/example/headroom/headroom/SlidingLog$Log", "forgetUpTo", "(J)V"⟩ : MethodName) (head1 (Jvm.Cond.code (⟨"com/example/headroom/headroom/SlidingLog$Log", "forgetUpTo", "(J)V"⟩ : MethodName) prog_48_method_4_code 3 none :: ws) ({ frames := 1, cells := 0, slots := 0, locals := 17 } : Room)) (fun za U => za = #[(.ref d), (.long q1)] ∧ Z.Warmed39 U.vm ∧ U.heap = h0) (fun _ _ _ _ _ => True) (fun _ U o U' => ∃ rv Lq, o = .returned rv ∧ Q_forgetUpTo_1_4_8_2 Z d q1 t adm w0 w1 w2 w3 w4 w5 w6 w7 h0 n0 rv U'.heap Lq ∧ FrameEnd U o U' Lq ({ frames := 1, cells := 0, slots := 0, locals := 17 } : Room).cells ({ frames := 1, cells := 0, slots := 0, locals := 17 } : Room).slots) := by
  refine MetFree.of_bodySF (plainFor_of_name pn_1) hisR ?_
  intro p e s m args below meth c s₁ Bd hml0 hP hK
  obtain ⟨rfl, hZ, hh⟩ := hP
  have hx := Bd.exec
  have hby := Bd.bytes
  have hml : c.maxLocals = 3 := hml0
  have hown : s.vm.findClass "com/example/headroom/headroom/SlidingLog$Log" = some m.cls := findClass_of_methodNamed Bd.named
  have hnm := (name_of_methodNamed Bd.named Bd.method).1
  have X0 : Stand p l e ({ frames := 1, cells := 0, slots := 0, locals := 17 } : Room) s m #[(.ref d), (.long q1)] below meth c s₁ [] 0 0 := Stand.of_body Bd
  have e0 : s₁.heap = h0 := by rw [← hh, Bd.state]; rfl
  have N0 := Fr.nil n0
  refine own_out (own_nm fun G hG => own_st (fun zt zk => castTop (ef_rm_forgetUpTo_1_4_8_2 m d q1) zk) ?_)
  show own_Go p e below G (s₁.setTop (mkF m 0 #[.val (.ref d), .val (.long q1), .second] []))
  refine own_st (fun zw zk => XS.aloadN X0.here hx rfl (hb hby d8_0) rfl rfl zk) ?_
  obtain ⟨T145, X145, e145, st145⟩ := getF X0 hx hZ hown (host := "") (Or.inl (hw _ (List.mem_of_getElem? (i := 26) rfl))) Via.refl e0 F3_ (g := (mkF m 1 #[.val (.ref d), .val (.long q1), .second] [(.ref d)])) rfl rfl (hb hby d8_1)
  refine own_st (fun zw zk => st145 zw zk) ?_
  refine own_st (fun zw zk => XS.ifNo X145.here hx rfl (hb hby d8_4) rfl ((if0 _ _).trans (tlt (by decide : (0 : Int32) < (4 : Int32))).2.2.2) zk) ?_
  refine own_st (fun zw zk => XS.aloadN X145.here hx rfl (hb hby d8_7) rfl rfl zk) ?_
  obtain ⟨T146, X146, e146, st146⟩ := getF X145 hx hZ hown (host := "") (Or.inl (hw _ (List.mem_of_getElem? (i := 17) rfl))) Via.refl e145 F1_ (g := (mkF m 8 #[.val (.ref d), .val (.long q1), .second] [(.ref d)])) rfl rfl (hb hby d8_8)
  refine own_st (fun zw zk => st146 zw zk) ?_
  refine own_st (fun zw zk => XS.aloadN X146.here hx rfl (hb hby d8_11) rfl rfl zk) ?_
  refine own_st (fun zw zk => XS.iconst X146.here hx rfl (hb hby d8_12) zk) ?_
  obtain ⟨cq147, q147, q147'⟩ := F0_.cell
  obtain ⟨_, _, ⟨T147, L147, k147, n147⟩, -, X147, ⟨Lc147, hQ147, l147, y147, z147⟩, st147⟩ := X146.privateBack hx (y := (⟨"com/example/headroom/headroom/SlidingLog$Log", "slot", "(I)I"⟩ : MethodName)) hown (mvT hZ (hw _ (List.mem_of_getElem? (i := 28) rfl))) (mvT hZ (hw _ (List.mem_of_getElem? (i := 29) rfl))) (own_selp hZ (hw _ (List.mem_of_getElem? (i := 3) rfl)) (hw _ (List.mem_of_getElem? (i := 30) rfl)) (hw _ (List.mem_of_getElem? (i := 29) rfl)) (by decide)) (Cond.privateMethod_at (mvP hZ (hw _ (List.mem_of_getElem? (i := 30) rfl)) (args := #[]))) (mvT hZ (hw _ (List.mem_of_getElem? (i := 31) rfl))) (by decide) (backOf (W := 1) (rm5 l Z a0 hw [] d (0 : Int32) t (1 : Int32) (8 : Int32) [(.long w0), (.long w1), (.long w2), (.long w3), (.long w4), (.long w5), (.long w6), (.long w7)] h0 n0 Z0 (F1_) (F2_) (F5_) (rfl)) hZ (hw _ (List.mem_of_getElem? (i := 31) rfl)) (hw _ (List.mem_of_getElem? (i := 4) rfl)) (by decide) (by decide)) (g := (mkF m 13 #[.val (.ref d), .val (.long q1), .second] [(.int (0 : Int32)), (.ref d), (.ref t)])) rfl (by rw [hml]; rfl) (Steps.refl _) (a := d) (by rw [e146]; exact q147) q147' (argsL := [(.int (0 : Int32))]) (rest := [(.ref t)]) (lenOf pd_1 rfl) rfl (by show 2 * 0 + _ ≤ _; exact Nat.le_of_eq rfl) (hb hby d8_13) (fun _ _ => ⟨rfl, e146, (by decide : 0 + 0 ≤ _), (by decide : 0 + 0 ≤ _)⟩)
  dsimp only [Pt.U, Pt.locs, Pt.cells, Pt.slots] at X147 l147 y147 z147 st147 hQ147
  subst l147 y147 z147
  obtain ⟨rfl, N147q, e147⟩ := hQ147
  have N147 := Fr.app N0 N147q
  refine own_jp st147 ?_
  show own_Go p e below G (T147.setTop (mkF m 16 #[.val (.ref d), .val (.long q1), .second] [(.int (2 : Int32)), (.ref t)]))
  refine own_st (fun zw zk => own_jld X147 hx hZ e147 F5_ (j := (2 : Int32)) (v := (.long w2)) (i := 2) (by decide) (by decide) rfl (g := (mkF m 16 #[.val (.ref d), .val (.long q1), .second] [(.int (2 : Int32)), (.ref t)])) rfl rfl (hb hby d8_16) _ zk) ?_
  refine own_st (fun zw zk => XS.lloadN X147.here hx rfl (hb hby d8_17) rfl zk) ?_
  refine own_st (fun zw zk => XS.lcmp X147.here hx rfl (hb hby d8_18) rfl zk) ?_
  have hc19 : ¬ (q1 < w2) := hf0
  refine own_st (fun zw zk => XS.ifNo X147.here hx rfl (hb hby d8_19) rfl ((if0 _ _).trans (flt (own_flg hc19)).2.2.1) zk) ?_
  refine own_st (fun zw zk => XS.aloadN X147.here hx rfl (hb hby d8_22) rfl rfl zk) ?_
  refine own_st (fun zw zk => XS.dup X147.here hx rfl (hb hby d8_23) rfl rfl zk) ?_
  obtain ⟨T148, X148, e148, st148⟩ := getF X147 hx hZ hown (host := "") (Or.inl (hw _ (List.mem_of_getElem? (i := 24) rfl))) Via.refl e147 F4_ (g := (mkF m 24 #[.val (.ref d), .val (.long q1), .second] [(.ref d), (.ref d)])) rfl rfl (hb hby d8_24)
  refine own_st (fun zw zk => st148 zw zk) ?_
  refine own_st (fun zw zk => XS.aloadN X148.here hx rfl (hb hby d8_27) rfl rfl zk) ?_
  show own_Go p e below G (T148.setTop (mkF m 28 #[.val (.ref d), .val (.long q1), .second] [(.ref d), (.long adm), (.ref d)]))
  obtain ⟨T149, X149, e149, st149⟩ := getF X148 hx hZ hown (host := "") (Or.inl (hw _ (List.mem_of_getElem? (i := 17) rfl))) Via.refl e148 F1_ (g := (mkF m 28 #[.val (.ref d), .val (.long q1), .second] [(.ref d), (.long adm), (.ref d)])) rfl rfl (hb hby d8_28)
  refine own_st (fun zw zk => st149 zw zk) ?_
  refine own_st (fun zw zk => XS.aloadN X149.here hx rfl (hb hby d8_31) rfl rfl zk) ?_
  refine own_st (fun zw zk => XS.iconst X149.here hx rfl (hb hby d8_32) zk) ?_
  obtain ⟨cq150, q150, q150'⟩ := F0_.cell
  obtain ⟨_, _, ⟨T150, L150, k150, n150⟩, -, X150, ⟨Lc150, hQ150, l150, y150, z150⟩, st150⟩ := X149.privateBack hx (y := (⟨"com/example/headroom/headroom/SlidingLog$Log", "slot", "(I)I"⟩ : MethodName)) hown (mvT hZ (hw _ (List.mem_of_getElem? (i := 28) rfl))) (mvT hZ (hw _ (List.mem_of_getElem? (i := 29) rfl))) (own_selp hZ (hw _ (List.mem_of_getElem? (i := 3) rfl)) (hw _ (List.mem_of_getElem? (i := 30) rfl)) (hw _ (List.mem_of_getElem? (i := 29) rfl)) (by decide)) (Cond.privateMethod_at (mvP hZ (hw _ (List.mem_of_getElem? (i := 30) rfl)) (args := #[]))) (mvT hZ (hw _ (List.mem_of_getElem? (i := 31) rfl))) (by decide) (backOf (W := 4) (rm5 l Z a0 hw [] d (0 : Int32) t (1 : Int32) (8 : Int32) [(.long w0), (.long w1), (.long w2), (.long w3), (.long w4), (.long w5), (.long w6), (.long w7)] h0 n0 Z0 (F1_) (F2_) (F5_) (rfl)) hZ (hw _ (List.mem_of_getElem? (i := 31) rfl)) (hw _ (List.mem_of_getElem? (i := 4) rfl)) (by decide) (by decide)) (g := (mkF m 33 #[.val (.ref d), .val (.long q1), .second] [(.int (0 : Int32)), (.ref d), (.ref t), (.long adm), (.ref d)])) rfl (by rw [hml]; rfl) (Steps.refl _) (a := d) (by rw [e149]; exact q150) q150' (argsL := [(.int (0 : Int32))]) (rest := [(.ref t), (.long adm), (.ref d)]) (lenOf pd_1 rfl) rfl (by show 2 * 0 + _ ≤ _; exact Nat.le_of_eq rfl) (hb hby d8_33) (fun _ _ => ⟨rfl, e149, (by decide : 0 + 0 ≤ _), (by decide : 0 + 0 ≤ _)⟩)
  dsimp only [Pt.U, Pt.locs, Pt.cells, Pt.slots] at X150 l150 y150 z150 st150 hQ150
  subst l150 y150 z150
  obtain ⟨rfl, N150q, e150⟩ := hQ150
  have N150 := Fr.app N147 N150q
  refine own_jp st150 ?_
  refine own_st (fun zw zk => XS.iconst X150.here hx rfl (hb hby d8_36) zk) ?_
  refine own_st (fun zw zk => XS.iadd X150.here hx rfl (hb hby d8_37) rfl zk) ?_
  refine own_st (fun zw zk => own_jld X150 hx hZ e150 F5_ (j := (3 : Int32)) (v := (.long w3)) (i := 3) (by decide) (by decide) rfl (g := (mkF m 38 #[.val (.ref d), .val (.long q1), .second] [(.int (3 : Int32)), (.ref t), (.long adm), (.ref d)])) rfl rfl (hb hby d8_38) _ zk) ?_
  refine own_st (fun zw zk => XS.lsub X150.here hx rfl (hb hby d8_39) rfl zk) ?_
  show own_Go p e below G (T150.setTop (mkF m 40 #[.val (.ref d), .val (.long q1), .second] [(.long (adm - w3)), (.ref d)]))
  obtain ⟨T151, h151, X151, e151, W151, st151⟩ := putF X150 hx hZ hown (host := "") (Or.inl (hw _ (List.mem_of_getElem? (i := 24) rfl))) Via.refl e150 F4_ F0_ (Or.inl (hw _ (List.mem_of_getElem? (i := 25) rfl))) (hw _ (List.mem_of_getElem? (i := 3) rfl)) (ty := .long) (by decide) rfl rfl (g := (mkF m 40 #[.val (.ref d), .val (.long q1), .second] [(.long (adm - w3)), (.ref d)])) rfl rfl (hb hby d8_40)
  have F4_151 := F4_.same W151
  have N151 := Fr.snoc X151 N150 ge_d
  refine own_st (fun zw zk => st151 zw zk) ?_
  have F0_151 := F0_.wr W151
  have F1_151 := F1_.other W151 (Or.inr (slot_ne (Or.inl (hw _ (List.mem_of_getElem? (i := 18) rfl))) (Or.inl (hw _ (List.mem_of_getElem? (i := 25) rfl))) (by decide) (t := (.array .long)) (t' := .long) (by decide) (by decide)))
  have F2_151 := F2_.other W151 (Or.inr (slot_ne (Or.inl (hw _ (List.mem_of_getElem? (i := 33) rfl))) (Or.inl (hw _ (List.mem_of_getElem? (i := 25) rfl))) (by decide) (t := .int) (t' := .long) (by decide) (by decide)))
  have F3_151 := F3_.other W151 (Or.inr (slot_ne (Or.inl (hw _ (List.mem_of_getElem? (i := 27) rfl))) (Or.inl (hw _ (List.mem_of_getElem? (i := 25) rfl))) (by decide) (t := .int) (t' := .long) (by decide) (by decide)))
  have F5_151 := F5_.other W151 (Ne.symm ne_d_t)
  have Z151 : n0 ≤ h151.size := Nat.le_trans Z0 (Keep.of_wr W151).1
  have Kp151 := (Keep.refl h0 [d]).wr W151 (Or.inl (List.mem_of_getElem? (i := 0) rfl))
  refine own_st (fun zw zk => XS.aloadN X151.here hx rfl (hb hby d8_43) rfl rfl zk) ?_
  refine own_st (fun zw zk => XS.aloadN X151.here hx rfl (hb hby d8_44) rfl rfl zk) ?_
  obtain ⟨T152, X152, e152, st152⟩ := getF X151 hx hZ hown (host := "") (Or.inl (hw _ (List.mem_of_getElem? (i := 32) rfl))) Via.refl e151 F2_151 (g := (mkF m 45 #[.val (.ref d), .val (.long q1), .second] [(.ref d), (.ref d)])) rfl rfl (hb hby d8_45)
  refine own_st (fun zw zk => st152 zw zk) ?_
  refine own_st (fun zw zk => XS.iconst X152.here hx rfl (hb hby d8_48) zk) ?_
  refine own_st (fun zw zk => XS.iadd X152.here hx rfl (hb hby d8_49) rfl zk) ?_
  refine own_st (fun zw zk => XS.aloadN X152.here hx rfl (hb hby d8_50) rfl rfl zk) ?_
  obtain ⟨T153, X153, e153, st153⟩ := getF X152 hx hZ hown (host := "") (Or.inl (hw _ (List.mem_of_getElem? (i := 17) rfl))) Via.refl e152 F1_151 (g := (mkF m 51 #[.val (.ref d), .val (.long q1), .second] [(.ref d), (.int (2 : Int32)), (.ref d)])) rfl rfl (hb hby d8_51)
  refine own_st (fun zw zk => st153 zw zk) ?_
  show own_Go p e below G (T153.setTop (mkF m 54 #[.val (.ref d), .val (.long q1), .second] [(.ref t), (.int (2 : Int32)), (.ref d)]))
  refine own_st (fun zw zk => own_len X153 hx hZ e153 F5_151 (z := (8 : Int32)) (rfl) (g := (mkF m 54 #[.val (.ref d), .val (.long q1), .second] [(.ref t), (.int (2 : Int32)), (.ref d)])) rfl rfl (hb hby d8_54) _ zk) ?_
  refine own_st (fun zw zk => XS.iconst X153.here hx rfl (hb hby d8_55) zk) ?_
  refine own_st (fun zw zk => XS.idiv X153.here hx rfl (hb hby d8_56) rfl (by decide) zk) ?_
  refine own_st (fun zw zk => XS.iconst X153.here hx rfl (hb hby d8_57) zk) ?_
  refine own_st (fun zw zk => XS.isub X153.here hx rfl (hb hby d8_58) rfl zk) ?_
  refine own_st (fun zw zk => XS.iand X153.here hx rfl (hb hby d8_59) rfl zk) ?_
  obtain ⟨T154, h154, X154, e154, W154, st154⟩ := putF X153 hx hZ hown (host := "") (Or.inl (hw _ (List.mem_of_getElem? (i := 32) rfl))) Via.refl e153 F2_151 F0_151 (Or.inl (hw _ (List.mem_of_getElem? (i := 33) rfl))) (hw _ (List.mem_of_getElem? (i := 3) rfl)) (ty := .int) (by decide) rfl rfl (g := (mkF m 60 #[.val (.ref d), .val (.long q1), .second] [(.int (2 : Int32)), (.ref d)])) rfl rfl (hb hby d8_60)
  have F2_154 := F2_151.same W154
  have N154 := Fr.snoc X154 N151 ge_d
  refine own_st (fun zw zk => st154 zw zk) ?_
  have F0_154 := F0_151.wr W154
  have F1_154 := F1_151.other W154 (Or.inr (slot_ne (Or.inl (hw _ (List.mem_of_getElem? (i := 18) rfl))) (Or.inl (hw _ (List.mem_of_getElem? (i := 33) rfl))) (by decide) (t := (.array .long)) (t' := .int) (by decide) (by decide)))
  have F3_154 := F3_151.other W154 (Or.inr (slot_ne (Or.inl (hw _ (List.mem_of_getElem? (i := 27) rfl))) (Or.inl (hw _ (List.mem_of_getElem? (i := 33) rfl))) (by decide) (t := .int) (t' := .int) (by decide) (by decide)))
  have F5_154 := F5_151.other W154 (Ne.symm ne_d_t)
  have F4_154 := F4_151.other W154 (Or.inr (slot_ne (Or.inl (hw _ (List.mem_of_getElem? (i := 25) rfl))) (Or.inl (hw _ (List.mem_of_getElem? (i := 33) rfl))) (by decide) (t := .long) (t' := .int) (by decide) (by decide)))
  have Z154 : n0 ≤ h154.size := Nat.le_trans Z151 (Keep.of_wr W154).1
  have Kp154 := Kp151.wr W154 (Or.inl (List.mem_of_getElem? (i := 0) rfl))
  refine own_st (fun zw zk => XS.aloadN X154.here hx rfl (hb hby d8_63) rfl rfl zk) ?_
  show own_Go p e below G (T154.setTop (mkF m 64 #[.val (.ref d), .val (.long q1), .second] [(.ref d)]))
  refine own_st (fun zw zk => XS.dup X154.here hx rfl (hb hby d8_64) rfl rfl zk) ?_
  obtain ⟨T155, X155, e155, st155⟩ := getF X154 hx hZ hown (host := "") (Or.inl (hw _ (List.mem_of_getElem? (i := 26) rfl))) Via.refl e154 F3_154 (g := (mkF m 65 #[.val (.ref d), .val (.long q1), .second] [(.ref d), (.ref d)])) rfl rfl (hb hby d8_65)
  refine own_st (fun zw zk => st155 zw zk) ?_
  refine own_st (fun zw zk => XS.iconst X155.here hx rfl (hb hby d8_68) zk) ?_
  refine own_st (fun zw zk => XS.isub X155.here hx rfl (hb hby d8_69) rfl zk) ?_
  obtain ⟨T156, h156, X156, e156, W156, st156⟩ := putF X155 hx hZ hown (host := "") (Or.inl (hw _ (List.mem_of_getElem? (i := 26) rfl))) Via.refl e155 F3_154 F0_154 (Or.inl (hw _ (List.mem_of_getElem? (i := 27) rfl))) (hw _ (List.mem_of_getElem? (i := 3) rfl)) (ty := .int) (by decide) rfl rfl (g := (mkF m 70 #[.val (.ref d), .val (.long q1), .second] [(.int (3 : Int32)), (.ref d)])) rfl rfl (hb hby d8_70)
  have F3_156 := F3_154.same W156
  have N156 := Fr.snoc X156 N154 ge_d
  refine own_st (fun zw zk => st156 zw zk) ?_
  have F0_156 := F0_154.wr W156
  have F1_156 := F1_154.other W156 (Or.inr (slot_ne (Or.inl (hw _ (List.mem_of_getElem? (i := 18) rfl))) (Or.inl (hw _ (List.mem_of_getElem? (i := 27) rfl))) (by decide) (t := (.array .long)) (t' := .int) (by decide) (by decide)))
  have F5_156 := F5_154.other W156 (Ne.symm ne_d_t)
  have F4_156 := F4_154.other W156 (Or.inr (slot_ne (Or.inl (hw _ (List.mem_of_getElem? (i := 25) rfl))) (Or.inl (hw _ (List.mem_of_getElem? (i := 27) rfl))) (by decide) (t := .long) (t' := .int) (by decide) (by decide)))
  have F2_156 := F2_154.other W156 (Or.inr (slot_ne (Or.inl (hw _ (List.mem_of_getElem? (i := 33) rfl))) (Or.inl (hw _ (List.mem_of_getElem? (i := 27) rfl))) (by decide) (t := .int) (t' := .int) (by decide) (by decide)))
  have Z156 : n0 ≤ h156.size := Nat.le_trans Z154 (Keep.of_wr W156).1
  have Kp156 := Kp154.wr W156 (Or.inl (List.mem_of_getElem? (i := 0) rfl))
  refine own_st (fun zw zk => XS.goto X156.here hx rfl (pc0 := 73) (pc' := 0) rfl (hb hby d8_73) (by decide) (by decide) zk) ?_
  show own_Go p e below G (T156.setTop (mkF m 0 #[.val (.ref d), .val (.long q1), .second] []))
  refine own_st (fun zw zk => XS.aloadN X156.here hx rfl (hb hby d8_0) rfl rfl zk) ?_
  obtain ⟨T157, X157, e157, st157⟩ := getF X156 hx hZ hown (host := "") (Or.inl (hw _ (List.mem_of_getElem? (i := 26) rfl))) Via.refl e156 F3_156 (g := (mkF m 1 #[.val (.ref d), .val (.long q1), .second] [(.ref d)])) rfl rfl (hb hby d8_1)
  refine own_st (fun zw zk => st157 zw zk) ?_
  refine own_st (fun zw zk => XS.ifNo X157.here hx rfl (hb hby d8_4) rfl ((if0 _ _).trans (tlt (by decide : (0 : Int32) < (3 : Int32))).2.2.2) zk) ?_
  refine own_st (fun zw zk => XS.aloadN X157.here hx rfl (hb hby d8_7) rfl rfl zk) ?_
  obtain ⟨T158, X158, e158, st158⟩ := getF X157 hx hZ hown (host := "") (Or.inl (hw _ (List.mem_of_getElem? (i := 17) rfl))) Via.refl e157 F1_156 (g := (mkF m 8 #[.val (.ref d), .val (.long q1), .second] [(.ref d)])) rfl rfl (hb hby d8_8)
  refine own_st (fun zw zk => st158 zw zk) ?_
  refine own_st (fun zw zk => XS.aloadN X158.here hx rfl (hb hby d8_11) rfl rfl zk) ?_
  refine own_st (fun zw zk => XS.iconst X158.here hx rfl (hb hby d8_12) zk) ?_
  obtain ⟨cq159, q159, q159'⟩ := F0_156.cell
  obtain ⟨_, _, ⟨T159, L159, k159, n159⟩, -, X159, ⟨Lc159, hQ159, l159, y159, z159⟩, st159⟩ := X158.privateBack hx (y := (⟨"com/example/headroom/headroom/SlidingLog$Log", "slot", "(I)I"⟩ : MethodName)) hown (mvT hZ (hw _ (List.mem_of_getElem? (i := 28) rfl))) (mvT hZ (hw _ (List.mem_of_getElem? (i := 29) rfl))) (own_selp hZ (hw _ (List.mem_of_getElem? (i := 3) rfl)) (hw _ (List.mem_of_getElem? (i := 30) rfl)) (hw _ (List.mem_of_getElem? (i := 29) rfl)) (by decide)) (Cond.privateMethod_at (mvP hZ (hw _ (List.mem_of_getElem? (i := 30) rfl)) (args := #[]))) (mvT hZ (hw _ (List.mem_of_getElem? (i := 31) rfl))) (by decide) (backOf (W := 1) (rm5 l Z a0 hw [] d (0 : Int32) t (2 : Int32) (8 : Int32) [(.long w0), (.long w1), (.long w2), (.long w3), (.long w4), (.long w5), (.long w6), (.long w7)] h156 n0 Z156 (F1_156) (F2_156) (F5_156) (rfl)) hZ (hw _ (List.mem_of_getElem? (i := 31) rfl)) (hw _ (List.mem_of_getElem? (i := 4) rfl)) (by decide) (by decide)) (g := (mkF m 13 #[.val (.ref d), .val (.long q1), .second] [(.int (0 : Int32)), (.ref d), (.ref t)])) rfl (by rw [hml]; rfl) (Steps.refl _) (a := d) (by rw [e158]; exact q159) q159' (argsL := [(.int (0 : Int32))]) (rest := [(.ref t)]) (lenOf pd_1 rfl) rfl (by show 2 * 0 + _ ≤ _; exact Nat.le_of_eq rfl) (hb hby d8_13) (fun _ _ => ⟨rfl, e158, (by decide : 0 + 0 ≤ _), (by decide : 0 + 0 ≤ _)⟩)
  dsimp only [Pt.U, Pt.locs, Pt.cells, Pt.slots] at X159 l159 y159 z159 st159 hQ159
  subst l159 y159 z159
  obtain ⟨rfl, N159q, e159⟩ := hQ159
  have N159 := Fr.app N156 N159q
  refine own_jp st159 ?_
  show own_Go p e below G (T159.setTop (mkF m 16 #[.val (.ref d), .val (.long q1), .second] [(.int (4 : Int32)), (.ref t)]))
  refine own_st (fun zw zk => own_jld X159 hx hZ e159 F5_156 (j := (4 : Int32)) (v := (.long w4)) (i := 4) (by decide) (by decide) rfl (g := (mkF m 16 #[.val (.ref d), .val (.long q1), .second] [(.int (4 : Int32)), (.ref t)])) rfl rfl (hb hby d8_16) _ zk) ?_
  refine own_st (fun zw zk => XS.lloadN X159.here hx rfl (hb hby d8_17) rfl zk) ?_
  refine own_st (fun zw zk => XS.lcmp X159.here hx rfl (hb hby d8_18) rfl zk) ?_
  have hc19_1 : ¬ (q1 < w4) := hf1
  refine own_st (fun zw zk => XS.ifNo X159.here hx rfl (hb hby d8_19) rfl ((if0 _ _).trans (flt (own_flg hc19_1)).2.2.1) zk) ?_
  refine own_st (fun zw zk => XS.aloadN X159.here hx rfl (hb hby d8_22) rfl rfl zk) ?_
  refine own_st (fun zw zk => XS.dup X159.here hx rfl (hb hby d8_23) rfl rfl zk) ?_
  obtain ⟨T160, X160, e160, st160⟩ := getF X159 hx hZ hown (host := "") (Or.inl (hw _ (List.mem_of_getElem? (i := 24) rfl))) Via.refl e159 F4_156 (g := (mkF m 24 #[.val (.ref d), .val (.long q1), .second] [(.ref d), (.ref d)])) rfl rfl (hb hby d8_24)
  refine own_st (fun zw zk => st160 zw zk) ?_
  refine own_st (fun zw zk => XS.aloadN X160.here hx rfl (hb hby d8_27) rfl rfl zk) ?_
  show own_Go p e below G (T160.setTop (mkF m 28 #[.val (.ref d), .val (.long q1), .second] [(.ref d), (.long (adm - w3)), (.ref d)]))
  obtain ⟨T161, X161, e161, st161⟩ := getF X160 hx hZ hown (host := "") (Or.inl (hw _ (List.mem_of_getElem? (i := 17) rfl))) Via.refl e160 F1_156 (g := (mkF m 28 #[.val (.ref d), .val (.long q1), .second] [(.ref d), (.long (adm - w3)), (.ref d)])) rfl rfl (hb hby d8_28)
  refine own_st (fun zw zk => st161 zw zk) ?_
  refine own_st (fun zw zk => XS.aloadN X161.here hx rfl (hb hby d8_31) rfl rfl zk) ?_
  refine own_st (fun zw zk => XS.iconst X161.here hx rfl (hb hby d8_32) zk) ?_
  obtain ⟨cq162, q162, q162'⟩ := F0_156.cell
  obtain ⟨_, _, ⟨T162, L162, k162, n162⟩, -, X162, ⟨Lc162, hQ162, l162, y162, z162⟩, st162⟩ := X161.privateBack hx (y := (⟨"com/example/headroom/headroom/SlidingLog$Log", "slot", "(I)I"⟩ : MethodName)) hown (mvT hZ (hw _ (List.mem_of_getElem? (i := 28) rfl))) (mvT hZ (hw _ (List.mem_of_getElem? (i := 29) rfl))) (own_selp hZ (hw _ (List.mem_of_getElem? (i := 3) rfl)) (hw _ (List.mem_of_getElem? (i := 30) rfl)) (hw _ (List.mem_of_getElem? (i := 29) rfl)) (by decide)) (Cond.privateMethod_at (mvP hZ (hw _ (List.mem_of_getElem? (i := 30) rfl)) (args := #[]))) (mvT hZ (hw _ (List.mem_of_getElem? (i := 31) rfl))) (by decide) (backOf (W := 4) (rm5 l Z a0 hw [] d (0 : Int32) t (2 : Int32) (8 : Int32) [(.long w0), (.long w1), (.long w2), (.long w3), (.long w4), (.long w5), (.long w6), (.long w7)] h156 n0 Z156 (F1_156) (F2_156) (F5_156) (rfl)) hZ (hw _ (List.mem_of_getElem? (i := 31) rfl)) (hw _ (List.mem_of_getElem? (i := 4) rfl)) (by decide) (by decide)) (g := (mkF m 33 #[.val (.ref d), .val (.long q1), .second] [(.int (0 : Int32)), (.ref d), (.ref t), (.long (adm - w3)), (.ref d)])) rfl (by rw [hml]; rfl) (Steps.refl _) (a := d) (by rw [e161]; exact q162) q162' (argsL := [(.int (0 : Int32))]) (rest := [(.ref t), (.long (adm - w3)), (.ref d)]) (lenOf pd_1 rfl) rfl (by show 2 * 0 + _ ≤ _; exact Nat.le_of_eq rfl) (hb hby d8_33) (fun _ _ => ⟨rfl, e161, (by decide : 0 + 0 ≤ _), (by decide : 0 + 0 ≤ _)⟩)
  dsimp only [Pt.U, Pt.locs, Pt.cells, Pt.slots] at X162 l162 y162 z162 st162 hQ162
  subst l162 y162 z162
  obtain ⟨rfl, N162q, e162⟩ := hQ162
  have N162 := Fr.app N159 N162q
  refine own_jp st162 ?_
  refine own_st (fun zw zk => XS.iconst X162.here hx rfl (hb hby d8_36) zk) ?_
  refine own_st (fun zw zk => XS.iadd X162.here hx rfl (hb hby d8_37) rfl zk) ?_
  refine own_st (fun zw zk => own_jld X162 hx hZ e162 F5_156 (j := (5 : Int32)) (v := (.long w5)) (i := 5) (by decide) (by decide) rfl (g := (mkF m 38 #[.val (.ref d), .val (.long q1), .second] [(.int (5 : Int32)), (.ref t), (.long (adm - w3)), (.ref d)])) rfl rfl (hb hby d8_38) _ zk) ?_
  refine own_st (fun zw zk => XS.lsub X162.here hx rfl (hb hby d8_39) rfl zk) ?_
  show own_Go p e below G (T162.setTop (mkF m 40 #[.val (.ref d), .val (.long q1), .second] [(.long ((adm - w3) - w5)), (.ref d)]))
  obtain ⟨T163, h163, X163, e163, W163, st163⟩ := putF X162 hx hZ hown (host := "") (Or.inl (hw _ (List.mem_of_getElem? (i := 24) rfl))) Via.refl e162 F4_156 F0_156 (Or.inl (hw _ (List.mem_of_getElem? (i := 25) rfl))) (hw _ (List.mem_of_getElem? (i := 3) rfl)) (ty := .long) (by decide) rfl rfl (g := (mkF m 40 #[.val (.ref d), .val (.long q1), .second] [(.long ((adm - w3) - w5)), (.ref d)])) rfl rfl (hb hby d8_40)
  have F4_163 := F4_156.same W163
  have N163 := Fr.snoc X163 N162 ge_d
  refine own_st (fun zw zk => st163 zw zk) ?_
  have F0_163 := F0_156.wr W163
  have F1_163 := F1_156.other W163 (Or.inr (slot_ne (Or.inl (hw _ (List.mem_of_getElem? (i := 18) rfl))) (Or.inl (hw _ (List.mem_of_getElem? (i := 25) rfl))) (by decide) (t := (.array .long)) (t' := .long) (by decide) (by decide)))
  have F5_163 := F5_156.other W163 (Ne.symm ne_d_t)
  have F2_163 := F2_156.other W163 (Or.inr (slot_ne (Or.inl (hw _ (List.mem_of_getElem? (i := 33) rfl))) (Or.inl (hw _ (List.mem_of_getElem? (i := 25) rfl))) (by decide) (t := .int) (t' := .long) (by decide) (by decide)))
  have F3_163 := F3_156.other W163 (Or.inr (slot_ne (Or.inl (hw _ (List.mem_of_getElem? (i := 27) rfl))) (Or.inl (hw _ (List.mem_of_getElem? (i := 25) rfl))) (by decide) (t := .int) (t' := .long) (by decide) (by decide)))
  have Z163 : n0 ≤ h163.size := Nat.le_trans Z156 (Keep.of_wr W163).1
  have Kp163 := Kp156.wr W163 (Or.inl (List.mem_of_getElem? (i := 0) rfl))
  refine own_st (fun zw zk => XS.aloadN X163.here hx rfl (hb hby d8_43) rfl rfl zk) ?_
  refine own_st (fun zw zk => XS.aloadN X163.here hx rfl (hb hby d8_44) rfl rfl zk) ?_
  obtain ⟨T164, X164, e164, st164⟩ := getF X163 hx hZ hown (host := "") (Or.inl (hw _ (List.mem_of_getElem? (i := 32) rfl))) Via.refl e163 F2_163 (g := (mkF m 45 #[.val (.ref d), .val (.long q1), .second] [(.ref d), (.ref d)])) rfl rfl (hb hby d8_45)
  refine own_st (fun zw zk => st164 zw zk) ?_
  refine own_st (fun zw zk => XS.iconst X164.here hx rfl (hb hby d8_48) zk) ?_
  refine own_st (fun zw zk => XS.iadd X164.here hx rfl (hb hby d8_49) rfl zk) ?_
  refine own_st (fun zw zk => XS.aloadN X164.here hx rfl (hb hby d8_50) rfl rfl zk) ?_
  obtain ⟨T165, X165, e165, st165⟩ := getF X164 hx hZ hown (host := "") (Or.inl (hw _ (List.mem_of_getElem? (i := 17) rfl))) Via.refl e164 F1_163 (g := (mkF m 51 #[.val (.ref d), .val (.long q1), .second] [(.ref d), (.int (3 : Int32)), (.ref d)])) rfl rfl (hb hby d8_51)
  refine own_st (fun zw zk => st165 zw zk) ?_
  show own_Go p e below G (T165.setTop (mkF m 54 #[.val (.ref d), .val (.long q1), .second] [(.ref t), (.int (3 : Int32)), (.ref d)]))
  refine own_st (fun zw zk => own_len X165 hx hZ e165 F5_163 (z := (8 : Int32)) (rfl) (g := (mkF m 54 #[.val (.ref d), .val (.long q1), .second] [(.ref t), (.int (3 : Int32)), (.ref d)])) rfl rfl (hb hby d8_54) _ zk) ?_
  refine own_st (fun zw zk => XS.iconst X165.here hx rfl (hb hby d8_55) zk) ?_
  refine own_st (fun zw zk => XS.idiv X165.here hx rfl (hb hby d8_56) rfl (by decide) zk) ?_
  refine own_st (fun zw zk => XS.iconst X165.here hx rfl (hb hby d8_57) zk) ?_
  refine own_st (fun zw zk => XS.isub X165.here hx rfl (hb hby d8_58) rfl zk) ?_
  refine own_st (fun zw zk => XS.iand X165.here hx rfl (hb hby d8_59) rfl zk) ?_
  obtain ⟨T166, h166, X166, e166, W166, st166⟩ := putF X165 hx hZ hown (host := "") (Or.inl (hw _ (List.mem_of_getElem? (i := 32) rfl))) Via.refl e165 F2_163 F0_163 (Or.inl (hw _ (List.mem_of_getElem? (i := 33) rfl))) (hw _ (List.mem_of_getElem? (i := 3) rfl)) (ty := .int) (by decide) rfl rfl (g := (mkF m 60 #[.val (.ref d), .val (.long q1), .second] [(.int (3 : Int32)), (.ref d)])) rfl rfl (hb hby d8_60)
  have F2_166 := F2_163.same W166
  have N166 := Fr.snoc X166 N163 ge_d
  refine own_st (fun zw zk => st166 zw zk) ?_
  have F0_166 := F0_163.wr W166
  have F1_166 := F1_163.other W166 (Or.inr (slot_ne (Or.inl (hw _ (List.mem_of_getElem? (i := 18) rfl))) (Or.inl (hw _ (List.mem_of_getElem? (i := 33) rfl))) (by decide) (t := (.array .long)) (t' := .int) (by decide) (by decide)))
  have F5_166 := F5_163.other W166 (Ne.symm ne_d_t)
  have F3_166 := F3_163.other W166 (Or.inr (slot_ne (Or.inl (hw _ (List.mem_of_getElem? (i := 27) rfl))) (Or.inl (hw _ (List.mem_of_getElem? (i := 33) rfl))) (by decide) (t := .int) (t' := .int) (by decide) (by decide)))
  have F4_166 := F4_163.other W166 (Or.inr (slot_ne (Or.inl (hw _ (List.mem_of_getElem? (i := 25) rfl))) (Or.inl (hw _ (List.mem_of_getElem? (i := 33) rfl))) (by decide) (t := .long) (t' := .int) (by decide) (by decide)))
  have Z166 : n0 ≤ h166.size := Nat.le_trans Z163 (Keep.of_wr W166).1
  have Kp166 := Kp163.wr W166 (Or.inl (List.mem_of_getElem? (i := 0) rfl))
  refine own_st (fun zw zk => XS.aloadN X166.here hx rfl (hb hby d8_63) rfl rfl zk) ?_
  show own_Go p e below G (T166.setTop (mkF m 64 #[.val (.ref d), .val (.long q1), .second] [(.ref d)]))
  refine own_st (fun zw zk => XS.dup X166.here hx rfl (hb hby d8_64) rfl rfl zk) ?_
  obtain ⟨T167, X167, e167, st167⟩ := getF X166 hx hZ hown (host := "") (Or.inl (hw _ (List.mem_of_getElem? (i := 26) rfl))) Via.refl e166 F3_166 (g := (mkF m 65 #[.val (.ref d), .val (.long q1), .second] [(.ref d), (.ref d)])) rfl rfl (hb hby d8_65)
  refine own_st (fun zw zk => st167 zw zk) ?_
  refine own_st (fun zw zk => XS.iconst X167.here hx rfl (hb hby d8_68) zk) ?_
  refine own_st (fun zw zk => XS.isub X167.here hx rfl (hb hby d8_69) rfl zk) ?_
  obtain ⟨T168, h168, X168, e168, W168, st168⟩ := putF X167 hx hZ hown (host := "") (Or.inl (hw _ (List.mem_of_getElem? (i := 26) rfl))) Via.refl e167 F3_166 F0_166 (Or.inl (hw _ (List.mem_of_getElem? (i := 27) rfl))) (hw _ (List.mem_of_getElem? (i := 3) rfl)) (ty := .int) (by decide) rfl rfl (g := (mkF m 70 #[.val (.ref d), .val (.long q1), .second] [(.int (2 : Int32)), (.ref d)])) rfl rfl (hb hby d8_70)
  have F3_168 := F3_166.same W168
  have N168 := Fr.snoc X168 N166 ge_d
  refine own_st (fun zw zk => st168 zw zk) ?_
  have F0_168 := F0_166.wr W168
  have F1_168 := F1_166.other W168 (Or.inr (slot_ne (Or.inl (hw _ (List.mem_of_getElem? (i := 18) rfl))) (Or.inl (hw _ (List.mem_of_getElem? (i := 27) rfl))) (by decide) (t := (.array .long)) (t' := .int) (by decide) (by decide)))
  have F5_168 := F5_166.other W168 (Ne.symm ne_d_t)
  have F4_168 := F4_166.other W168 (Or.inr (slot_ne (Or.inl (hw _ (List.mem_of_getElem? (i := 25) rfl))) (Or.inl (hw _ (List.mem_of_getElem? (i := 27) rfl))) (by decide) (t := .long) (t' := .int) (by decide) (by decide)))
  have F2_168 := F2_166.other W168 (Or.inr (slot_ne (Or.inl (hw _ (List.mem_of_getElem? (i := 33) rfl))) (Or.inl (hw _ (List.mem_of_getElem? (i := 27) rfl))) (by decide) (t := .int) (t' := .int) (by decide) (by decide)))
  have Z168 : n0 ≤ h168.size := Nat.le_trans Z166 (Keep.of_wr W168).1
  have Kp168 := Kp166.wr W168 (Or.inl (List.mem_of_getElem? (i := 0) rfl))
  refine own_st (fun zw zk => XS.goto X168.here hx rfl (pc0 := 73) (pc' := 0) rfl (hb hby d8_73) (by decide) (by decide) zk) ?_
  show own_Go p e below G (T168.setTop (mkF m 0 #[.val (.ref d), .val (.long q1), .second] []))
  refine own_st (fun zw zk => XS.aloadN X168.here hx rfl (hb hby d8_0) rfl rfl zk) ?_
  obtain ⟨T169, X169, e169, st169⟩ := getF X168 hx hZ hown (host := "") (Or.inl (hw _ (List.mem_of_getElem? (i := 26) rfl))) Via.refl e168 F3_168 (g := (mkF m 1 #[.val (.ref d), .val (.long q1), .second] [(.ref d)])) rfl rfl (hb hby d8_1)
  refine own_st (fun zw zk => st169 zw zk) ?_
  refine own_st (fun zw zk => XS.ifNo X169.here hx rfl (hb hby d8_4) rfl ((if0 _ _).trans (tlt (by decide : (0 : Int32) < (2 : Int32))).2.2.2) zk) ?_
  refine own_st (fun zw zk => XS.aloadN X169.here hx rfl (hb hby d8_7) rfl rfl zk) ?_
  obtain ⟨T170, X170, e170, st170⟩ := getF X169 hx hZ hown (host := "") (Or.inl (hw _ (List.mem_of_getElem? (i := 17) rfl))) Via.refl e169 F1_168 (g := (mkF m 8 #[.val (.ref d), .val (.long q1), .second] [(.ref d)])) rfl rfl (hb hby d8_8)
  refine own_st (fun zw zk => st170 zw zk) ?_
  refine own_st (fun zw zk => XS.aloadN X170.here hx rfl (hb hby d8_11) rfl rfl zk) ?_
  refine own_st (fun zw zk => XS.iconst X170.here hx rfl (hb hby d8_12) zk) ?_
  obtain ⟨cq171, q171, q171'⟩ := F0_168.cell
  obtain ⟨_, _, ⟨T171, L171, k171, n171⟩, -, X171, ⟨Lc171, hQ171, l171, y171, z171⟩, st171⟩ := X170.privateBack hx (y := (⟨"com/example/headroom/headroom/SlidingLog$Log", "slot", "(I)I"⟩ : MethodName)) hown (mvT hZ (hw _ (List.mem_of_getElem? (i := 28) rfl))) (mvT hZ (hw _ (List.mem_of_getElem? (i := 29) rfl))) (own_selp hZ (hw _ (List.mem_of_getElem? (i := 3) rfl)) (hw _ (List.mem_of_getElem? (i := 30) rfl)) (hw _ (List.mem_of_getElem? (i := 29) rfl)) (by decide)) (Cond.privateMethod_at (mvP hZ (hw _ (List.mem_of_getElem? (i := 30) rfl)) (args := #[]))) (mvT hZ (hw _ (List.mem_of_getElem? (i := 31) rfl))) (by decide) (backOf (W := 1) (rm5 l Z a0 hw [] d (0 : Int32) t (3 : Int32) (8 : Int32) [(.long w0), (.long w1), (.long w2), (.long w3), (.long w4), (.long w5), (.long w6), (.long w7)] h168 n0 Z168 (F1_168) (F2_168) (F5_168) (rfl)) hZ (hw _ (List.mem_of_getElem? (i := 31) rfl)) (hw _ (List.mem_of_getElem? (i := 4) rfl)) (by decide) (by decide)) (g := (mkF m 13 #[.val (.ref d), .val (.long q1), .second] [(.int (0 : Int32)), (.ref d), (.ref t)])) rfl (by rw [hml]; rfl) (Steps.refl _) (a := d) (by rw [e170]; exact q171) q171' (argsL := [(.int (0 : Int32))]) (rest := [(.ref t)]) (lenOf pd_1 rfl) rfl (by show 2 * 0 + _ ≤ _; exact Nat.le_of_eq rfl) (hb hby d8_13) (fun _ _ => ⟨rfl, e170, (by decide : 0 + 0 ≤ _), (by decide : 0 + 0 ≤ _)⟩)
  dsimp only [Pt.U, Pt.locs, Pt.cells, Pt.slots] at X171 l171 y171 z171 st171 hQ171
  subst l171 y171 z171
  obtain ⟨rfl, N171q, e171⟩ := hQ171
  have N171 := Fr.app N168 N171q
  refine own_jp st171 ?_
  show own_Go p e below G (T171.setTop (mkF m 16 #[.val (.ref d), .val (.long q1), .second] [(.int (6 : Int32)), (.ref t)]))
  refine own_st (fun zw zk => own_jld X171 hx hZ e171 F5_168 (j := (6 : Int32)) (v := (.long w6)) (i := 6) (by decide) (by decide) rfl (g := (mkF m 16 #[.val (.ref d), .val (.long q1), .second] [(.int (6 : Int32)), (.ref t)])) rfl rfl (hb hby d8_16) _ zk) ?_
  refine own_st (fun zw zk => XS.lloadN X171.here hx rfl (hb hby d8_17) rfl zk) ?_
  refine own_st (fun zw zk => XS.lcmp X171.here hx rfl (hb hby d8_18) rfl zk) ?_
  have hc19_2 : q1 < w6 := hf2
  refine own_st (fun zw zk => XS.ifYes X171.here hx rfl (pc0 := 19) (pc' := 76) rfl (hb hby d8_19) rfl ((if0 _ _).trans (tlt (own_tlg hc19_2)).2.2.1) (by decide) (by decide) zk) ?_
  subst hG
  obtain ⟨fs, hr, hrun, hended, hW, hsame⟩ := X171.leave (v := none) (hlocks := Bd.notSynchronized) (fun _ => rfl)
  refine ⟨_, X171.returnOut hx Bd.returns (hb hby d8_76) hr, _, hrun, hended, _, _, rfl, ?_, ⟨_, rfl⟩, hW, hsame.mono (by decide) (by decide)⟩
  show Q_forgetUpTo_1_4_8_2 Z d q1 t adm w0 w1 w2 w3 w4 w5 w6 w7 h0 n0 _ T171.heap _
  rw [e171]
  exact ⟨rfl, N171, Kp168, F0_168, F1_168, F2_168, F3_168, F4_168⟩
theorem ef_rm_forgetUpTo_1_4_8_3 (m : MethodId) (d : Addr) (q1 : Int64) : entryFrame m #[(.ref d), (.long q1)] 3 = mkF m 0 #[.val (.ref d), .val (.long q1), .second] [] := by first | (simp [entryFrame, mkF, argsToLocals, Value.category]; done) | rfl
def Q_forgetUpTo_1_4_8_3 (Z : State) (d : Addr) (q1 : Int64) (t : Addr) (adm : Int64) (w0 : Int64) (w1 : Int64) (w2 : Int64) (w3 : Int64) (w4 : Int64) (w5 : Int64) (w6 : Int64) (w7 : Int64) (h0 : Heap) (n0 : Nat) (rv : Option Value) (hq : Heap) (Lq : List Loc) : Prop := rv = none ∧ Fr n0 Lq ∧ Keep h0 hq [d] ∧ Exa Z hq d "com/example/headroom/headroom/SlidingLog$Log" ∧ Fld Z hq d "com/example/headroom/headroom/SlidingLog$Log" "entries" "[J" (.ref t) ∧ Fld Z hq d "com/example/headroom/headroom/SlidingLog$Log" "first" "I" (.int (0 : Int32)) ∧ Fld Z hq d "com/example/headroom/headroom/SlidingLog$Log" "size" "I" (.int (1 : Int32)) ∧ Fld Z hq d "com/example/headroom/headroom/SlidingLog$Log" "admitted" "J" (.long (((adm - w3) - w5) - w7))
set_option maxRecDepth 65536 in
set_option maxHeartbeats 40000000 in
theorem rm_forgetUpTo_1_4_8_3 (l : Launch) (Z : State) (a0 : Array Value) (hw : ∀ d ∈ tables_1, d.before a0 Z = true) (ws : List Jvm.Cond) (d : Addr) (q1 : Int64) (t : Addr) (adm : Int64) (w0 : Int64) (w1 : Int64) (w2 : Int64) (w3 : Int64) (w4 : Int64) (w5 : Int64) (w6 : Int64) (w7 : Int64) (h0 : Heap) (n0 : Nat) (Z0 : n0 ≤ h0.size) (F0_ : Exa Z h0 d "com/example/headroom/headroom/SlidingLog$Log") (F1_ : Fld Z h0 d "com/example/headroom/headroom/SlidingLog$Log" "entries" "[J" (.ref t)) (F2_ : Fld Z h0 d "com/example/headroom/headroom/SlidingLog$Log" "first" "I" (.int (1 : Int32))) (F3_ : Fld Z h0 d "com/example/headroom/headroom/SlidingLog$Log" "size" "I" (.int (4 : Int32))) (F4_ : Fld Z h0 d "com/example/headroom/headroom/SlidingLog$Log" "admitted" "J" (.long adm)) (F5_ : own_L Z h0 t .long ([(.long w0), (.long w1), (.long w2), (.long w3), (.long w4), (.long w5), (.long w6), (.long w7)])) (ge_d : n0 ≤ d) (ne_d_t : d ≠ t) (hf0 : ¬ (q1 < w2)) (hf1 : ¬ (q1 < w4)) (hf2 : ¬ (q1 < w6)) (hf3 : q1 < w0) :
    MetFree l (⟨"com/example/headroom/headroom/SlidingLog$Log", "forgetUpTo", "(J)V"⟩ : MethodName) (head1 (Jvm.Cond.code (⟨"com/example/headroom/headroom/SlidingLog$Log", "forgetUpTo", "(J)V"⟩ : MethodName) prog_48_method_4_code 3 none :: ws) ({ frames := 1, cells := 0, slots := 0, locals := 17 } : Room)) (fun za U => za = #[(.ref d), (.long q1)] ∧ Z.Warmed39 U.vm ∧ U.heap = h0) (fun _ _ _ _ _ => True) (fun _ U o U' => ∃ rv Lq, o = .returned rv ∧ Q_forgetUpTo_1_4_8_3 Z d q1 t adm w0 w1 w2 w3 w4 w5 w6 w7 h0 n0 rv U'.heap Lq ∧ FrameEnd U o U' Lq ({ frames := 1, cells := 0, slots := 0, locals := 17 } : Room).cells ({ frames := 1, cells := 0, slots := 0, locals := 17 } : Room).slots) := by
  refine MetFree.of_bodySF (plainFor_of_name pn_1) hisR ?_
  intro p e s m args below meth c s₁ Bd hml0 hP hK
  obtain ⟨rfl, hZ, hh⟩ := hP
  have hx := Bd.exec
  have hby := Bd.bytes
  have hml : c.maxLocals = 3 := hml0
  have hown : s.vm.findClass "com/example/headroom/headroom/SlidingLog$Log" = some m.cls := findClass_of_methodNamed Bd.named
  have hnm := (name_of_methodNamed Bd.named Bd.method).1
  have X0 : Stand p l e ({ frames := 1, cells := 0, slots := 0, locals := 17 } : Room) s m #[(.ref d), (.long q1)] below meth c s₁ [] 0 0 := Stand.of_body Bd
  have e0 : s₁.heap = h0 := by rw [← hh, Bd.state]; rfl
  have N0 := Fr.nil n0
  refine own_out (own_nm fun G hG => own_st (fun zt zk => castTop (ef_rm_forgetUpTo_1_4_8_3 m d q1) zk) ?_)
  show own_Go p e below G (s₁.setTop (mkF m 0 #[.val (.ref d), .val (.long q1), .second] []))
  refine own_st (fun zw zk => XS.aloadN X0.here hx rfl (hb hby d8_0) rfl rfl zk) ?_
  obtain ⟨T172, X172, e172, st172⟩ := getF X0 hx hZ hown (host := "") (Or.inl (hw _ (List.mem_of_getElem? (i := 26) rfl))) Via.refl e0 F3_ (g := (mkF m 1 #[.val (.ref d), .val (.long q1), .second] [(.ref d)])) rfl rfl (hb hby d8_1)
  refine own_st (fun zw zk => st172 zw zk) ?_
  refine own_st (fun zw zk => XS.ifNo X172.here hx rfl (hb hby d8_4) rfl ((if0 _ _).trans (tlt (by decide : (0 : Int32) < (4 : Int32))).2.2.2) zk) ?_
  refine own_st (fun zw zk => XS.aloadN X172.here hx rfl (hb hby d8_7) rfl rfl zk) ?_
  obtain ⟨T173, X173, e173, st173⟩ := getF X172 hx hZ hown (host := "") (Or.inl (hw _ (List.mem_of_getElem? (i := 17) rfl))) Via.refl e172 F1_ (g := (mkF m 8 #[.val (.ref d), .val (.long q1), .second] [(.ref d)])) rfl rfl (hb hby d8_8)
  refine own_st (fun zw zk => st173 zw zk) ?_
  refine own_st (fun zw zk => XS.aloadN X173.here hx rfl (hb hby d8_11) rfl rfl zk) ?_
  refine own_st (fun zw zk => XS.iconst X173.here hx rfl (hb hby d8_12) zk) ?_
  obtain ⟨cq174, q174, q174'⟩ := F0_.cell
  obtain ⟨_, _, ⟨T174, L174, k174, n174⟩, -, X174, ⟨Lc174, hQ174, l174, y174, z174⟩, st174⟩ := X173.privateBack hx (y := (⟨"com/example/headroom/headroom/SlidingLog$Log", "slot", "(I)I"⟩ : MethodName)) hown (mvT hZ (hw _ (List.mem_of_getElem? (i := 28) rfl))) (mvT hZ (hw _ (List.mem_of_getElem? (i := 29) rfl))) (own_selp hZ (hw _ (List.mem_of_getElem? (i := 3) rfl)) (hw _ (List.mem_of_getElem? (i := 30) rfl)) (hw _ (List.mem_of_getElem? (i := 29) rfl)) (by decide)) (Cond.privateMethod_at (mvP hZ (hw _ (List.mem_of_getElem? (i := 30) rfl)) (args := #[]))) (mvT hZ (hw _ (List.mem_of_getElem? (i := 31) rfl))) (by decide) (backOf (W := 1) (rm5 l Z a0 hw [] d (0 : Int32) t (1 : Int32) (8 : Int32) [(.long w0), (.long w1), (.long w2), (.long w3), (.long w4), (.long w5), (.long w6), (.long w7)] h0 n0 Z0 (F1_) (F2_) (F5_) (rfl)) hZ (hw _ (List.mem_of_getElem? (i := 31) rfl)) (hw _ (List.mem_of_getElem? (i := 4) rfl)) (by decide) (by decide)) (g := (mkF m 13 #[.val (.ref d), .val (.long q1), .second] [(.int (0 : Int32)), (.ref d), (.ref t)])) rfl (by rw [hml]; rfl) (Steps.refl _) (a := d) (by rw [e173]; exact q174) q174' (argsL := [(.int (0 : Int32))]) (rest := [(.ref t)]) (lenOf pd_1 rfl) rfl (by show 2 * 0 + _ ≤ _; exact Nat.le_of_eq rfl) (hb hby d8_13) (fun _ _ => ⟨rfl, e173, (by decide : 0 + 0 ≤ _), (by decide : 0 + 0 ≤ _)⟩)
  dsimp only [Pt.U, Pt.locs, Pt.cells, Pt.slots] at X174 l174 y174 z174 st174 hQ174
  subst l174 y174 z174
  obtain ⟨rfl, N174q, e174⟩ := hQ174
  have N174 := Fr.app N0 N174q
  refine own_jp st174 ?_
  show own_Go p e below G (T174.setTop (mkF m 16 #[.val (.ref d), .val (.long q1), .second] [(.int (2 : Int32)), (.ref t)]))
  refine own_st (fun zw zk => own_jld X174 hx hZ e174 F5_ (j := (2 : Int32)) (v := (.long w2)) (i := 2) (by decide) (by decide) rfl (g := (mkF m 16 #[.val (.ref d), .val (.long q1), .second] [(.int (2 : Int32)), (.ref t)])) rfl rfl (hb hby d8_16) _ zk) ?_
  refine own_st (fun zw zk => XS.lloadN X174.here hx rfl (hb hby d8_17) rfl zk) ?_
  refine own_st (fun zw zk => XS.lcmp X174.here hx rfl (hb hby d8_18) rfl zk) ?_
  have hc19 : ¬ (q1 < w2) := hf0
  refine own_st (fun zw zk => XS.ifNo X174.here hx rfl (hb hby d8_19) rfl ((if0 _ _).trans (flt (own_flg hc19)).2.2.1) zk) ?_
  refine own_st (fun zw zk => XS.aloadN X174.here hx rfl (hb hby d8_22) rfl rfl zk) ?_
  refine own_st (fun zw zk => XS.dup X174.here hx rfl (hb hby d8_23) rfl rfl zk) ?_
  obtain ⟨T175, X175, e175, st175⟩ := getF X174 hx hZ hown (host := "") (Or.inl (hw _ (List.mem_of_getElem? (i := 24) rfl))) Via.refl e174 F4_ (g := (mkF m 24 #[.val (.ref d), .val (.long q1), .second] [(.ref d), (.ref d)])) rfl rfl (hb hby d8_24)
  refine own_st (fun zw zk => st175 zw zk) ?_
  refine own_st (fun zw zk => XS.aloadN X175.here hx rfl (hb hby d8_27) rfl rfl zk) ?_
  show own_Go p e below G (T175.setTop (mkF m 28 #[.val (.ref d), .val (.long q1), .second] [(.ref d), (.long adm), (.ref d)]))
  obtain ⟨T176, X176, e176, st176⟩ := getF X175 hx hZ hown (host := "") (Or.inl (hw _ (List.mem_of_getElem? (i := 17) rfl))) Via.refl e175 F1_ (g := (mkF m 28 #[.val (.ref d), .val (.long q1), .second] [(.ref d), (.long adm), (.ref d)])) rfl rfl (hb hby d8_28)
  refine own_st (fun zw zk => st176 zw zk) ?_
  refine own_st (fun zw zk => XS.aloadN X176.here hx rfl (hb hby d8_31) rfl rfl zk) ?_
  refine own_st (fun zw zk => XS.iconst X176.here hx rfl (hb hby d8_32) zk) ?_
  obtain ⟨cq177, q177, q177'⟩ := F0_.cell
  obtain ⟨_, _, ⟨T177, L177, k177, n177⟩, -, X177, ⟨Lc177, hQ177, l177, y177, z177⟩, st177⟩ := X176.privateBack hx (y := (⟨"com/example/headroom/headroom/SlidingLog$Log", "slot", "(I)I"⟩ : MethodName)) hown (mvT hZ (hw _ (List.mem_of_getElem? (i := 28) rfl))) (mvT hZ (hw _ (List.mem_of_getElem? (i := 29) rfl))) (own_selp hZ (hw _ (List.mem_of_getElem? (i := 3) rfl)) (hw _ (List.mem_of_getElem? (i := 30) rfl)) (hw _ (List.mem_of_getElem? (i := 29) rfl)) (by decide)) (Cond.privateMethod_at (mvP hZ (hw _ (List.mem_of_getElem? (i := 30) rfl)) (args := #[]))) (mvT hZ (hw _ (List.mem_of_getElem? (i := 31) rfl))) (by decide) (backOf (W := 4) (rm5 l Z a0 hw [] d (0 : Int32) t (1 : Int32) (8 : Int32) [(.long w0), (.long w1), (.long w2), (.long w3), (.long w4), (.long w5), (.long w6), (.long w7)] h0 n0 Z0 (F1_) (F2_) (F5_) (rfl)) hZ (hw _ (List.mem_of_getElem? (i := 31) rfl)) (hw _ (List.mem_of_getElem? (i := 4) rfl)) (by decide) (by decide)) (g := (mkF m 33 #[.val (.ref d), .val (.long q1), .second] [(.int (0 : Int32)), (.ref d), (.ref t), (.long adm), (.ref d)])) rfl (by rw [hml]; rfl) (Steps.refl _) (a := d) (by rw [e176]; exact q177) q177' (argsL := [(.int (0 : Int32))]) (rest := [(.ref t), (.long adm), (.ref d)]) (lenOf pd_1 rfl) rfl (by show 2 * 0 + _ ≤ _; exact Nat.le_of_eq rfl) (hb hby d8_33) (fun _ _ => ⟨rfl, e176, (by decide : 0 + 0 ≤ _), (by decide : 0 + 0 ≤ _)⟩)
  dsimp only [Pt.U, Pt.locs, Pt.cells, Pt.slots] at X177 l177 y177 z177 st177 hQ177
  subst l177 y177 z177
  obtain ⟨rfl, N177q, e177⟩ := hQ177
  have N177 := Fr.app N174 N177q
  refine own_jp st177 ?_
  refine own_st (fun zw zk => XS.iconst X177.here hx rfl (hb hby d8_36) zk) ?_
  refine own_st (fun zw zk => XS.iadd X177.here hx rfl (hb hby d8_37) rfl zk) ?_
  refine own_st (fun zw zk => own_jld X177 hx hZ e177 F5_ (j := (3 : Int32)) (v := (.long w3)) (i := 3) (by decide) (by decide) rfl (g := (mkF m 38 #[.val (.ref d), .val (.long q1), .second] [(.int (3 : Int32)), (.ref t), (.long adm), (.ref d)])) rfl rfl (hb hby d8_38) _ zk) ?_
  refine own_st (fun zw zk => XS.lsub X177.here hx rfl (hb hby d8_39) rfl zk) ?_
  show own_Go p e below G (T177.setTop (mkF m 40 #[.val (.ref d), .val (.long q1), .second] [(.long (adm - w3)), (.ref d)]))
  obtain ⟨T178, h178, X178, e178, W178, st178⟩ := putF X177 hx hZ hown (host := "") (Or.inl (hw _ (List.mem_of_getElem? (i := 24) rfl))) Via.refl e177 F4_ F0_ (Or.inl (hw _ (List.mem_of_getElem? (i := 25) rfl))) (hw _ (List.mem_of_getElem? (i := 3) rfl)) (ty := .long) (by decide) rfl rfl (g := (mkF m 40 #[.val (.ref d), .val (.long q1), .second] [(.long (adm - w3)), (.ref d)])) rfl rfl (hb hby d8_40)
  have F4_178 := F4_.same W178
  have N178 := Fr.snoc X178 N177 ge_d
  refine own_st (fun zw zk => st178 zw zk) ?_
  have F0_178 := F0_.wr W178
  have F1_178 := F1_.other W178 (Or.inr (slot_ne (Or.inl (hw _ (List.mem_of_getElem? (i := 18) rfl))) (Or.inl (hw _ (List.mem_of_getElem? (i := 25) rfl))) (by decide) (t := (.array .long)) (t' := .long) (by decide) (by decide)))
  have F2_178 := F2_.other W178 (Or.inr (slot_ne (Or.inl (hw _ (List.mem_of_getElem? (i := 33) rfl))) (Or.inl (hw _ (List.mem_of_getElem? (i := 25) rfl))) (by decide) (t := .int) (t' := .long) (by decide) (by decide)))
  have F3_178 := F3_.other W178 (Or.inr (slot_ne (Or.inl (hw _ (List.mem_of_getElem? (i := 27) rfl))) (Or.inl (hw _ (List.mem_of_getElem? (i := 25) rfl))) (by decide) (t := .int) (t' := .long) (by decide) (by decide)))
  have F5_178 := F5_.other W178 (Ne.symm ne_d_t)
  have Z178 : n0 ≤ h178.size := Nat.le_trans Z0 (Keep.of_wr W178).1
  have Kp178 := (Keep.refl h0 [d]).wr W178 (Or.inl (List.mem_of_getElem? (i := 0) rfl))
  refine own_st (fun zw zk => XS.aloadN X178.here hx rfl (hb hby d8_43) rfl rfl zk) ?_
  refine own_st (fun zw zk => XS.aloadN X178.here hx rfl (hb hby d8_44) rfl rfl zk) ?_
  obtain ⟨T179, X179, e179, st179⟩ := getF X178 hx hZ hown (host := "") (Or.inl (hw _ (List.mem_of_getElem? (i := 32) rfl))) Via.refl e178 F2_178 (g := (mkF m 45 #[.val (.ref d), .val (.long q1), .second] [(.ref d), (.ref d)])) rfl rfl (hb hby d8_45)
  refine own_st (fun zw zk => st179 zw zk) ?_
  refine own_st (fun zw zk => XS.iconst X179.here hx rfl (hb hby d8_48) zk) ?_
  refine own_st (fun zw zk => XS.iadd X179.here hx rfl (hb hby d8_49) rfl zk) ?_
  refine own_st (fun zw zk => XS.aloadN X179.here hx rfl (hb hby d8_50) rfl rfl zk) ?_
  obtain ⟨T180, X180, e180, st180⟩ := getF X179 hx hZ hown (host := "") (Or.inl (hw _ (List.mem_of_getElem? (i := 17) rfl))) Via.refl e179 F1_178 (g := (mkF m 51 #[.val (.ref d), .val (.long q1), .second] [(.ref d), (.int (2 : Int32)), (.ref d)])) rfl rfl (hb hby d8_51)
  refine own_st (fun zw zk => st180 zw zk) ?_
  show own_Go p e below G (T180.setTop (mkF m 54 #[.val (.ref d), .val (.long q1), .second] [(.ref t), (.int (2 : Int32)), (.ref d)]))
  refine own_st (fun zw zk => own_len X180 hx hZ e180 F5_178 (z := (8 : Int32)) (rfl) (g := (mkF m 54 #[.val (.ref d), .val (.long q1), .second] [(.ref t), (.int (2 : Int32)), (.ref d)])) rfl rfl (hb hby d8_54) _ zk) ?_
  refine own_st (fun zw zk => XS.iconst X180.here hx rfl (hb hby d8_55) zk) ?_
  refine own_st (fun zw zk => XS.idiv X180.here hx rfl (hb hby d8_56) rfl (by decide) zk) ?_
  refine own_st (fun zw zk => XS.iconst X180.here hx rfl (hb hby d8_57) zk) ?_
  refine own_st (fun zw zk => XS.isub X180.here hx rfl (hb hby d8_58) rfl zk) ?_
  refine own_st (fun zw zk => XS.iand X180.here hx rfl (hb hby d8_59) rfl zk) ?_
  obtain ⟨T181, h181, X181, e181, W181, st181⟩ := putF X180 hx hZ hown (host := "") (Or.inl (hw _ (List.mem_of_getElem? (i := 32) rfl))) Via.refl e180 F2_178 F0_178 (Or.inl (hw _ (List.mem_of_getElem? (i := 33) rfl))) (hw _ (List.mem_of_getElem? (i := 3) rfl)) (ty := .int) (by decide) rfl rfl (g := (mkF m 60 #[.val (.ref d), .val (.long q1), .second] [(.int (2 : Int32)), (.ref d)])) rfl rfl (hb hby d8_60)
  have F2_181 := F2_178.same W181
  have N181 := Fr.snoc X181 N178 ge_d
  refine own_st (fun zw zk => st181 zw zk) ?_
  have F0_181 := F0_178.wr W181
  have F1_181 := F1_178.other W181 (Or.inr (slot_ne (Or.inl (hw _ (List.mem_of_getElem? (i := 18) rfl))) (Or.inl (hw _ (List.mem_of_getElem? (i := 33) rfl))) (by decide) (t := (.array .long)) (t' := .int) (by decide) (by decide)))
  have F3_181 := F3_178.other W181 (Or.inr (slot_ne (Or.inl (hw _ (List.mem_of_getElem? (i := 27) rfl))) (Or.inl (hw _ (List.mem_of_getElem? (i := 33) rfl))) (by decide) (t := .int) (t' := .int) (by decide) (by decide)))
  have F5_181 := F5_178.other W181 (Ne.symm ne_d_t)
  have F4_181 := F4_178.other W181 (Or.inr (slot_ne (Or.inl (hw _ (List.mem_of_getElem? (i := 25) rfl))) (Or.inl (hw _ (List.mem_of_getElem? (i := 33) rfl))) (by decide) (t := .long) (t' := .int) (by decide) (by decide)))
  have Z181 : n0 ≤ h181.size := Nat.le_trans Z178 (Keep.of_wr W181).1
  have Kp181 := Kp178.wr W181 (Or.inl (List.mem_of_getElem? (i := 0) rfl))
  refine own_st (fun zw zk => XS.aloadN X181.here hx rfl (hb hby d8_63) rfl rfl zk) ?_
  show own_Go p e below G (T181.setTop (mkF m 64 #[.val (.ref d), .val (.long q1), .second] [(.ref d)]))
  refine own_st (fun zw zk => XS.dup X181.here hx rfl (hb hby d8_64) rfl rfl zk) ?_
  obtain ⟨T182, X182, e182, st182⟩ := getF X181 hx hZ hown (host := "") (Or.inl (hw _ (List.mem_of_getElem? (i := 26) rfl))) Via.refl e181 F3_181 (g := (mkF m 65 #[.val (.ref d), .val (.long q1), .second] [(.ref d), (.ref d)])) rfl rfl (hb hby d8_65)
  refine own_st (fun zw zk => st182 zw zk) ?_
  refine own_st (fun zw zk => XS.iconst X182.here hx rfl (hb hby d8_68) zk) ?_
  refine own_st (fun zw zk => XS.isub X182.here hx rfl (hb hby d8_69) rfl zk) ?_
  obtain ⟨T183, h183, X183, e183, W183, st183⟩ := putF X182 hx hZ hown (host := "") (Or.inl (hw _ (List.mem_of_getElem? (i := 26) rfl))) Via.refl e182 F3_181 F0_181 (Or.inl (hw _ (List.mem_of_getElem? (i := 27) rfl))) (hw _ (List.mem_of_getElem? (i := 3) rfl)) (ty := .int) (by decide) rfl rfl (g := (mkF m 70 #[.val (.ref d), .val (.long q1), .second] [(.int (3 : Int32)), (.ref d)])) rfl rfl (hb hby d8_70)
  have F3_183 := F3_181.same W183
  have N183 := Fr.snoc X183 N181 ge_d
  refine own_st (fun zw zk => st183 zw zk) ?_
  have F0_183 := F0_181.wr W183
  have F1_183 := F1_181.other W183 (Or.inr (slot_ne (Or.inl (hw _ (List.mem_of_getElem? (i := 18) rfl))) (Or.inl (hw _ (List.mem_of_getElem? (i := 27) rfl))) (by decide) (t := (.array .long)) (t' := .int) (by decide) (by decide)))
  have F5_183 := F5_181.other W183 (Ne.symm ne_d_t)
  have F4_183 := F4_181.other W183 (Or.inr (slot_ne (Or.inl (hw _ (List.mem_of_getElem? (i := 25) rfl))) (Or.inl (hw _ (List.mem_of_getElem? (i := 27) rfl))) (by decide) (t := .long) (t' := .int) (by decide) (by decide)))
  have F2_183 := F2_181.other W183 (Or.inr (slot_ne (Or.inl (hw _ (List.mem_of_getElem? (i := 33) rfl))) (Or.inl (hw _ (List.mem_of_getElem? (i := 27) rfl))) (by decide) (t := .int) (t' := .int) (by decide) (by decide)))
  have Z183 : n0 ≤ h183.size := Nat.le_trans Z181 (Keep.of_wr W183).1
  have Kp183 := Kp181.wr W183 (Or.inl (List.mem_of_getElem? (i := 0) rfl))
  refine own_st (fun zw zk => XS.goto X183.here hx rfl (pc0 := 73) (pc' := 0) rfl (hb hby d8_73) (by decide) (by decide) zk) ?_
  show own_Go p e below G (T183.setTop (mkF m 0 #[.val (.ref d), .val (.long q1), .second] []))
  refine own_st (fun zw zk => XS.aloadN X183.here hx rfl (hb hby d8_0) rfl rfl zk) ?_
  obtain ⟨T184, X184, e184, st184⟩ := getF X183 hx hZ hown (host := "") (Or.inl (hw _ (List.mem_of_getElem? (i := 26) rfl))) Via.refl e183 F3_183 (g := (mkF m 1 #[.val (.ref d), .val (.long q1), .second] [(.ref d)])) rfl rfl (hb hby d8_1)
  refine own_st (fun zw zk => st184 zw zk) ?_
  refine own_st (fun zw zk => XS.ifNo X184.here hx rfl (hb hby d8_4) rfl ((if0 _ _).trans (tlt (by decide : (0 : Int32) < (3 : Int32))).2.2.2) zk) ?_
  refine own_st (fun zw zk => XS.aloadN X184.here hx rfl (hb hby d8_7) rfl rfl zk) ?_
  obtain ⟨T185, X185, e185, st185⟩ := getF X184 hx hZ hown (host := "") (Or.inl (hw _ (List.mem_of_getElem? (i := 17) rfl))) Via.refl e184 F1_183 (g := (mkF m 8 #[.val (.ref d), .val (.long q1), .second] [(.ref d)])) rfl rfl (hb hby d8_8)
  refine own_st (fun zw zk => st185 zw zk) ?_
  refine own_st (fun zw zk => XS.aloadN X185.here hx rfl (hb hby d8_11) rfl rfl zk) ?_
  refine own_st (fun zw zk => XS.iconst X185.here hx rfl (hb hby d8_12) zk) ?_
  obtain ⟨cq186, q186, q186'⟩ := F0_183.cell
  obtain ⟨_, _, ⟨T186, L186, k186, n186⟩, -, X186, ⟨Lc186, hQ186, l186, y186, z186⟩, st186⟩ := X185.privateBack hx (y := (⟨"com/example/headroom/headroom/SlidingLog$Log", "slot", "(I)I"⟩ : MethodName)) hown (mvT hZ (hw _ (List.mem_of_getElem? (i := 28) rfl))) (mvT hZ (hw _ (List.mem_of_getElem? (i := 29) rfl))) (own_selp hZ (hw _ (List.mem_of_getElem? (i := 3) rfl)) (hw _ (List.mem_of_getElem? (i := 30) rfl)) (hw _ (List.mem_of_getElem? (i := 29) rfl)) (by decide)) (Cond.privateMethod_at (mvP hZ (hw _ (List.mem_of_getElem? (i := 30) rfl)) (args := #[]))) (mvT hZ (hw _ (List.mem_of_getElem? (i := 31) rfl))) (by decide) (backOf (W := 1) (rm5 l Z a0 hw [] d (0 : Int32) t (2 : Int32) (8 : Int32) [(.long w0), (.long w1), (.long w2), (.long w3), (.long w4), (.long w5), (.long w6), (.long w7)] h183 n0 Z183 (F1_183) (F2_183) (F5_183) (rfl)) hZ (hw _ (List.mem_of_getElem? (i := 31) rfl)) (hw _ (List.mem_of_getElem? (i := 4) rfl)) (by decide) (by decide)) (g := (mkF m 13 #[.val (.ref d), .val (.long q1), .second] [(.int (0 : Int32)), (.ref d), (.ref t)])) rfl (by rw [hml]; rfl) (Steps.refl _) (a := d) (by rw [e185]; exact q186) q186' (argsL := [(.int (0 : Int32))]) (rest := [(.ref t)]) (lenOf pd_1 rfl) rfl (by show 2 * 0 + _ ≤ _; exact Nat.le_of_eq rfl) (hb hby d8_13) (fun _ _ => ⟨rfl, e185, (by decide : 0 + 0 ≤ _), (by decide : 0 + 0 ≤ _)⟩)
  dsimp only [Pt.U, Pt.locs, Pt.cells, Pt.slots] at X186 l186 y186 z186 st186 hQ186
  subst l186 y186 z186
  obtain ⟨rfl, N186q, e186⟩ := hQ186
  have N186 := Fr.app N183 N186q
  refine own_jp st186 ?_
  show own_Go p e below G (T186.setTop (mkF m 16 #[.val (.ref d), .val (.long q1), .second] [(.int (4 : Int32)), (.ref t)]))
  refine own_st (fun zw zk => own_jld X186 hx hZ e186 F5_183 (j := (4 : Int32)) (v := (.long w4)) (i := 4) (by decide) (by decide) rfl (g := (mkF m 16 #[.val (.ref d), .val (.long q1), .second] [(.int (4 : Int32)), (.ref t)])) rfl rfl (hb hby d8_16) _ zk) ?_
  refine own_st (fun zw zk => XS.lloadN X186.here hx rfl (hb hby d8_17) rfl zk) ?_
  refine own_st (fun zw zk => XS.lcmp X186.here hx rfl (hb hby d8_18) rfl zk) ?_
  have hc19_1 : ¬ (q1 < w4) := hf1
  refine own_st (fun zw zk => XS.ifNo X186.here hx rfl (hb hby d8_19) rfl ((if0 _ _).trans (flt (own_flg hc19_1)).2.2.1) zk) ?_
  refine own_st (fun zw zk => XS.aloadN X186.here hx rfl (hb hby d8_22) rfl rfl zk) ?_
  refine own_st (fun zw zk => XS.dup X186.here hx rfl (hb hby d8_23) rfl rfl zk) ?_
  obtain ⟨T187, X187, e187, st187⟩ := getF X186 hx hZ hown (host := "") (Or.inl (hw _ (List.mem_of_getElem? (i := 24) rfl))) Via.refl e186 F4_183 (g := (mkF m 24 #[.val (.ref d), .val (.long q1), .second] [(.ref d), (.ref d)])) rfl rfl (hb hby d8_24)
  refine own_st (fun zw zk => st187 zw zk) ?_
  refine own_st (fun zw zk => XS.aloadN X187.here hx rfl (hb hby d8_27) rfl rfl zk) ?_
  show own_Go p e below G (T187.setTop (mkF m 28 #[.val (.ref d), .val (.long q1), .second] [(.ref d), (.long (adm - w3)), (.ref d)]))
  obtain ⟨T188, X188, e188, st188⟩ := getF X187 hx hZ hown (host := "") (Or.inl (hw _ (List.mem_of_getElem? (i := 17) rfl))) Via.refl e187 F1_183 (g := (mkF m 28 #[.val (.ref d), .val (.long q1), .second] [(.ref d), (.long (adm - w3)), (.ref d)])) rfl rfl (hb hby d8_28)
  refine own_st (fun zw zk => st188 zw zk) ?_
  refine own_st (fun zw zk => XS.aloadN X188.here hx rfl (hb hby d8_31) rfl rfl zk) ?_
  refine own_st (fun zw zk => XS.iconst X188.here hx rfl (hb hby d8_32) zk) ?_
  obtain ⟨cq189, q189, q189'⟩ := F0_183.cell
  obtain ⟨_, _, ⟨T189, L189, k189, n189⟩, -, X189, ⟨Lc189, hQ189, l189, y189, z189⟩, st189⟩ := X188.privateBack hx (y := (⟨"com/example/headroom/headroom/SlidingLog$Log", "slot", "(I)I"⟩ : MethodName)) hown (mvT hZ (hw _ (List.mem_of_getElem? (i := 28) rfl))) (mvT hZ (hw _ (List.mem_of_getElem? (i := 29) rfl))) (own_selp hZ (hw _ (List.mem_of_getElem? (i := 3) rfl)) (hw _ (List.mem_of_getElem? (i := 30) rfl)) (hw _ (List.mem_of_getElem? (i := 29) rfl)) (by decide)) (Cond.privateMethod_at (mvP hZ (hw _ (List.mem_of_getElem? (i := 30) rfl)) (args := #[]))) (mvT hZ (hw _ (List.mem_of_getElem? (i := 31) rfl))) (by decide) (backOf (W := 4) (rm5 l Z a0 hw [] d (0 : Int32) t (2 : Int32) (8 : Int32) [(.long w0), (.long w1), (.long w2), (.long w3), (.long w4), (.long w5), (.long w6), (.long w7)] h183 n0 Z183 (F1_183) (F2_183) (F5_183) (rfl)) hZ (hw _ (List.mem_of_getElem? (i := 31) rfl)) (hw _ (List.mem_of_getElem? (i := 4) rfl)) (by decide) (by decide)) (g := (mkF m 33 #[.val (.ref d), .val (.long q1), .second] [(.int (0 : Int32)), (.ref d), (.ref t), (.long (adm - w3)), (.ref d)])) rfl (by rw [hml]; rfl) (Steps.refl _) (a := d) (by rw [e188]; exact q189) q189' (argsL := [(.int (0 : Int32))]) (rest := [(.ref t), (.long (adm - w3)), (.ref d)]) (lenOf pd_1 rfl) rfl (by show 2 * 0 + _ ≤ _; exact Nat.le_of_eq rfl) (hb hby d8_33) (fun _ _ => ⟨rfl, e188, (by decide : 0 + 0 ≤ _), (by decide : 0 + 0 ≤ _)⟩)
  dsimp only [Pt.U, Pt.locs, Pt.cells, Pt.slots] at X189 l189 y189 z189 st189 hQ189
  subst l189 y189 z189
  obtain ⟨rfl, N189q, e189⟩ := hQ189
  have N189 := Fr.app N186 N189q
  refine own_jp st189 ?_
  refine own_st (fun zw zk => XS.iconst X189.here hx rfl (hb hby d8_36) zk) ?_
  refine own_st (fun zw zk => XS.iadd X189.here hx rfl (hb hby d8_37) rfl zk) ?_
  refine own_st (fun zw zk => own_jld X189 hx hZ e189 F5_183 (j := (5 : Int32)) (v := (.long w5)) (i := 5) (by decide) (by decide) rfl (g := (mkF m 38 #[.val (.ref d), .val (.long q1), .second] [(.int (5 : Int32)), (.ref t), (.long (adm - w3)), (.ref d)])) rfl rfl (hb hby d8_38) _ zk) ?_
  refine own_st (fun zw zk => XS.lsub X189.here hx rfl (hb hby d8_39) rfl zk) ?_
  show own_Go p e below G (T189.setTop (mkF m 40 #[.val (.ref d), .val (.long q1), .second] [(.long ((adm - w3) - w5)), (.ref d)]))
  obtain ⟨T190, h190, X190, e190, W190, st190⟩ := putF X189 hx hZ hown (host := "") (Or.inl (hw _ (List.mem_of_getElem? (i := 24) rfl))) Via.refl e189 F4_183 F0_183 (Or.inl (hw _ (List.mem_of_getElem? (i := 25) rfl))) (hw _ (List.mem_of_getElem? (i := 3) rfl)) (ty := .long) (by decide) rfl rfl (g := (mkF m 40 #[.val (.ref d), .val (.long q1), .second] [(.long ((adm - w3) - w5)), (.ref d)])) rfl rfl (hb hby d8_40)
  have F4_190 := F4_183.same W190
  have N190 := Fr.snoc X190 N189 ge_d
  refine own_st (fun zw zk => st190 zw zk) ?_
  have F0_190 := F0_183.wr W190
  have F1_190 := F1_183.other W190 (Or.inr (slot_ne (Or.inl (hw _ (List.mem_of_getElem? (i := 18) rfl))) (Or.inl (hw _ (List.mem_of_getElem? (i := 25) rfl))) (by decide) (t := (.array .long)) (t' := .long) (by decide) (by decide)))
  have F5_190 := F5_183.other W190 (Ne.symm ne_d_t)
  have F2_190 := F2_183.other W190 (Or.inr (slot_ne (Or.inl (hw _ (List.mem_of_getElem? (i := 33) rfl))) (Or.inl (hw _ (List.mem_of_getElem? (i := 25) rfl))) (by decide) (t := .int) (t' := .long) (by decide) (by decide)))
  have F3_190 := F3_183.other W190 (Or.inr (slot_ne (Or.inl (hw _ (List.mem_of_getElem? (i := 27) rfl))) (Or.inl (hw _ (List.mem_of_getElem? (i := 25) rfl))) (by decide) (t := .int) (t' := .long) (by decide) (by decide)))
  have Z190 : n0 ≤ h190.size := Nat.le_trans Z183 (Keep.of_wr W190).1
  have Kp190 := Kp183.wr W190 (Or.inl (List.mem_of_getElem? (i := 0) rfl))
  refine own_st (fun zw zk => XS.aloadN X190.here hx rfl (hb hby d8_43) rfl rfl zk) ?_
  refine own_st (fun zw zk => XS.aloadN X190.here hx rfl (hb hby d8_44) rfl rfl zk) ?_
  obtain ⟨T191, X191, e191, st191⟩ := getF X190 hx hZ hown (host := "") (Or.inl (hw _ (List.mem_of_getElem? (i := 32) rfl))) Via.refl e190 F2_190 (g := (mkF m 45 #[.val (.ref d), .val (.long q1), .second] [(.ref d), (.ref d)])) rfl rfl (hb hby d8_45)
  refine own_st (fun zw zk => st191 zw zk) ?_
  refine own_st (fun zw zk => XS.iconst X191.here hx rfl (hb hby d8_48) zk) ?_
  refine own_st (fun zw zk => XS.iadd X191.here hx rfl (hb hby d8_49) rfl zk) ?_
  refine own_st (fun zw zk => XS.aloadN X191.here hx rfl (hb hby d8_50) rfl rfl zk) ?_
  obtain ⟨T192, X192, e192, st192⟩ := getF X191 hx hZ hown (host := "") (Or.inl (hw _ (List.mem_of_getElem? (i := 17) rfl))) Via.refl e191 F1_190 (g := (mkF m 51 #[.val (.ref d), .val (.long q1), .second] [(.ref d), (.int (3 : Int32)), (.ref d)])) rfl rfl (hb hby d8_51)
  refine own_st (fun zw zk => st192 zw zk) ?_
  show own_Go p e below G (T192.setTop (mkF m 54 #[.val (.ref d), .val (.long q1), .second] [(.ref t), (.int (3 : Int32)), (.ref d)]))
  refine own_st (fun zw zk => own_len X192 hx hZ e192 F5_190 (z := (8 : Int32)) (rfl) (g := (mkF m 54 #[.val (.ref d), .val (.long q1), .second] [(.ref t), (.int (3 : Int32)), (.ref d)])) rfl rfl (hb hby d8_54) _ zk) ?_
  refine own_st (fun zw zk => XS.iconst X192.here hx rfl (hb hby d8_55) zk) ?_
  refine own_st (fun zw zk => XS.idiv X192.here hx rfl (hb hby d8_56) rfl (by decide) zk) ?_
  refine own_st (fun zw zk => XS.iconst X192.here hx rfl (hb hby d8_57) zk) ?_
  refine own_st (fun zw zk => XS.isub X192.here hx rfl (hb hby d8_58) rfl zk) ?_
  refine own_st (fun zw zk => XS.iand X192.here hx rfl (hb hby d8_59) rfl zk) ?_
  obtain ⟨T193, h193, X193, e193, W193, st193⟩ := putF X192 hx hZ hown (host := "") (Or.inl (hw _ (List.mem_of_getElem? (i := 32) rfl))) Via.refl e192 F2_190 F0_190 (Or.inl (hw _ (List.mem_of_getElem? (i := 33) rfl))) (hw _ (List.mem_of_getElem? (i := 3) rfl)) (ty := .int) (by decide) rfl rfl (g := (mkF m 60 #[.val (.ref d), .val (.long q1), .second] [(.int (3 : Int32)), (.ref d)])) rfl rfl (hb hby d8_60)
  have F2_193 := F2_190.same W193
  have N193 := Fr.snoc X193 N190 ge_d
  refine own_st (fun zw zk => st193 zw zk) ?_
  have F0_193 := F0_190.wr W193
  have F1_193 := F1_190.other W193 (Or.inr (slot_ne (Or.inl (hw _ (List.mem_of_getElem? (i := 18) rfl))) (Or.inl (hw _ (List.mem_of_getElem? (i := 33) rfl))) (by decide) (t := (.array .long)) (t' := .int) (by decide) (by decide)))
  have F5_193 := F5_190.other W193 (Ne.symm ne_d_t)
  have F3_193 := F3_190.other W193 (Or.inr (slot_ne (Or.inl (hw _ (List.mem_of_getElem? (i := 27) rfl))) (Or.inl (hw _ (List.mem_of_getElem? (i := 33) rfl))) (by decide) (t := .int) (t' := .int) (by decide) (by decide)))
  have F4_193 := F4_190.other W193 (Or.inr (slot_ne (Or.inl (hw _ (List.mem_of_getElem? (i := 25) rfl))) (Or.inl (hw _ (List.mem_of_getElem? (i := 33) rfl))) (by decide) (t := .long) (t' := .int) (by decide) (by decide)))
  have Z193 : n0 ≤ h193.size := Nat.le_trans Z190 (Keep.of_wr W193).1
  have Kp193 := Kp190.wr W193 (Or.inl (List.mem_of_getElem? (i := 0) rfl))
  refine own_st (fun zw zk => XS.aloadN X193.here hx rfl (hb hby d8_63) rfl rfl zk) ?_
  show own_Go p e below G (T193.setTop (mkF m 64 #[.val (.ref d), .val (.long q1), .second] [(.ref d)]))
  refine own_st (fun zw zk => XS.dup X193.here hx rfl (hb hby d8_64) rfl rfl zk) ?_
  obtain ⟨T194, X194, e194, st194⟩ := getF X193 hx hZ hown (host := "") (Or.inl (hw _ (List.mem_of_getElem? (i := 26) rfl))) Via.refl e193 F3_193 (g := (mkF m 65 #[.val (.ref d), .val (.long q1), .second] [(.ref d), (.ref d)])) rfl rfl (hb hby d8_65)
  refine own_st (fun zw zk => st194 zw zk) ?_
  refine own_st (fun zw zk => XS.iconst X194.here hx rfl (hb hby d8_68) zk) ?_
  refine own_st (fun zw zk => XS.isub X194.here hx rfl (hb hby d8_69) rfl zk) ?_
  obtain ⟨T195, h195, X195, e195, W195, st195⟩ := putF X194 hx hZ hown (host := "") (Or.inl (hw _ (List.mem_of_getElem? (i := 26) rfl))) Via.refl e194 F3_193 F0_193 (Or.inl (hw _ (List.mem_of_getElem? (i := 27) rfl))) (hw _ (List.mem_of_getElem? (i := 3) rfl)) (ty := .int) (by decide) rfl rfl (g := (mkF m 70 #[.val (.ref d), .val (.long q1), .second] [(.int (2 : Int32)), (.ref d)])) rfl rfl (hb hby d8_70)
  have F3_195 := F3_193.same W195
  have N195 := Fr.snoc X195 N193 ge_d
  refine own_st (fun zw zk => st195 zw zk) ?_
  have F0_195 := F0_193.wr W195
  have F1_195 := F1_193.other W195 (Or.inr (slot_ne (Or.inl (hw _ (List.mem_of_getElem? (i := 18) rfl))) (Or.inl (hw _ (List.mem_of_getElem? (i := 27) rfl))) (by decide) (t := (.array .long)) (t' := .int) (by decide) (by decide)))
  have F5_195 := F5_193.other W195 (Ne.symm ne_d_t)
  have F4_195 := F4_193.other W195 (Or.inr (slot_ne (Or.inl (hw _ (List.mem_of_getElem? (i := 25) rfl))) (Or.inl (hw _ (List.mem_of_getElem? (i := 27) rfl))) (by decide) (t := .long) (t' := .int) (by decide) (by decide)))
  have F2_195 := F2_193.other W195 (Or.inr (slot_ne (Or.inl (hw _ (List.mem_of_getElem? (i := 33) rfl))) (Or.inl (hw _ (List.mem_of_getElem? (i := 27) rfl))) (by decide) (t := .int) (t' := .int) (by decide) (by decide)))
  have Z195 : n0 ≤ h195.size := Nat.le_trans Z193 (Keep.of_wr W195).1
  have Kp195 := Kp193.wr W195 (Or.inl (List.mem_of_getElem? (i := 0) rfl))
  refine own_st (fun zw zk => XS.goto X195.here hx rfl (pc0 := 73) (pc' := 0) rfl (hb hby d8_73) (by decide) (by decide) zk) ?_
  show own_Go p e below G (T195.setTop (mkF m 0 #[.val (.ref d), .val (.long q1), .second] []))
  refine own_st (fun zw zk => XS.aloadN X195.here hx rfl (hb hby d8_0) rfl rfl zk) ?_
  obtain ⟨T196, X196, e196, st196⟩ := getF X195 hx hZ hown (host := "") (Or.inl (hw _ (List.mem_of_getElem? (i := 26) rfl))) Via.refl e195 F3_195 (g := (mkF m 1 #[.val (.ref d), .val (.long q1), .second] [(.ref d)])) rfl rfl (hb hby d8_1)
  refine own_st (fun zw zk => st196 zw zk) ?_
  refine own_st (fun zw zk => XS.ifNo X196.here hx rfl (hb hby d8_4) rfl ((if0 _ _).trans (tlt (by decide : (0 : Int32) < (2 : Int32))).2.2.2) zk) ?_
  refine own_st (fun zw zk => XS.aloadN X196.here hx rfl (hb hby d8_7) rfl rfl zk) ?_
  obtain ⟨T197, X197, e197, st197⟩ := getF X196 hx hZ hown (host := "") (Or.inl (hw _ (List.mem_of_getElem? (i := 17) rfl))) Via.refl e196 F1_195 (g := (mkF m 8 #[.val (.ref d), .val (.long q1), .second] [(.ref d)])) rfl rfl (hb hby d8_8)
  refine own_st (fun zw zk => st197 zw zk) ?_
  refine own_st (fun zw zk => XS.aloadN X197.here hx rfl (hb hby d8_11) rfl rfl zk) ?_
  refine own_st (fun zw zk => XS.iconst X197.here hx rfl (hb hby d8_12) zk) ?_
  obtain ⟨cq198, q198, q198'⟩ := F0_195.cell
  obtain ⟨_, _, ⟨T198, L198, k198, n198⟩, -, X198, ⟨Lc198, hQ198, l198, y198, z198⟩, st198⟩ := X197.privateBack hx (y := (⟨"com/example/headroom/headroom/SlidingLog$Log", "slot", "(I)I"⟩ : MethodName)) hown (mvT hZ (hw _ (List.mem_of_getElem? (i := 28) rfl))) (mvT hZ (hw _ (List.mem_of_getElem? (i := 29) rfl))) (own_selp hZ (hw _ (List.mem_of_getElem? (i := 3) rfl)) (hw _ (List.mem_of_getElem? (i := 30) rfl)) (hw _ (List.mem_of_getElem? (i := 29) rfl)) (by decide)) (Cond.privateMethod_at (mvP hZ (hw _ (List.mem_of_getElem? (i := 30) rfl)) (args := #[]))) (mvT hZ (hw _ (List.mem_of_getElem? (i := 31) rfl))) (by decide) (backOf (W := 1) (rm5 l Z a0 hw [] d (0 : Int32) t (3 : Int32) (8 : Int32) [(.long w0), (.long w1), (.long w2), (.long w3), (.long w4), (.long w5), (.long w6), (.long w7)] h195 n0 Z195 (F1_195) (F2_195) (F5_195) (rfl)) hZ (hw _ (List.mem_of_getElem? (i := 31) rfl)) (hw _ (List.mem_of_getElem? (i := 4) rfl)) (by decide) (by decide)) (g := (mkF m 13 #[.val (.ref d), .val (.long q1), .second] [(.int (0 : Int32)), (.ref d), (.ref t)])) rfl (by rw [hml]; rfl) (Steps.refl _) (a := d) (by rw [e197]; exact q198) q198' (argsL := [(.int (0 : Int32))]) (rest := [(.ref t)]) (lenOf pd_1 rfl) rfl (by show 2 * 0 + _ ≤ _; exact Nat.le_of_eq rfl) (hb hby d8_13) (fun _ _ => ⟨rfl, e197, (by decide : 0 + 0 ≤ _), (by decide : 0 + 0 ≤ _)⟩)
  dsimp only [Pt.U, Pt.locs, Pt.cells, Pt.slots] at X198 l198 y198 z198 st198 hQ198
  subst l198 y198 z198
  obtain ⟨rfl, N198q, e198⟩ := hQ198
  have N198 := Fr.app N195 N198q
  refine own_jp st198 ?_
  show own_Go p e below G (T198.setTop (mkF m 16 #[.val (.ref d), .val (.long q1), .second] [(.int (6 : Int32)), (.ref t)]))
  refine own_st (fun zw zk => own_jld X198 hx hZ e198 F5_195 (j := (6 : Int32)) (v := (.long w6)) (i := 6) (by decide) (by decide) rfl (g := (mkF m 16 #[.val (.ref d), .val (.long q1), .second] [(.int (6 : Int32)), (.ref t)])) rfl rfl (hb hby d8_16) _ zk) ?_
  refine own_st (fun zw zk => XS.lloadN X198.here hx rfl (hb hby d8_17) rfl zk) ?_
  refine own_st (fun zw zk => XS.lcmp X198.here hx rfl (hb hby d8_18) rfl zk) ?_
  have hc19_2 : ¬ (q1 < w6) := hf2
  refine own_st (fun zw zk => XS.ifNo X198.here hx rfl (hb hby d8_19) rfl ((if0 _ _).trans (flt (own_flg hc19_2)).2.2.1) zk) ?_
  refine own_st (fun zw zk => XS.aloadN X198.here hx rfl (hb hby d8_22) rfl rfl zk) ?_
  refine own_st (fun zw zk => XS.dup X198.here hx rfl (hb hby d8_23) rfl rfl zk) ?_
  obtain ⟨T199, X199, e199, st199⟩ := getF X198 hx hZ hown (host := "") (Or.inl (hw _ (List.mem_of_getElem? (i := 24) rfl))) Via.refl e198 F4_195 (g := (mkF m 24 #[.val (.ref d), .val (.long q1), .second] [(.ref d), (.ref d)])) rfl rfl (hb hby d8_24)
  refine own_st (fun zw zk => st199 zw zk) ?_
  refine own_st (fun zw zk => XS.aloadN X199.here hx rfl (hb hby d8_27) rfl rfl zk) ?_
  show own_Go p e below G (T199.setTop (mkF m 28 #[.val (.ref d), .val (.long q1), .second] [(.ref d), (.long ((adm - w3) - w5)), (.ref d)]))
  obtain ⟨T200, X200, e200, st200⟩ := getF X199 hx hZ hown (host := "") (Or.inl (hw _ (List.mem_of_getElem? (i := 17) rfl))) Via.refl e199 F1_195 (g := (mkF m 28 #[.val (.ref d), .val (.long q1), .second] [(.ref d), (.long ((adm - w3) - w5)), (.ref d)])) rfl rfl (hb hby d8_28)
  refine own_st (fun zw zk => st200 zw zk) ?_
  refine own_st (fun zw zk => XS.aloadN X200.here hx rfl (hb hby d8_31) rfl rfl zk) ?_
  refine own_st (fun zw zk => XS.iconst X200.here hx rfl (hb hby d8_32) zk) ?_
  obtain ⟨cq201, q201, q201'⟩ := F0_195.cell
  obtain ⟨_, _, ⟨T201, L201, k201, n201⟩, -, X201, ⟨Lc201, hQ201, l201, y201, z201⟩, st201⟩ := X200.privateBack hx (y := (⟨"com/example/headroom/headroom/SlidingLog$Log", "slot", "(I)I"⟩ : MethodName)) hown (mvT hZ (hw _ (List.mem_of_getElem? (i := 28) rfl))) (mvT hZ (hw _ (List.mem_of_getElem? (i := 29) rfl))) (own_selp hZ (hw _ (List.mem_of_getElem? (i := 3) rfl)) (hw _ (List.mem_of_getElem? (i := 30) rfl)) (hw _ (List.mem_of_getElem? (i := 29) rfl)) (by decide)) (Cond.privateMethod_at (mvP hZ (hw _ (List.mem_of_getElem? (i := 30) rfl)) (args := #[]))) (mvT hZ (hw _ (List.mem_of_getElem? (i := 31) rfl))) (by decide) (backOf (W := 4) (rm5 l Z a0 hw [] d (0 : Int32) t (3 : Int32) (8 : Int32) [(.long w0), (.long w1), (.long w2), (.long w3), (.long w4), (.long w5), (.long w6), (.long w7)] h195 n0 Z195 (F1_195) (F2_195) (F5_195) (rfl)) hZ (hw _ (List.mem_of_getElem? (i := 31) rfl)) (hw _ (List.mem_of_getElem? (i := 4) rfl)) (by decide) (by decide)) (g := (mkF m 33 #[.val (.ref d), .val (.long q1), .second] [(.int (0 : Int32)), (.ref d), (.ref t), (.long ((adm - w3) - w5)), (.ref d)])) rfl (by rw [hml]; rfl) (Steps.refl _) (a := d) (by rw [e200]; exact q201) q201' (argsL := [(.int (0 : Int32))]) (rest := [(.ref t), (.long ((adm - w3) - w5)), (.ref d)]) (lenOf pd_1 rfl) rfl (by show 2 * 0 + _ ≤ _; exact Nat.le_of_eq rfl) (hb hby d8_33) (fun _ _ => ⟨rfl, e200, (by decide : 0 + 0 ≤ _), (by decide : 0 + 0 ≤ _)⟩)
  dsimp only [Pt.U, Pt.locs, Pt.cells, Pt.slots] at X201 l201 y201 z201 st201 hQ201
  subst l201 y201 z201
  obtain ⟨rfl, N201q, e201⟩ := hQ201
  have N201 := Fr.app N198 N201q
  refine own_jp st201 ?_
  refine own_st (fun zw zk => XS.iconst X201.here hx rfl (hb hby d8_36) zk) ?_
  refine own_st (fun zw zk => XS.iadd X201.here hx rfl (hb hby d8_37) rfl zk) ?_
  refine own_st (fun zw zk => own_jld X201 hx hZ e201 F5_195 (j := (7 : Int32)) (v := (.long w7)) (i := 7) (by decide) (by decide) rfl (g := (mkF m 38 #[.val (.ref d), .val (.long q1), .second] [(.int (7 : Int32)), (.ref t), (.long ((adm - w3) - w5)), (.ref d)])) rfl rfl (hb hby d8_38) _ zk) ?_
  refine own_st (fun zw zk => XS.lsub X201.here hx rfl (hb hby d8_39) rfl zk) ?_
  show own_Go p e below G (T201.setTop (mkF m 40 #[.val (.ref d), .val (.long q1), .second] [(.long (((adm - w3) - w5) - w7)), (.ref d)]))
  obtain ⟨T202, h202, X202, e202, W202, st202⟩ := putF X201 hx hZ hown (host := "") (Or.inl (hw _ (List.mem_of_getElem? (i := 24) rfl))) Via.refl e201 F4_195 F0_195 (Or.inl (hw _ (List.mem_of_getElem? (i := 25) rfl))) (hw _ (List.mem_of_getElem? (i := 3) rfl)) (ty := .long) (by decide) rfl rfl (g := (mkF m 40 #[.val (.ref d), .val (.long q1), .second] [(.long (((adm - w3) - w5) - w7)), (.ref d)])) rfl rfl (hb hby d8_40)
  have F4_202 := F4_195.same W202
  have N202 := Fr.snoc X202 N201 ge_d
  refine own_st (fun zw zk => st202 zw zk) ?_
  have F0_202 := F0_195.wr W202
  have F1_202 := F1_195.other W202 (Or.inr (slot_ne (Or.inl (hw _ (List.mem_of_getElem? (i := 18) rfl))) (Or.inl (hw _ (List.mem_of_getElem? (i := 25) rfl))) (by decide) (t := (.array .long)) (t' := .long) (by decide) (by decide)))
  have F5_202 := F5_195.other W202 (Ne.symm ne_d_t)
  have F2_202 := F2_195.other W202 (Or.inr (slot_ne (Or.inl (hw _ (List.mem_of_getElem? (i := 33) rfl))) (Or.inl (hw _ (List.mem_of_getElem? (i := 25) rfl))) (by decide) (t := .int) (t' := .long) (by decide) (by decide)))
  have F3_202 := F3_195.other W202 (Or.inr (slot_ne (Or.inl (hw _ (List.mem_of_getElem? (i := 27) rfl))) (Or.inl (hw _ (List.mem_of_getElem? (i := 25) rfl))) (by decide) (t := .int) (t' := .long) (by decide) (by decide)))
  have Z202 : n0 ≤ h202.size := Nat.le_trans Z195 (Keep.of_wr W202).1
  have Kp202 := Kp195.wr W202 (Or.inl (List.mem_of_getElem? (i := 0) rfl))
  refine own_st (fun zw zk => XS.aloadN X202.here hx rfl (hb hby d8_43) rfl rfl zk) ?_
  refine own_st (fun zw zk => XS.aloadN X202.here hx rfl (hb hby d8_44) rfl rfl zk) ?_
  obtain ⟨T203, X203, e203, st203⟩ := getF X202 hx hZ hown (host := "") (Or.inl (hw _ (List.mem_of_getElem? (i := 32) rfl))) Via.refl e202 F2_202 (g := (mkF m 45 #[.val (.ref d), .val (.long q1), .second] [(.ref d), (.ref d)])) rfl rfl (hb hby d8_45)
  refine own_st (fun zw zk => st203 zw zk) ?_
  refine own_st (fun zw zk => XS.iconst X203.here hx rfl (hb hby d8_48) zk) ?_
  refine own_st (fun zw zk => XS.iadd X203.here hx rfl (hb hby d8_49) rfl zk) ?_
  refine own_st (fun zw zk => XS.aloadN X203.here hx rfl (hb hby d8_50) rfl rfl zk) ?_
  obtain ⟨T204, X204, e204, st204⟩ := getF X203 hx hZ hown (host := "") (Or.inl (hw _ (List.mem_of_getElem? (i := 17) rfl))) Via.refl e203 F1_202 (g := (mkF m 51 #[.val (.ref d), .val (.long q1), .second] [(.ref d), (.int (4 : Int32)), (.ref d)])) rfl rfl (hb hby d8_51)
  refine own_st (fun zw zk => st204 zw zk) ?_
  show own_Go p e below G (T204.setTop (mkF m 54 #[.val (.ref d), .val (.long q1), .second] [(.ref t), (.int (4 : Int32)), (.ref d)]))
  refine own_st (fun zw zk => own_len X204 hx hZ e204 F5_202 (z := (8 : Int32)) (rfl) (g := (mkF m 54 #[.val (.ref d), .val (.long q1), .second] [(.ref t), (.int (4 : Int32)), (.ref d)])) rfl rfl (hb hby d8_54) _ zk) ?_
  refine own_st (fun zw zk => XS.iconst X204.here hx rfl (hb hby d8_55) zk) ?_
  refine own_st (fun zw zk => XS.idiv X204.here hx rfl (hb hby d8_56) rfl (by decide) zk) ?_
  refine own_st (fun zw zk => XS.iconst X204.here hx rfl (hb hby d8_57) zk) ?_
  refine own_st (fun zw zk => XS.isub X204.here hx rfl (hb hby d8_58) rfl zk) ?_
  refine own_st (fun zw zk => XS.iand X204.here hx rfl (hb hby d8_59) rfl zk) ?_
  obtain ⟨T205, h205, X205, e205, W205, st205⟩ := putF X204 hx hZ hown (host := "") (Or.inl (hw _ (List.mem_of_getElem? (i := 32) rfl))) Via.refl e204 F2_202 F0_202 (Or.inl (hw _ (List.mem_of_getElem? (i := 33) rfl))) (hw _ (List.mem_of_getElem? (i := 3) rfl)) (ty := .int) (by decide) rfl rfl (g := (mkF m 60 #[.val (.ref d), .val (.long q1), .second] [(.int (0 : Int32)), (.ref d)])) rfl rfl (hb hby d8_60)
  have F2_205 := F2_202.same W205
  have N205 := Fr.snoc X205 N202 ge_d
  refine own_st (fun zw zk => st205 zw zk) ?_
  have F0_205 := F0_202.wr W205
  have F1_205 := F1_202.other W205 (Or.inr (slot_ne (Or.inl (hw _ (List.mem_of_getElem? (i := 18) rfl))) (Or.inl (hw _ (List.mem_of_getElem? (i := 33) rfl))) (by decide) (t := (.array .long)) (t' := .int) (by decide) (by decide)))
  have F5_205 := F5_202.other W205 (Ne.symm ne_d_t)
  have F3_205 := F3_202.other W205 (Or.inr (slot_ne (Or.inl (hw _ (List.mem_of_getElem? (i := 27) rfl))) (Or.inl (hw _ (List.mem_of_getElem? (i := 33) rfl))) (by decide) (t := .int) (t' := .int) (by decide) (by decide)))
  have F4_205 := F4_202.other W205 (Or.inr (slot_ne (Or.inl (hw _ (List.mem_of_getElem? (i := 25) rfl))) (Or.inl (hw _ (List.mem_of_getElem? (i := 33) rfl))) (by decide) (t := .long) (t' := .int) (by decide) (by decide)))
  have Z205 : n0 ≤ h205.size := Nat.le_trans Z202 (Keep.of_wr W205).1
  have Kp205 := Kp202.wr W205 (Or.inl (List.mem_of_getElem? (i := 0) rfl))
  refine own_st (fun zw zk => XS.aloadN X205.here hx rfl (hb hby d8_63) rfl rfl zk) ?_
  show own_Go p e below G (T205.setTop (mkF m 64 #[.val (.ref d), .val (.long q1), .second] [(.ref d)]))
  refine own_st (fun zw zk => XS.dup X205.here hx rfl (hb hby d8_64) rfl rfl zk) ?_
  obtain ⟨T206, X206, e206, st206⟩ := getF X205 hx hZ hown (host := "") (Or.inl (hw _ (List.mem_of_getElem? (i := 26) rfl))) Via.refl e205 F3_205 (g := (mkF m 65 #[.val (.ref d), .val (.long q1), .second] [(.ref d), (.ref d)])) rfl rfl (hb hby d8_65)
  refine own_st (fun zw zk => st206 zw zk) ?_
  refine own_st (fun zw zk => XS.iconst X206.here hx rfl (hb hby d8_68) zk) ?_
  refine own_st (fun zw zk => XS.isub X206.here hx rfl (hb hby d8_69) rfl zk) ?_
  obtain ⟨T207, h207, X207, e207, W207, st207⟩ := putF X206 hx hZ hown (host := "") (Or.inl (hw _ (List.mem_of_getElem? (i := 26) rfl))) Via.refl e206 F3_205 F0_205 (Or.inl (hw _ (List.mem_of_getElem? (i := 27) rfl))) (hw _ (List.mem_of_getElem? (i := 3) rfl)) (ty := .int) (by decide) rfl rfl (g := (mkF m 70 #[.val (.ref d), .val (.long q1), .second] [(.int (1 : Int32)), (.ref d)])) rfl rfl (hb hby d8_70)
  have F3_207 := F3_205.same W207
  have N207 := Fr.snoc X207 N205 ge_d
  refine own_st (fun zw zk => st207 zw zk) ?_
  have F0_207 := F0_205.wr W207
  have F1_207 := F1_205.other W207 (Or.inr (slot_ne (Or.inl (hw _ (List.mem_of_getElem? (i := 18) rfl))) (Or.inl (hw _ (List.mem_of_getElem? (i := 27) rfl))) (by decide) (t := (.array .long)) (t' := .int) (by decide) (by decide)))
  have F5_207 := F5_205.other W207 (Ne.symm ne_d_t)
  have F4_207 := F4_205.other W207 (Or.inr (slot_ne (Or.inl (hw _ (List.mem_of_getElem? (i := 25) rfl))) (Or.inl (hw _ (List.mem_of_getElem? (i := 27) rfl))) (by decide) (t := .long) (t' := .int) (by decide) (by decide)))
  have F2_207 := F2_205.other W207 (Or.inr (slot_ne (Or.inl (hw _ (List.mem_of_getElem? (i := 33) rfl))) (Or.inl (hw _ (List.mem_of_getElem? (i := 27) rfl))) (by decide) (t := .int) (t' := .int) (by decide) (by decide)))
  have Z207 : n0 ≤ h207.size := Nat.le_trans Z205 (Keep.of_wr W207).1
  have Kp207 := Kp205.wr W207 (Or.inl (List.mem_of_getElem? (i := 0) rfl))
  refine own_st (fun zw zk => XS.goto X207.here hx rfl (pc0 := 73) (pc' := 0) rfl (hb hby d8_73) (by decide) (by decide) zk) ?_
  show own_Go p e below G (T207.setTop (mkF m 0 #[.val (.ref d), .val (.long q1), .second] []))
  refine own_st (fun zw zk => XS.aloadN X207.here hx rfl (hb hby d8_0) rfl rfl zk) ?_
  obtain ⟨T208, X208, e208, st208⟩ := getF X207 hx hZ hown (host := "") (Or.inl (hw _ (List.mem_of_getElem? (i := 26) rfl))) Via.refl e207 F3_207 (g := (mkF m 1 #[.val (.ref d), .val (.long q1), .second] [(.ref d)])) rfl rfl (hb hby d8_1)
  refine own_st (fun zw zk => st208 zw zk) ?_
  refine own_st (fun zw zk => XS.ifNo X208.here hx rfl (hb hby d8_4) rfl ((if0 _ _).trans (tlt (by decide : (0 : Int32) < (1 : Int32))).2.2.2) zk) ?_
  refine own_st (fun zw zk => XS.aloadN X208.here hx rfl (hb hby d8_7) rfl rfl zk) ?_
  obtain ⟨T209, X209, e209, st209⟩ := getF X208 hx hZ hown (host := "") (Or.inl (hw _ (List.mem_of_getElem? (i := 17) rfl))) Via.refl e208 F1_207 (g := (mkF m 8 #[.val (.ref d), .val (.long q1), .second] [(.ref d)])) rfl rfl (hb hby d8_8)
  refine own_st (fun zw zk => st209 zw zk) ?_
  refine own_st (fun zw zk => XS.aloadN X209.here hx rfl (hb hby d8_11) rfl rfl zk) ?_
  refine own_st (fun zw zk => XS.iconst X209.here hx rfl (hb hby d8_12) zk) ?_
  obtain ⟨cq210, q210, q210'⟩ := F0_207.cell
  obtain ⟨_, _, ⟨T210, L210, k210, n210⟩, -, X210, ⟨Lc210, hQ210, l210, y210, z210⟩, st210⟩ := X209.privateBack hx (y := (⟨"com/example/headroom/headroom/SlidingLog$Log", "slot", "(I)I"⟩ : MethodName)) hown (mvT hZ (hw _ (List.mem_of_getElem? (i := 28) rfl))) (mvT hZ (hw _ (List.mem_of_getElem? (i := 29) rfl))) (own_selp hZ (hw _ (List.mem_of_getElem? (i := 3) rfl)) (hw _ (List.mem_of_getElem? (i := 30) rfl)) (hw _ (List.mem_of_getElem? (i := 29) rfl)) (by decide)) (Cond.privateMethod_at (mvP hZ (hw _ (List.mem_of_getElem? (i := 30) rfl)) (args := #[]))) (mvT hZ (hw _ (List.mem_of_getElem? (i := 31) rfl))) (by decide) (backOf (W := 1) (rm5 l Z a0 hw [] d (0 : Int32) t (0 : Int32) (8 : Int32) [(.long w0), (.long w1), (.long w2), (.long w3), (.long w4), (.long w5), (.long w6), (.long w7)] h207 n0 Z207 (F1_207) (F2_207) (F5_207) (rfl)) hZ (hw _ (List.mem_of_getElem? (i := 31) rfl)) (hw _ (List.mem_of_getElem? (i := 4) rfl)) (by decide) (by decide)) (g := (mkF m 13 #[.val (.ref d), .val (.long q1), .second] [(.int (0 : Int32)), (.ref d), (.ref t)])) rfl (by rw [hml]; rfl) (Steps.refl _) (a := d) (by rw [e209]; exact q210) q210' (argsL := [(.int (0 : Int32))]) (rest := [(.ref t)]) (lenOf pd_1 rfl) rfl (by show 2 * 0 + _ ≤ _; exact Nat.le_of_eq rfl) (hb hby d8_13) (fun _ _ => ⟨rfl, e209, (by decide : 0 + 0 ≤ _), (by decide : 0 + 0 ≤ _)⟩)
  dsimp only [Pt.U, Pt.locs, Pt.cells, Pt.slots] at X210 l210 y210 z210 st210 hQ210
  subst l210 y210 z210
  obtain ⟨rfl, N210q, e210⟩ := hQ210
  have N210 := Fr.app N207 N210q
  refine own_jp st210 ?_
  show own_Go p e below G (T210.setTop (mkF m 16 #[.val (.ref d), .val (.long q1), .second] [(.int (0 : Int32)), (.ref t)]))
  refine own_st (fun zw zk => own_jld X210 hx hZ e210 F5_207 (j := (0 : Int32)) (v := (.long w0)) (i := 0) (by decide) (by decide) rfl (g := (mkF m 16 #[.val (.ref d), .val (.long q1), .second] [(.int (0 : Int32)), (.ref t)])) rfl rfl (hb hby d8_16) _ zk) ?_
  refine own_st (fun zw zk => XS.lloadN X210.here hx rfl (hb hby d8_17) rfl zk) ?_
  refine own_st (fun zw zk => XS.lcmp X210.here hx rfl (hb hby d8_18) rfl zk) ?_
  have hc19_3 : q1 < w0 := hf3
  refine own_st (fun zw zk => XS.ifYes X210.here hx rfl (pc0 := 19) (pc' := 76) rfl (hb hby d8_19) rfl ((if0 _ _).trans (tlt (own_tlg hc19_3)).2.2.1) (by decide) (by decide) zk) ?_
  subst hG
  obtain ⟨fs, hr, hrun, hended, hW, hsame⟩ := X210.leave (v := none) (hlocks := Bd.notSynchronized) (fun _ => rfl)
  refine ⟨_, X210.returnOut hx Bd.returns (hb hby d8_76) hr, _, hrun, hended, _, _, rfl, ?_, ⟨_, rfl⟩, hW, hsame.mono (by decide) (by decide)⟩
  show Q_forgetUpTo_1_4_8_3 Z d q1 t adm w0 w1 w2 w3 w4 w5 w6 w7 h0 n0 _ T210.heap _
  rw [e210]
  exact ⟨rfl, N210, Kp207, F0_207, F1_207, F2_207, F3_207, F4_207⟩
theorem ef_rm_forgetUpTo_1_4_8_4 (m : MethodId) (d : Addr) (q1 : Int64) : entryFrame m #[(.ref d), (.long q1)] 3 = mkF m 0 #[.val (.ref d), .val (.long q1), .second] [] := by first | (simp [entryFrame, mkF, argsToLocals, Value.category]; done) | rfl
def Q_forgetUpTo_1_4_8_4 (Z : State) (d : Addr) (q1 : Int64) (t : Addr) (adm : Int64) (w0 : Int64) (w1 : Int64) (w2 : Int64) (w3 : Int64) (w4 : Int64) (w5 : Int64) (w6 : Int64) (w7 : Int64) (h0 : Heap) (n0 : Nat) (rv : Option Value) (hq : Heap) (Lq : List Loc) : Prop := rv = none ∧ Fr n0 Lq ∧ Keep h0 hq [d] ∧ Exa Z hq d "com/example/headroom/headroom/SlidingLog$Log" ∧ Fld Z hq d "com/example/headroom/headroom/SlidingLog$Log" "entries" "[J" (.ref t) ∧ Fld Z hq d "com/example/headroom/headroom/SlidingLog$Log" "first" "I" (.int (1 : Int32)) ∧ Fld Z hq d "com/example/headroom/headroom/SlidingLog$Log" "size" "I" (.int (0 : Int32)) ∧ Fld Z hq d "com/example/headroom/headroom/SlidingLog$Log" "admitted" "J" (.long ((((adm - w3) - w5) - w7) - w1))
set_option maxRecDepth 65536 in
set_option maxHeartbeats 40000000 in
theorem rm_forgetUpTo_1_4_8_4 (l : Launch) (Z : State) (a0 : Array Value) (hw : ∀ d ∈ tables_1, d.before a0 Z = true) (ws : List Jvm.Cond) (d : Addr) (q1 : Int64) (t : Addr) (adm : Int64) (w0 : Int64) (w1 : Int64) (w2 : Int64) (w3 : Int64) (w4 : Int64) (w5 : Int64) (w6 : Int64) (w7 : Int64) (h0 : Heap) (n0 : Nat) (Z0 : n0 ≤ h0.size) (F0_ : Exa Z h0 d "com/example/headroom/headroom/SlidingLog$Log") (F1_ : Fld Z h0 d "com/example/headroom/headroom/SlidingLog$Log" "entries" "[J" (.ref t)) (F2_ : Fld Z h0 d "com/example/headroom/headroom/SlidingLog$Log" "first" "I" (.int (1 : Int32))) (F3_ : Fld Z h0 d "com/example/headroom/headroom/SlidingLog$Log" "size" "I" (.int (4 : Int32))) (F4_ : Fld Z h0 d "com/example/headroom/headroom/SlidingLog$Log" "admitted" "J" (.long adm)) (F5_ : own_L Z h0 t .long ([(.long w0), (.long w1), (.long w2), (.long w3), (.long w4), (.long w5), (.long w6), (.long w7)])) (ge_d : n0 ≤ d) (ne_d_t : d ≠ t) (hf0 : ¬ (q1 < w2)) (hf1 : ¬ (q1 < w4)) (hf2 : ¬ (q1 < w6)) (hf3 : ¬ (q1 < w0)) :
    MetFree l (⟨"com/example/headroom/headroom/SlidingLog$Log", "forgetUpTo", "(J)V"⟩ : MethodName) (head1 (Jvm.Cond.code (⟨"com/example/headroom/headroom/SlidingLog$Log", "forgetUpTo", "(J)V"⟩ : MethodName) prog_48_method_4_code 3 none :: ws) ({ frames := 1, cells := 0, slots := 0, locals := 17 } : Room)) (fun za U => za = #[(.ref d), (.long q1)] ∧ Z.Warmed39 U.vm ∧ U.heap = h0) (fun _ _ _ _ _ => True) (fun _ U o U' => ∃ rv Lq, o = .returned rv ∧ Q_forgetUpTo_1_4_8_4 Z d q1 t adm w0 w1 w2 w3 w4 w5 w6 w7 h0 n0 rv U'.heap Lq ∧ FrameEnd U o U' Lq ({ frames := 1, cells := 0, slots := 0, locals := 17 } : Room).cells ({ frames := 1, cells := 0, slots := 0, locals := 17 } : Room).slots) := by
  refine MetFree.of_bodySF (plainFor_of_name pn_1) hisR ?_
  intro p e s m args below meth c s₁ Bd hml0 hP hK
  obtain ⟨rfl, hZ, hh⟩ := hP
  have hx := Bd.exec
  have hby := Bd.bytes
  have hml : c.maxLocals = 3 := hml0
  have hown : s.vm.findClass "com/example/headroom/headroom/SlidingLog$Log" = some m.cls := findClass_of_methodNamed Bd.named
  have hnm := (name_of_methodNamed Bd.named Bd.method).1
  have X0 : Stand p l e ({ frames := 1, cells := 0, slots := 0, locals := 17 } : Room) s m #[(.ref d), (.long q1)] below meth c s₁ [] 0 0 := Stand.of_body Bd
  have e0 : s₁.heap = h0 := by rw [← hh, Bd.state]; rfl
  have N0 := Fr.nil n0
  refine own_out (own_nm fun G hG => own_st (fun zt zk => castTop (ef_rm_forgetUpTo_1_4_8_4 m d q1) zk) ?_)
  show own_Go p e below G (s₁.setTop (mkF m 0 #[.val (.ref d), .val (.long q1), .second] []))
  refine own_st (fun zw zk => XS.aloadN X0.here hx rfl (hb hby d8_0) rfl rfl zk) ?_
  obtain ⟨T211, X211, e211, st211⟩ := getF X0 hx hZ hown (host := "") (Or.inl (hw _ (List.mem_of_getElem? (i := 26) rfl))) Via.refl e0 F3_ (g := (mkF m 1 #[.val (.ref d), .val (.long q1), .second] [(.ref d)])) rfl rfl (hb hby d8_1)
  refine own_st (fun zw zk => st211 zw zk) ?_
  refine own_st (fun zw zk => XS.ifNo X211.here hx rfl (hb hby d8_4) rfl ((if0 _ _).trans (tlt (by decide : (0 : Int32) < (4 : Int32))).2.2.2) zk) ?_
  refine own_st (fun zw zk => XS.aloadN X211.here hx rfl (hb hby d8_7) rfl rfl zk) ?_
  obtain ⟨T212, X212, e212, st212⟩ := getF X211 hx hZ hown (host := "") (Or.inl (hw _ (List.mem_of_getElem? (i := 17) rfl))) Via.refl e211 F1_ (g := (mkF m 8 #[.val (.ref d), .val (.long q1), .second] [(.ref d)])) rfl rfl (hb hby d8_8)
  refine own_st (fun zw zk => st212 zw zk) ?_
  refine own_st (fun zw zk => XS.aloadN X212.here hx rfl (hb hby d8_11) rfl rfl zk) ?_
  refine own_st (fun zw zk => XS.iconst X212.here hx rfl (hb hby d8_12) zk) ?_
  obtain ⟨cq213, q213, q213'⟩ := F0_.cell
  obtain ⟨_, _, ⟨T213, L213, k213, n213⟩, -, X213, ⟨Lc213, hQ213, l213, y213, z213⟩, st213⟩ := X212.privateBack hx (y := (⟨"com/example/headroom/headroom/SlidingLog$Log", "slot", "(I)I"⟩ : MethodName)) hown (mvT hZ (hw _ (List.mem_of_getElem? (i := 28) rfl))) (mvT hZ (hw _ (List.mem_of_getElem? (i := 29) rfl))) (own_selp hZ (hw _ (List.mem_of_getElem? (i := 3) rfl)) (hw _ (List.mem_of_getElem? (i := 30) rfl)) (hw _ (List.mem_of_getElem? (i := 29) rfl)) (by decide)) (Cond.privateMethod_at (mvP hZ (hw _ (List.mem_of_getElem? (i := 30) rfl)) (args := #[]))) (mvT hZ (hw _ (List.mem_of_getElem? (i := 31) rfl))) (by decide) (backOf (W := 1) (rm5 l Z a0 hw [] d (0 : Int32) t (1 : Int32) (8 : Int32) [(.long w0), (.long w1), (.long w2), (.long w3), (.long w4), (.long w5), (.long w6), (.long w7)] h0 n0 Z0 (F1_) (F2_) (F5_) (rfl)) hZ (hw _ (List.mem_of_getElem? (i := 31) rfl)) (hw _ (List.mem_of_getElem? (i := 4) rfl)) (by decide) (by decide)) (g := (mkF m 13 #[.val (.ref d), .val (.long q1), .second] [(.int (0 : Int32)), (.ref d), (.ref t)])) rfl (by rw [hml]; rfl) (Steps.refl _) (a := d) (by rw [e212]; exact q213) q213' (argsL := [(.int (0 : Int32))]) (rest := [(.ref t)]) (lenOf pd_1 rfl) rfl (by show 2 * 0 + _ ≤ _; exact Nat.le_of_eq rfl) (hb hby d8_13) (fun _ _ => ⟨rfl, e212, (by decide : 0 + 0 ≤ _), (by decide : 0 + 0 ≤ _)⟩)
  dsimp only [Pt.U, Pt.locs, Pt.cells, Pt.slots] at X213 l213 y213 z213 st213 hQ213
  subst l213 y213 z213
  obtain ⟨rfl, N213q, e213⟩ := hQ213
  have N213 := Fr.app N0 N213q
  refine own_jp st213 ?_
  show own_Go p e below G (T213.setTop (mkF m 16 #[.val (.ref d), .val (.long q1), .second] [(.int (2 : Int32)), (.ref t)]))
  refine own_st (fun zw zk => own_jld X213 hx hZ e213 F5_ (j := (2 : Int32)) (v := (.long w2)) (i := 2) (by decide) (by decide) rfl (g := (mkF m 16 #[.val (.ref d), .val (.long q1), .second] [(.int (2 : Int32)), (.ref t)])) rfl rfl (hb hby d8_16) _ zk) ?_
  refine own_st (fun zw zk => XS.lloadN X213.here hx rfl (hb hby d8_17) rfl zk) ?_
  refine own_st (fun zw zk => XS.lcmp X213.here hx rfl (hb hby d8_18) rfl zk) ?_
  have hc19 : ¬ (q1 < w2) := hf0
  refine own_st (fun zw zk => XS.ifNo X213.here hx rfl (hb hby d8_19) rfl ((if0 _ _).trans (flt (own_flg hc19)).2.2.1) zk) ?_
  refine own_st (fun zw zk => XS.aloadN X213.here hx rfl (hb hby d8_22) rfl rfl zk) ?_
  refine own_st (fun zw zk => XS.dup X213.here hx rfl (hb hby d8_23) rfl rfl zk) ?_
  obtain ⟨T214, X214, e214, st214⟩ := getF X213 hx hZ hown (host := "") (Or.inl (hw _ (List.mem_of_getElem? (i := 24) rfl))) Via.refl e213 F4_ (g := (mkF m 24 #[.val (.ref d), .val (.long q1), .second] [(.ref d), (.ref d)])) rfl rfl (hb hby d8_24)
  refine own_st (fun zw zk => st214 zw zk) ?_
  refine own_st (fun zw zk => XS.aloadN X214.here hx rfl (hb hby d8_27) rfl rfl zk) ?_
  show own_Go p e below G (T214.setTop (mkF m 28 #[.val (.ref d), .val (.long q1), .second] [(.ref d), (.long adm), (.ref d)]))
  obtain ⟨T215, X215, e215, st215⟩ := getF X214 hx hZ hown (host := "") (Or.inl (hw _ (List.mem_of_getElem? (i := 17) rfl))) Via.refl e214 F1_ (g := (mkF m 28 #[.val (.ref d), .val (.long q1), .second] [(.ref d), (.long adm), (.ref d)])) rfl rfl (hb hby d8_28)
  refine own_st (fun zw zk => st215 zw zk) ?_
  refine own_st (fun zw zk => XS.aloadN X215.here hx rfl (hb hby d8_31) rfl rfl zk) ?_
  refine own_st (fun zw zk => XS.iconst X215.here hx rfl (hb hby d8_32) zk) ?_
  obtain ⟨cq216, q216, q216'⟩ := F0_.cell
  obtain ⟨_, _, ⟨T216, L216, k216, n216⟩, -, X216, ⟨Lc216, hQ216, l216, y216, z216⟩, st216⟩ := X215.privateBack hx (y := (⟨"com/example/headroom/headroom/SlidingLog$Log", "slot", "(I)I"⟩ : MethodName)) hown (mvT hZ (hw _ (List.mem_of_getElem? (i := 28) rfl))) (mvT hZ (hw _ (List.mem_of_getElem? (i := 29) rfl))) (own_selp hZ (hw _ (List.mem_of_getElem? (i := 3) rfl)) (hw _ (List.mem_of_getElem? (i := 30) rfl)) (hw _ (List.mem_of_getElem? (i := 29) rfl)) (by decide)) (Cond.privateMethod_at (mvP hZ (hw _ (List.mem_of_getElem? (i := 30) rfl)) (args := #[]))) (mvT hZ (hw _ (List.mem_of_getElem? (i := 31) rfl))) (by decide) (backOf (W := 4) (rm5 l Z a0 hw [] d (0 : Int32) t (1 : Int32) (8 : Int32) [(.long w0), (.long w1), (.long w2), (.long w3), (.long w4), (.long w5), (.long w6), (.long w7)] h0 n0 Z0 (F1_) (F2_) (F5_) (rfl)) hZ (hw _ (List.mem_of_getElem? (i := 31) rfl)) (hw _ (List.mem_of_getElem? (i := 4) rfl)) (by decide) (by decide)) (g := (mkF m 33 #[.val (.ref d), .val (.long q1), .second] [(.int (0 : Int32)), (.ref d), (.ref t), (.long adm), (.ref d)])) rfl (by rw [hml]; rfl) (Steps.refl _) (a := d) (by rw [e215]; exact q216) q216' (argsL := [(.int (0 : Int32))]) (rest := [(.ref t), (.long adm), (.ref d)]) (lenOf pd_1 rfl) rfl (by show 2 * 0 + _ ≤ _; exact Nat.le_of_eq rfl) (hb hby d8_33) (fun _ _ => ⟨rfl, e215, (by decide : 0 + 0 ≤ _), (by decide : 0 + 0 ≤ _)⟩)
  dsimp only [Pt.U, Pt.locs, Pt.cells, Pt.slots] at X216 l216 y216 z216 st216 hQ216
  subst l216 y216 z216
  obtain ⟨rfl, N216q, e216⟩ := hQ216
  have N216 := Fr.app N213 N216q
  refine own_jp st216 ?_
  refine own_st (fun zw zk => XS.iconst X216.here hx rfl (hb hby d8_36) zk) ?_
  refine own_st (fun zw zk => XS.iadd X216.here hx rfl (hb hby d8_37) rfl zk) ?_
  refine own_st (fun zw zk => own_jld X216 hx hZ e216 F5_ (j := (3 : Int32)) (v := (.long w3)) (i := 3) (by decide) (by decide) rfl (g := (mkF m 38 #[.val (.ref d), .val (.long q1), .second] [(.int (3 : Int32)), (.ref t), (.long adm), (.ref d)])) rfl rfl (hb hby d8_38) _ zk) ?_
  refine own_st (fun zw zk => XS.lsub X216.here hx rfl (hb hby d8_39) rfl zk) ?_
  show own_Go p e below G (T216.setTop (mkF m 40 #[.val (.ref d), .val (.long q1), .second] [(.long (adm - w3)), (.ref d)]))
  obtain ⟨T217, h217, X217, e217, W217, st217⟩ := putF X216 hx hZ hown (host := "") (Or.inl (hw _ (List.mem_of_getElem? (i := 24) rfl))) Via.refl e216 F4_ F0_ (Or.inl (hw _ (List.mem_of_getElem? (i := 25) rfl))) (hw _ (List.mem_of_getElem? (i := 3) rfl)) (ty := .long) (by decide) rfl rfl (g := (mkF m 40 #[.val (.ref d), .val (.long q1), .second] [(.long (adm - w3)), (.ref d)])) rfl rfl (hb hby d8_40)
  have F4_217 := F4_.same W217
  have N217 := Fr.snoc X217 N216 ge_d
  refine own_st (fun zw zk => st217 zw zk) ?_
  have F0_217 := F0_.wr W217
  have F1_217 := F1_.other W217 (Or.inr (slot_ne (Or.inl (hw _ (List.mem_of_getElem? (i := 18) rfl))) (Or.inl (hw _ (List.mem_of_getElem? (i := 25) rfl))) (by decide) (t := (.array .long)) (t' := .long) (by decide) (by decide)))
  have F2_217 := F2_.other W217 (Or.inr (slot_ne (Or.inl (hw _ (List.mem_of_getElem? (i := 33) rfl))) (Or.inl (hw _ (List.mem_of_getElem? (i := 25) rfl))) (by decide) (t := .int) (t' := .long) (by decide) (by decide)))
  have F3_217 := F3_.other W217 (Or.inr (slot_ne (Or.inl (hw _ (List.mem_of_getElem? (i := 27) rfl))) (Or.inl (hw _ (List.mem_of_getElem? (i := 25) rfl))) (by decide) (t := .int) (t' := .long) (by decide) (by decide)))
  have F5_217 := F5_.other W217 (Ne.symm ne_d_t)
  have Z217 : n0 ≤ h217.size := Nat.le_trans Z0 (Keep.of_wr W217).1
  have Kp217 := (Keep.refl h0 [d]).wr W217 (Or.inl (List.mem_of_getElem? (i := 0) rfl))
  refine own_st (fun zw zk => XS.aloadN X217.here hx rfl (hb hby d8_43) rfl rfl zk) ?_
  refine own_st (fun zw zk => XS.aloadN X217.here hx rfl (hb hby d8_44) rfl rfl zk) ?_
  obtain ⟨T218, X218, e218, st218⟩ := getF X217 hx hZ hown (host := "") (Or.inl (hw _ (List.mem_of_getElem? (i := 32) rfl))) Via.refl e217 F2_217 (g := (mkF m 45 #[.val (.ref d), .val (.long q1), .second] [(.ref d), (.ref d)])) rfl rfl (hb hby d8_45)
  refine own_st (fun zw zk => st218 zw zk) ?_
  refine own_st (fun zw zk => XS.iconst X218.here hx rfl (hb hby d8_48) zk) ?_
  refine own_st (fun zw zk => XS.iadd X218.here hx rfl (hb hby d8_49) rfl zk) ?_
  refine own_st (fun zw zk => XS.aloadN X218.here hx rfl (hb hby d8_50) rfl rfl zk) ?_
  obtain ⟨T219, X219, e219, st219⟩ := getF X218 hx hZ hown (host := "") (Or.inl (hw _ (List.mem_of_getElem? (i := 17) rfl))) Via.refl e218 F1_217 (g := (mkF m 51 #[.val (.ref d), .val (.long q1), .second] [(.ref d), (.int (2 : Int32)), (.ref d)])) rfl rfl (hb hby d8_51)
  refine own_st (fun zw zk => st219 zw zk) ?_
  show own_Go p e below G (T219.setTop (mkF m 54 #[.val (.ref d), .val (.long q1), .second] [(.ref t), (.int (2 : Int32)), (.ref d)]))
  refine own_st (fun zw zk => own_len X219 hx hZ e219 F5_217 (z := (8 : Int32)) (rfl) (g := (mkF m 54 #[.val (.ref d), .val (.long q1), .second] [(.ref t), (.int (2 : Int32)), (.ref d)])) rfl rfl (hb hby d8_54) _ zk) ?_
  refine own_st (fun zw zk => XS.iconst X219.here hx rfl (hb hby d8_55) zk) ?_
  refine own_st (fun zw zk => XS.idiv X219.here hx rfl (hb hby d8_56) rfl (by decide) zk) ?_
  refine own_st (fun zw zk => XS.iconst X219.here hx rfl (hb hby d8_57) zk) ?_
  refine own_st (fun zw zk => XS.isub X219.here hx rfl (hb hby d8_58) rfl zk) ?_
  refine own_st (fun zw zk => XS.iand X219.here hx rfl (hb hby d8_59) rfl zk) ?_
  obtain ⟨T220, h220, X220, e220, W220, st220⟩ := putF X219 hx hZ hown (host := "") (Or.inl (hw _ (List.mem_of_getElem? (i := 32) rfl))) Via.refl e219 F2_217 F0_217 (Or.inl (hw _ (List.mem_of_getElem? (i := 33) rfl))) (hw _ (List.mem_of_getElem? (i := 3) rfl)) (ty := .int) (by decide) rfl rfl (g := (mkF m 60 #[.val (.ref d), .val (.long q1), .second] [(.int (2 : Int32)), (.ref d)])) rfl rfl (hb hby d8_60)
  have F2_220 := F2_217.same W220
  have N220 := Fr.snoc X220 N217 ge_d
  refine own_st (fun zw zk => st220 zw zk) ?_
  have F0_220 := F0_217.wr W220
  have F1_220 := F1_217.other W220 (Or.inr (slot_ne (Or.inl (hw _ (List.mem_of_getElem? (i := 18) rfl))) (Or.inl (hw _ (List.mem_of_getElem? (i := 33) rfl))) (by decide) (t := (.array .long)) (t' := .int) (by decide) (by decide)))
  have F3_220 := F3_217.other W220 (Or.inr (slot_ne (Or.inl (hw _ (List.mem_of_getElem? (i := 27) rfl))) (Or.inl (hw _ (List.mem_of_getElem? (i := 33) rfl))) (by decide) (t := .int) (t' := .int) (by decide) (by decide)))
  have F5_220 := F5_217.other W220 (Ne.symm ne_d_t)
  have F4_220 := F4_217.other W220 (Or.inr (slot_ne (Or.inl (hw _ (List.mem_of_getElem? (i := 25) rfl))) (Or.inl (hw _ (List.mem_of_getElem? (i := 33) rfl))) (by decide) (t := .long) (t' := .int) (by decide) (by decide)))
  have Z220 : n0 ≤ h220.size := Nat.le_trans Z217 (Keep.of_wr W220).1
  have Kp220 := Kp217.wr W220 (Or.inl (List.mem_of_getElem? (i := 0) rfl))
  refine own_st (fun zw zk => XS.aloadN X220.here hx rfl (hb hby d8_63) rfl rfl zk) ?_
  show own_Go p e below G (T220.setTop (mkF m 64 #[.val (.ref d), .val (.long q1), .second] [(.ref d)]))
  refine own_st (fun zw zk => XS.dup X220.here hx rfl (hb hby d8_64) rfl rfl zk) ?_
  obtain ⟨T221, X221, e221, st221⟩ := getF X220 hx hZ hown (host := "") (Or.inl (hw _ (List.mem_of_getElem? (i := 26) rfl))) Via.refl e220 F3_220 (g := (mkF m 65 #[.val (.ref d), .val (.long q1), .second] [(.ref d), (.ref d)])) rfl rfl (hb hby d8_65)
  refine own_st (fun zw zk => st221 zw zk) ?_
  refine own_st (fun zw zk => XS.iconst X221.here hx rfl (hb hby d8_68) zk) ?_
  refine own_st (fun zw zk => XS.isub X221.here hx rfl (hb hby d8_69) rfl zk) ?_
  obtain ⟨T222, h222, X222, e222, W222, st222⟩ := putF X221 hx hZ hown (host := "") (Or.inl (hw _ (List.mem_of_getElem? (i := 26) rfl))) Via.refl e221 F3_220 F0_220 (Or.inl (hw _ (List.mem_of_getElem? (i := 27) rfl))) (hw _ (List.mem_of_getElem? (i := 3) rfl)) (ty := .int) (by decide) rfl rfl (g := (mkF m 70 #[.val (.ref d), .val (.long q1), .second] [(.int (3 : Int32)), (.ref d)])) rfl rfl (hb hby d8_70)
  have F3_222 := F3_220.same W222
  have N222 := Fr.snoc X222 N220 ge_d
  refine own_st (fun zw zk => st222 zw zk) ?_
  have F0_222 := F0_220.wr W222
  have F1_222 := F1_220.other W222 (Or.inr (slot_ne (Or.inl (hw _ (List.mem_of_getElem? (i := 18) rfl))) (Or.inl (hw _ (List.mem_of_getElem? (i := 27) rfl))) (by decide) (t := (.array .long)) (t' := .int) (by decide) (by decide)))
  have F5_222 := F5_220.other W222 (Ne.symm ne_d_t)
  have F4_222 := F4_220.other W222 (Or.inr (slot_ne (Or.inl (hw _ (List.mem_of_getElem? (i := 25) rfl))) (Or.inl (hw _ (List.mem_of_getElem? (i := 27) rfl))) (by decide) (t := .long) (t' := .int) (by decide) (by decide)))
  have F2_222 := F2_220.other W222 (Or.inr (slot_ne (Or.inl (hw _ (List.mem_of_getElem? (i := 33) rfl))) (Or.inl (hw _ (List.mem_of_getElem? (i := 27) rfl))) (by decide) (t := .int) (t' := .int) (by decide) (by decide)))
  have Z222 : n0 ≤ h222.size := Nat.le_trans Z220 (Keep.of_wr W222).1
  have Kp222 := Kp220.wr W222 (Or.inl (List.mem_of_getElem? (i := 0) rfl))
  refine own_st (fun zw zk => XS.goto X222.here hx rfl (pc0 := 73) (pc' := 0) rfl (hb hby d8_73) (by decide) (by decide) zk) ?_
  show own_Go p e below G (T222.setTop (mkF m 0 #[.val (.ref d), .val (.long q1), .second] []))
  refine own_st (fun zw zk => XS.aloadN X222.here hx rfl (hb hby d8_0) rfl rfl zk) ?_
  obtain ⟨T223, X223, e223, st223⟩ := getF X222 hx hZ hown (host := "") (Or.inl (hw _ (List.mem_of_getElem? (i := 26) rfl))) Via.refl e222 F3_222 (g := (mkF m 1 #[.val (.ref d), .val (.long q1), .second] [(.ref d)])) rfl rfl (hb hby d8_1)
  refine own_st (fun zw zk => st223 zw zk) ?_
  refine own_st (fun zw zk => XS.ifNo X223.here hx rfl (hb hby d8_4) rfl ((if0 _ _).trans (tlt (by decide : (0 : Int32) < (3 : Int32))).2.2.2) zk) ?_
  refine own_st (fun zw zk => XS.aloadN X223.here hx rfl (hb hby d8_7) rfl rfl zk) ?_
  obtain ⟨T224, X224, e224, st224⟩ := getF X223 hx hZ hown (host := "") (Or.inl (hw _ (List.mem_of_getElem? (i := 17) rfl))) Via.refl e223 F1_222 (g := (mkF m 8 #[.val (.ref d), .val (.long q1), .second] [(.ref d)])) rfl rfl (hb hby d8_8)
  refine own_st (fun zw zk => st224 zw zk) ?_
  refine own_st (fun zw zk => XS.aloadN X224.here hx rfl (hb hby d8_11) rfl rfl zk) ?_
  refine own_st (fun zw zk => XS.iconst X224.here hx rfl (hb hby d8_12) zk) ?_
  obtain ⟨cq225, q225, q225'⟩ := F0_222.cell
  obtain ⟨_, _, ⟨T225, L225, k225, n225⟩, -, X225, ⟨Lc225, hQ225, l225, y225, z225⟩, st225⟩ := X224.privateBack hx (y := (⟨"com/example/headroom/headroom/SlidingLog$Log", "slot", "(I)I"⟩ : MethodName)) hown (mvT hZ (hw _ (List.mem_of_getElem? (i := 28) rfl))) (mvT hZ (hw _ (List.mem_of_getElem? (i := 29) rfl))) (own_selp hZ (hw _ (List.mem_of_getElem? (i := 3) rfl)) (hw _ (List.mem_of_getElem? (i := 30) rfl)) (hw _ (List.mem_of_getElem? (i := 29) rfl)) (by decide)) (Cond.privateMethod_at (mvP hZ (hw _ (List.mem_of_getElem? (i := 30) rfl)) (args := #[]))) (mvT hZ (hw _ (List.mem_of_getElem? (i := 31) rfl))) (by decide) (backOf (W := 1) (rm5 l Z a0 hw [] d (0 : Int32) t (2 : Int32) (8 : Int32) [(.long w0), (.long w1), (.long w2), (.long w3), (.long w4), (.long w5), (.long w6), (.long w7)] h222 n0 Z222 (F1_222) (F2_222) (F5_222) (rfl)) hZ (hw _ (List.mem_of_getElem? (i := 31) rfl)) (hw _ (List.mem_of_getElem? (i := 4) rfl)) (by decide) (by decide)) (g := (mkF m 13 #[.val (.ref d), .val (.long q1), .second] [(.int (0 : Int32)), (.ref d), (.ref t)])) rfl (by rw [hml]; rfl) (Steps.refl _) (a := d) (by rw [e224]; exact q225) q225' (argsL := [(.int (0 : Int32))]) (rest := [(.ref t)]) (lenOf pd_1 rfl) rfl (by show 2 * 0 + _ ≤ _; exact Nat.le_of_eq rfl) (hb hby d8_13) (fun _ _ => ⟨rfl, e224, (by decide : 0 + 0 ≤ _), (by decide : 0 + 0 ≤ _)⟩)
  dsimp only [Pt.U, Pt.locs, Pt.cells, Pt.slots] at X225 l225 y225 z225 st225 hQ225
  subst l225 y225 z225
  obtain ⟨rfl, N225q, e225⟩ := hQ225
  have N225 := Fr.app N222 N225q
  refine own_jp st225 ?_
  show own_Go p e below G (T225.setTop (mkF m 16 #[.val (.ref d), .val (.long q1), .second] [(.int (4 : Int32)), (.ref t)]))
  refine own_st (fun zw zk => own_jld X225 hx hZ e225 F5_222 (j := (4 : Int32)) (v := (.long w4)) (i := 4) (by decide) (by decide) rfl (g := (mkF m 16 #[.val (.ref d), .val (.long q1), .second] [(.int (4 : Int32)), (.ref t)])) rfl rfl (hb hby d8_16) _ zk) ?_
  refine own_st (fun zw zk => XS.lloadN X225.here hx rfl (hb hby d8_17) rfl zk) ?_
  refine own_st (fun zw zk => XS.lcmp X225.here hx rfl (hb hby d8_18) rfl zk) ?_
  have hc19_1 : ¬ (q1 < w4) := hf1
  refine own_st (fun zw zk => XS.ifNo X225.here hx rfl (hb hby d8_19) rfl ((if0 _ _).trans (flt (own_flg hc19_1)).2.2.1) zk) ?_
  refine own_st (fun zw zk => XS.aloadN X225.here hx rfl (hb hby d8_22) rfl rfl zk) ?_
  refine own_st (fun zw zk => XS.dup X225.here hx rfl (hb hby d8_23) rfl rfl zk) ?_
  obtain ⟨T226, X226, e226, st226⟩ := getF X225 hx hZ hown (host := "") (Or.inl (hw _ (List.mem_of_getElem? (i := 24) rfl))) Via.refl e225 F4_222 (g := (mkF m 24 #[.val (.ref d), .val (.long q1), .second] [(.ref d), (.ref d)])) rfl rfl (hb hby d8_24)
  refine own_st (fun zw zk => st226 zw zk) ?_
  refine own_st (fun zw zk => XS.aloadN X226.here hx rfl (hb hby d8_27) rfl rfl zk) ?_
  show own_Go p e below G (T226.setTop (mkF m 28 #[.val (.ref d), .val (.long q1), .second] [(.ref d), (.long (adm - w3)), (.ref d)]))
  obtain ⟨T227, X227, e227, st227⟩ := getF X226 hx hZ hown (host := "") (Or.inl (hw _ (List.mem_of_getElem? (i := 17) rfl))) Via.refl e226 F1_222 (g := (mkF m 28 #[.val (.ref d), .val (.long q1), .second] [(.ref d), (.long (adm - w3)), (.ref d)])) rfl rfl (hb hby d8_28)
  refine own_st (fun zw zk => st227 zw zk) ?_
  refine own_st (fun zw zk => XS.aloadN X227.here hx rfl (hb hby d8_31) rfl rfl zk) ?_
  refine own_st (fun zw zk => XS.iconst X227.here hx rfl (hb hby d8_32) zk) ?_
  obtain ⟨cq228, q228, q228'⟩ := F0_222.cell
  obtain ⟨_, _, ⟨T228, L228, k228, n228⟩, -, X228, ⟨Lc228, hQ228, l228, y228, z228⟩, st228⟩ := X227.privateBack hx (y := (⟨"com/example/headroom/headroom/SlidingLog$Log", "slot", "(I)I"⟩ : MethodName)) hown (mvT hZ (hw _ (List.mem_of_getElem? (i := 28) rfl))) (mvT hZ (hw _ (List.mem_of_getElem? (i := 29) rfl))) (own_selp hZ (hw _ (List.mem_of_getElem? (i := 3) rfl)) (hw _ (List.mem_of_getElem? (i := 30) rfl)) (hw _ (List.mem_of_getElem? (i := 29) rfl)) (by decide)) (Cond.privateMethod_at (mvP hZ (hw _ (List.mem_of_getElem? (i := 30) rfl)) (args := #[]))) (mvT hZ (hw _ (List.mem_of_getElem? (i := 31) rfl))) (by decide) (backOf (W := 4) (rm5 l Z a0 hw [] d (0 : Int32) t (2 : Int32) (8 : Int32) [(.long w0), (.long w1), (.long w2), (.long w3), (.long w4), (.long w5), (.long w6), (.long w7)] h222 n0 Z222 (F1_222) (F2_222) (F5_222) (rfl)) hZ (hw _ (List.mem_of_getElem? (i := 31) rfl)) (hw _ (List.mem_of_getElem? (i := 4) rfl)) (by decide) (by decide)) (g := (mkF m 33 #[.val (.ref d), .val (.long q1), .second] [(.int (0 : Int32)), (.ref d), (.ref t), (.long (adm - w3)), (.ref d)])) rfl (by rw [hml]; rfl) (Steps.refl _) (a := d) (by rw [e227]; exact q228) q228' (argsL := [(.int (0 : Int32))]) (rest := [(.ref t), (.long (adm - w3)), (.ref d)]) (lenOf pd_1 rfl) rfl (by show 2 * 0 + _ ≤ _; exact Nat.le_of_eq rfl) (hb hby d8_33) (fun _ _ => ⟨rfl, e227, (by decide : 0 + 0 ≤ _), (by decide : 0 + 0 ≤ _)⟩)
  dsimp only [Pt.U, Pt.locs, Pt.cells, Pt.slots] at X228 l228 y228 z228 st228 hQ228
  subst l228 y228 z228
  obtain ⟨rfl, N228q, e228⟩ := hQ228
  have N228 := Fr.app N225 N228q
  refine own_jp st228 ?_
  refine own_st (fun zw zk => XS.iconst X228.here hx rfl (hb hby d8_36) zk) ?_
  refine own_st (fun zw zk => XS.iadd X228.here hx rfl (hb hby d8_37) rfl zk) ?_
  refine own_st (fun zw zk => own_jld X228 hx hZ e228 F5_222 (j := (5 : Int32)) (v := (.long w5)) (i := 5) (by decide) (by decide) rfl (g := (mkF m 38 #[.val (.ref d), .val (.long q1), .second] [(.int (5 : Int32)), (.ref t), (.long (adm - w3)), (.ref d)])) rfl rfl (hb hby d8_38) _ zk) ?_
  refine own_st (fun zw zk => XS.lsub X228.here hx rfl (hb hby d8_39) rfl zk) ?_
  show own_Go p e below G (T228.setTop (mkF m 40 #[.val (.ref d), .val (.long q1), .second] [(.long ((adm - w3) - w5)), (.ref d)]))
  obtain ⟨T229, h229, X229, e229, W229, st229⟩ := putF X228 hx hZ hown (host := "") (Or.inl (hw _ (List.mem_of_getElem? (i := 24) rfl))) Via.refl e228 F4_222 F0_222 (Or.inl (hw _ (List.mem_of_getElem? (i := 25) rfl))) (hw _ (List.mem_of_getElem? (i := 3) rfl)) (ty := .long) (by decide) rfl rfl (g := (mkF m 40 #[.val (.ref d), .val (.long q1), .second] [(.long ((adm - w3) - w5)), (.ref d)])) rfl rfl (hb hby d8_40)
  have F4_229 := F4_222.same W229
  have N229 := Fr.snoc X229 N228 ge_d
  refine own_st (fun zw zk => st229 zw zk) ?_
  have F0_229 := F0_222.wr W229
  have F1_229 := F1_222.other W229 (Or.inr (slot_ne (Or.inl (hw _ (List.mem_of_getElem? (i := 18) rfl))) (Or.inl (hw _ (List.mem_of_getElem? (i := 25) rfl))) (by decide) (t := (.array .long)) (t' := .long) (by decide) (by decide)))
  have F5_229 := F5_222.other W229 (Ne.symm ne_d_t)
  have F2_229 := F2_222.other W229 (Or.inr (slot_ne (Or.inl (hw _ (List.mem_of_getElem? (i := 33) rfl))) (Or.inl (hw _ (List.mem_of_getElem? (i := 25) rfl))) (by decide) (t := .int) (t' := .long) (by decide) (by decide)))
  have F3_229 := F3_222.other W229 (Or.inr (slot_ne (Or.inl (hw _ (List.mem_of_getElem? (i := 27) rfl))) (Or.inl (hw _ (List.mem_of_getElem? (i := 25) rfl))) (by decide) (t := .int) (t' := .long) (by decide) (by decide)))
  have Z229 : n0 ≤ h229.size := Nat.le_trans Z222 (Keep.of_wr W229).1
  have Kp229 := Kp222.wr W229 (Or.inl (List.mem_of_getElem? (i := 0) rfl))
  refine own_st (fun zw zk => XS.aloadN X229.here hx rfl (hb hby d8_43) rfl rfl zk) ?_
  refine own_st (fun zw zk => XS.aloadN X229.here hx rfl (hb hby d8_44) rfl rfl zk) ?_
  obtain ⟨T230, X230, e230, st230⟩ := getF X229 hx hZ hown (host := "") (Or.inl (hw _ (List.mem_of_getElem? (i := 32) rfl))) Via.refl e229 F2_229 (g := (mkF m 45 #[.val (.ref d), .val (.long q1), .second] [(.ref d), (.ref d)])) rfl rfl (hb hby d8_45)
  refine own_st (fun zw zk => st230 zw zk) ?_
  refine own_st (fun zw zk => XS.iconst X230.here hx rfl (hb hby d8_48) zk) ?_
  refine own_st (fun zw zk => XS.iadd X230.here hx rfl (hb hby d8_49) rfl zk) ?_
  refine own_st (fun zw zk => XS.aloadN X230.here hx rfl (hb hby d8_50) rfl rfl zk) ?_
  obtain ⟨T231, X231, e231, st231⟩ := getF X230 hx hZ hown (host := "") (Or.inl (hw _ (List.mem_of_getElem? (i := 17) rfl))) Via.refl e230 F1_229 (g := (mkF m 51 #[.val (.ref d), .val (.long q1), .second] [(.ref d), (.int (3 : Int32)), (.ref d)])) rfl rfl (hb hby d8_51)
  refine own_st (fun zw zk => st231 zw zk) ?_
  show own_Go p e below G (T231.setTop (mkF m 54 #[.val (.ref d), .val (.long q1), .second] [(.ref t), (.int (3 : Int32)), (.ref d)]))
  refine own_st (fun zw zk => own_len X231 hx hZ e231 F5_229 (z := (8 : Int32)) (rfl) (g := (mkF m 54 #[.val (.ref d), .val (.long q1), .second] [(.ref t), (.int (3 : Int32)), (.ref d)])) rfl rfl (hb hby d8_54) _ zk) ?_
  refine own_st (fun zw zk => XS.iconst X231.here hx rfl (hb hby d8_55) zk) ?_
  refine own_st (fun zw zk => XS.idiv X231.here hx rfl (hb hby d8_56) rfl (by decide) zk) ?_
  refine own_st (fun zw zk => XS.iconst X231.here hx rfl (hb hby d8_57) zk) ?_
  refine own_st (fun zw zk => XS.isub X231.here hx rfl (hb hby d8_58) rfl zk) ?_
  refine own_st (fun zw zk => XS.iand X231.here hx rfl (hb hby d8_59) rfl zk) ?_
  obtain ⟨T232, h232, X232, e232, W232, st232⟩ := putF X231 hx hZ hown (host := "") (Or.inl (hw _ (List.mem_of_getElem? (i := 32) rfl))) Via.refl e231 F2_229 F0_229 (Or.inl (hw _ (List.mem_of_getElem? (i := 33) rfl))) (hw _ (List.mem_of_getElem? (i := 3) rfl)) (ty := .int) (by decide) rfl rfl (g := (mkF m 60 #[.val (.ref d), .val (.long q1), .second] [(.int (3 : Int32)), (.ref d)])) rfl rfl (hb hby d8_60)
  have F2_232 := F2_229.same W232
  have N232 := Fr.snoc X232 N229 ge_d
  refine own_st (fun zw zk => st232 zw zk) ?_
  have F0_232 := F0_229.wr W232
  have F1_232 := F1_229.other W232 (Or.inr (slot_ne (Or.inl (hw _ (List.mem_of_getElem? (i := 18) rfl))) (Or.inl (hw _ (List.mem_of_getElem? (i := 33) rfl))) (by decide) (t := (.array .long)) (t' := .int) (by decide) (by decide)))
  have F5_232 := F5_229.other W232 (Ne.symm ne_d_t)
  have F3_232 := F3_229.other W232 (Or.inr (slot_ne (Or.inl (hw _ (List.mem_of_getElem? (i := 27) rfl))) (Or.inl (hw _ (List.mem_of_getElem? (i := 33) rfl))) (by decide) (t := .int) (t' := .int) (by decide) (by decide)))
  have F4_232 := F4_229.other W232 (Or.inr (slot_ne (Or.inl (hw _ (List.mem_of_getElem? (i := 25) rfl))) (Or.inl (hw _ (List.mem_of_getElem? (i := 33) rfl))) (by decide) (t := .long) (t' := .int) (by decide) (by decide)))
  have Z232 : n0 ≤ h232.size := Nat.le_trans Z229 (Keep.of_wr W232).1
  have Kp232 := Kp229.wr W232 (Or.inl (List.mem_of_getElem? (i := 0) rfl))
  refine own_st (fun zw zk => XS.aloadN X232.here hx rfl (hb hby d8_63) rfl rfl zk) ?_
  show own_Go p e below G (T232.setTop (mkF m 64 #[.val (.ref d), .val (.long q1), .second] [(.ref d)]))
  refine own_st (fun zw zk => XS.dup X232.here hx rfl (hb hby d8_64) rfl rfl zk) ?_
  obtain ⟨T233, X233, e233, st233⟩ := getF X232 hx hZ hown (host := "") (Or.inl (hw _ (List.mem_of_getElem? (i := 26) rfl))) Via.refl e232 F3_232 (g := (mkF m 65 #[.val (.ref d), .val (.long q1), .second] [(.ref d), (.ref d)])) rfl rfl (hb hby d8_65)
  refine own_st (fun zw zk => st233 zw zk) ?_
  refine own_st (fun zw zk => XS.iconst X233.here hx rfl (hb hby d8_68) zk) ?_
  refine own_st (fun zw zk => XS.isub X233.here hx rfl (hb hby d8_69) rfl zk) ?_
  obtain ⟨T234, h234, X234, e234, W234, st234⟩ := putF X233 hx hZ hown (host := "") (Or.inl (hw _ (List.mem_of_getElem? (i := 26) rfl))) Via.refl e233 F3_232 F0_232 (Or.inl (hw _ (List.mem_of_getElem? (i := 27) rfl))) (hw _ (List.mem_of_getElem? (i := 3) rfl)) (ty := .int) (by decide) rfl rfl (g := (mkF m 70 #[.val (.ref d), .val (.long q1), .second] [(.int (2 : Int32)), (.ref d)])) rfl rfl (hb hby d8_70)
  have F3_234 := F3_232.same W234
  have N234 := Fr.snoc X234 N232 ge_d
  refine own_st (fun zw zk => st234 zw zk) ?_
  have F0_234 := F0_232.wr W234
  have F1_234 := F1_232.other W234 (Or.inr (slot_ne (Or.inl (hw _ (List.mem_of_getElem? (i := 18) rfl))) (Or.inl (hw _ (List.mem_of_getElem? (i := 27) rfl))) (by decide) (t := (.array .long)) (t' := .int) (by decide) (by decide)))
  have F5_234 := F5_232.other W234 (Ne.symm ne_d_t)
  have F4_234 := F4_232.other W234 (Or.inr (slot_ne (Or.inl (hw _ (List.mem_of_getElem? (i := 25) rfl))) (Or.inl (hw _ (List.mem_of_getElem? (i := 27) rfl))) (by decide) (t := .long) (t' := .int) (by decide) (by decide)))
  have F2_234 := F2_232.other W234 (Or.inr (slot_ne (Or.inl (hw _ (List.mem_of_getElem? (i := 33) rfl))) (Or.inl (hw _ (List.mem_of_getElem? (i := 27) rfl))) (by decide) (t := .int) (t' := .int) (by decide) (by decide)))
  have Z234 : n0 ≤ h234.size := Nat.le_trans Z232 (Keep.of_wr W234).1
  have Kp234 := Kp232.wr W234 (Or.inl (List.mem_of_getElem? (i := 0) rfl))
  refine own_st (fun zw zk => XS.goto X234.here hx rfl (pc0 := 73) (pc' := 0) rfl (hb hby d8_73) (by decide) (by decide) zk) ?_
  show own_Go p e below G (T234.setTop (mkF m 0 #[.val (.ref d), .val (.long q1), .second] []))
  refine own_st (fun zw zk => XS.aloadN X234.here hx rfl (hb hby d8_0) rfl rfl zk) ?_
  obtain ⟨T235, X235, e235, st235⟩ := getF X234 hx hZ hown (host := "") (Or.inl (hw _ (List.mem_of_getElem? (i := 26) rfl))) Via.refl e234 F3_234 (g := (mkF m 1 #[.val (.ref d), .val (.long q1), .second] [(.ref d)])) rfl rfl (hb hby d8_1)
  refine own_st (fun zw zk => st235 zw zk) ?_
  refine own_st (fun zw zk => XS.ifNo X235.here hx rfl (hb hby d8_4) rfl ((if0 _ _).trans (tlt (by decide : (0 : Int32) < (2 : Int32))).2.2.2) zk) ?_
  refine own_st (fun zw zk => XS.aloadN X235.here hx rfl (hb hby d8_7) rfl rfl zk) ?_
  obtain ⟨T236, X236, e236, st236⟩ := getF X235 hx hZ hown (host := "") (Or.inl (hw _ (List.mem_of_getElem? (i := 17) rfl))) Via.refl e235 F1_234 (g := (mkF m 8 #[.val (.ref d), .val (.long q1), .second] [(.ref d)])) rfl rfl (hb hby d8_8)
  refine own_st (fun zw zk => st236 zw zk) ?_
  refine own_st (fun zw zk => XS.aloadN X236.here hx rfl (hb hby d8_11) rfl rfl zk) ?_
  refine own_st (fun zw zk => XS.iconst X236.here hx rfl (hb hby d8_12) zk) ?_
  obtain ⟨cq237, q237, q237'⟩ := F0_234.cell
  obtain ⟨_, _, ⟨T237, L237, k237, n237⟩, -, X237, ⟨Lc237, hQ237, l237, y237, z237⟩, st237⟩ := X236.privateBack hx (y := (⟨"com/example/headroom/headroom/SlidingLog$Log", "slot", "(I)I"⟩ : MethodName)) hown (mvT hZ (hw _ (List.mem_of_getElem? (i := 28) rfl))) (mvT hZ (hw _ (List.mem_of_getElem? (i := 29) rfl))) (own_selp hZ (hw _ (List.mem_of_getElem? (i := 3) rfl)) (hw _ (List.mem_of_getElem? (i := 30) rfl)) (hw _ (List.mem_of_getElem? (i := 29) rfl)) (by decide)) (Cond.privateMethod_at (mvP hZ (hw _ (List.mem_of_getElem? (i := 30) rfl)) (args := #[]))) (mvT hZ (hw _ (List.mem_of_getElem? (i := 31) rfl))) (by decide) (backOf (W := 1) (rm5 l Z a0 hw [] d (0 : Int32) t (3 : Int32) (8 : Int32) [(.long w0), (.long w1), (.long w2), (.long w3), (.long w4), (.long w5), (.long w6), (.long w7)] h234 n0 Z234 (F1_234) (F2_234) (F5_234) (rfl)) hZ (hw _ (List.mem_of_getElem? (i := 31) rfl)) (hw _ (List.mem_of_getElem? (i := 4) rfl)) (by decide) (by decide)) (g := (mkF m 13 #[.val (.ref d), .val (.long q1), .second] [(.int (0 : Int32)), (.ref d), (.ref t)])) rfl (by rw [hml]; rfl) (Steps.refl _) (a := d) (by rw [e236]; exact q237) q237' (argsL := [(.int (0 : Int32))]) (rest := [(.ref t)]) (lenOf pd_1 rfl) rfl (by show 2 * 0 + _ ≤ _; exact Nat.le_of_eq rfl) (hb hby d8_13) (fun _ _ => ⟨rfl, e236, (by decide : 0 + 0 ≤ _), (by decide : 0 + 0 ≤ _)⟩)
  dsimp only [Pt.U, Pt.locs, Pt.cells, Pt.slots] at X237 l237 y237 z237 st237 hQ237
  subst l237 y237 z237
  obtain ⟨rfl, N237q, e237⟩ := hQ237
  have N237 := Fr.app N234 N237q
  refine own_jp st237 ?_
  show own_Go p e below G (T237.setTop (mkF m 16 #[.val (.ref d), .val (.long q1), .second] [(.int (6 : Int32)), (.ref t)]))
  refine own_st (fun zw zk => own_jld X237 hx hZ e237 F5_234 (j := (6 : Int32)) (v := (.long w6)) (i := 6) (by decide) (by decide) rfl (g := (mkF m 16 #[.val (.ref d), .val (.long q1), .second] [(.int (6 : Int32)), (.ref t)])) rfl rfl (hb hby d8_16) _ zk) ?_
  refine own_st (fun zw zk => XS.lloadN X237.here hx rfl (hb hby d8_17) rfl zk) ?_
  refine own_st (fun zw zk => XS.lcmp X237.here hx rfl (hb hby d8_18) rfl zk) ?_
  have hc19_2 : ¬ (q1 < w6) := hf2
  refine own_st (fun zw zk => XS.ifNo X237.here hx rfl (hb hby d8_19) rfl ((if0 _ _).trans (flt (own_flg hc19_2)).2.2.1) zk) ?_
  refine own_st (fun zw zk => XS.aloadN X237.here hx rfl (hb hby d8_22) rfl rfl zk) ?_
  refine own_st (fun zw zk => XS.dup X237.here hx rfl (hb hby d8_23) rfl rfl zk) ?_
  obtain ⟨T238, X238, e238, st238⟩ := getF X237 hx hZ hown (host := "") (Or.inl (hw _ (List.mem_of_getElem? (i := 24) rfl))) Via.refl e237 F4_234 (g := (mkF m 24 #[.val (.ref d), .val (.long q1), .second] [(.ref d), (.ref d)])) rfl rfl (hb hby d8_24)
  refine own_st (fun zw zk => st238 zw zk) ?_
  refine own_st (fun zw zk => XS.aloadN X238.here hx rfl (hb hby d8_27) rfl rfl zk) ?_
  show own_Go p e below G (T238.setTop (mkF m 28 #[.val (.ref d), .val (.long q1), .second] [(.ref d), (.long ((adm - w3) - w5)), (.ref d)]))
  obtain ⟨T239, X239, e239, st239⟩ := getF X238 hx hZ hown (host := "") (Or.inl (hw _ (List.mem_of_getElem? (i := 17) rfl))) Via.refl e238 F1_234 (g := (mkF m 28 #[.val (.ref d), .val (.long q1), .second] [(.ref d), (.long ((adm - w3) - w5)), (.ref d)])) rfl rfl (hb hby d8_28)
  refine own_st (fun zw zk => st239 zw zk) ?_
  refine own_st (fun zw zk => XS.aloadN X239.here hx rfl (hb hby d8_31) rfl rfl zk) ?_
  refine own_st (fun zw zk => XS.iconst X239.here hx rfl (hb hby d8_32) zk) ?_
  obtain ⟨cq240, q240, q240'⟩ := F0_234.cell
  obtain ⟨_, _, ⟨T240, L240, k240, n240⟩, -, X240, ⟨Lc240, hQ240, l240, y240, z240⟩, st240⟩ := X239.privateBack hx (y := (⟨"com/example/headroom/headroom/SlidingLog$Log", "slot", "(I)I"⟩ : MethodName)) hown (mvT hZ (hw _ (List.mem_of_getElem? (i := 28) rfl))) (mvT hZ (hw _ (List.mem_of_getElem? (i := 29) rfl))) (own_selp hZ (hw _ (List.mem_of_getElem? (i := 3) rfl)) (hw _ (List.mem_of_getElem? (i := 30) rfl)) (hw _ (List.mem_of_getElem? (i := 29) rfl)) (by decide)) (Cond.privateMethod_at (mvP hZ (hw _ (List.mem_of_getElem? (i := 30) rfl)) (args := #[]))) (mvT hZ (hw _ (List.mem_of_getElem? (i := 31) rfl))) (by decide) (backOf (W := 4) (rm5 l Z a0 hw [] d (0 : Int32) t (3 : Int32) (8 : Int32) [(.long w0), (.long w1), (.long w2), (.long w3), (.long w4), (.long w5), (.long w6), (.long w7)] h234 n0 Z234 (F1_234) (F2_234) (F5_234) (rfl)) hZ (hw _ (List.mem_of_getElem? (i := 31) rfl)) (hw _ (List.mem_of_getElem? (i := 4) rfl)) (by decide) (by decide)) (g := (mkF m 33 #[.val (.ref d), .val (.long q1), .second] [(.int (0 : Int32)), (.ref d), (.ref t), (.long ((adm - w3) - w5)), (.ref d)])) rfl (by rw [hml]; rfl) (Steps.refl _) (a := d) (by rw [e239]; exact q240) q240' (argsL := [(.int (0 : Int32))]) (rest := [(.ref t), (.long ((adm - w3) - w5)), (.ref d)]) (lenOf pd_1 rfl) rfl (by show 2 * 0 + _ ≤ _; exact Nat.le_of_eq rfl) (hb hby d8_33) (fun _ _ => ⟨rfl, e239, (by decide : 0 + 0 ≤ _), (by decide : 0 + 0 ≤ _)⟩)
  dsimp only [Pt.U, Pt.locs, Pt.cells, Pt.slots] at X240 l240 y240 z240 st240 hQ240
  subst l240 y240 z240
  obtain ⟨rfl, N240q, e240⟩ := hQ240
  have N240 := Fr.app N237 N240q
  refine own_jp st240 ?_
  refine own_st (fun zw zk => XS.iconst X240.here hx rfl (hb hby d8_36) zk) ?_
  refine own_st (fun zw zk => XS.iadd X240.here hx rfl (hb hby d8_37) rfl zk) ?_
  refine own_st (fun zw zk => own_jld X240 hx hZ e240 F5_234 (j := (7 : Int32)) (v := (.long w7)) (i := 7) (by decide) (by decide) rfl (g := (mkF m 38 #[.val (.ref d), .val (.long q1), .second] [(.int (7 : Int32)), (.ref t), (.long ((adm - w3) - w5)), (.ref d)])) rfl rfl (hb hby d8_38) _ zk) ?_
  refine own_st (fun zw zk => XS.lsub X240.here hx rfl (hb hby d8_39) rfl zk) ?_
  show own_Go p e below G (T240.setTop (mkF m 40 #[.val (.ref d), .val (.long q1), .second] [(.long (((adm - w3) - w5) - w7)), (.ref d)]))
  obtain ⟨T241, h241, X241, e241, W241, st241⟩ := putF X240 hx hZ hown (host := "") (Or.inl (hw _ (List.mem_of_getElem? (i := 24) rfl))) Via.refl e240 F4_234 F0_234 (Or.inl (hw _ (List.mem_of_getElem? (i := 25) rfl))) (hw _ (List.mem_of_getElem? (i := 3) rfl)) (ty := .long) (by decide) rfl rfl (g := (mkF m 40 #[.val (.ref d), .val (.long q1), .second] [(.long (((adm - w3) - w5) - w7)), (.ref d)])) rfl rfl (hb hby d8_40)
  have F4_241 := F4_234.same W241
  have N241 := Fr.snoc X241 N240 ge_d
  refine own_st (fun zw zk => st241 zw zk) ?_
  have F0_241 := F0_234.wr W241
  have F1_241 := F1_234.other W241 (Or.inr (slot_ne (Or.inl (hw _ (List.mem_of_getElem? (i := 18) rfl))) (Or.inl (hw _ (List.mem_of_getElem? (i := 25) rfl))) (by decide) (t := (.array .long)) (t' := .long) (by decide) (by decide)))
  have F5_241 := F5_234.other W241 (Ne.symm ne_d_t)
  have F2_241 := F2_234.other W241 (Or.inr (slot_ne (Or.inl (hw _ (List.mem_of_getElem? (i := 33) rfl))) (Or.inl (hw _ (List.mem_of_getElem? (i := 25) rfl))) (by decide) (t := .int) (t' := .long) (by decide) (by decide)))
  have F3_241 := F3_234.other W241 (Or.inr (slot_ne (Or.inl (hw _ (List.mem_of_getElem? (i := 27) rfl))) (Or.inl (hw _ (List.mem_of_getElem? (i := 25) rfl))) (by decide) (t := .int) (t' := .long) (by decide) (by decide)))
  have Z241 : n0 ≤ h241.size := Nat.le_trans Z234 (Keep.of_wr W241).1
  have Kp241 := Kp234.wr W241 (Or.inl (List.mem_of_getElem? (i := 0) rfl))
  refine own_st (fun zw zk => XS.aloadN X241.here hx rfl (hb hby d8_43) rfl rfl zk) ?_
  refine own_st (fun zw zk => XS.aloadN X241.here hx rfl (hb hby d8_44) rfl rfl zk) ?_
  obtain ⟨T242, X242, e242, st242⟩ := getF X241 hx hZ hown (host := "") (Or.inl (hw _ (List.mem_of_getElem? (i := 32) rfl))) Via.refl e241 F2_241 (g := (mkF m 45 #[.val (.ref d), .val (.long q1), .second] [(.ref d), (.ref d)])) rfl rfl (hb hby d8_45)
  refine own_st (fun zw zk => st242 zw zk) ?_
  refine own_st (fun zw zk => XS.iconst X242.here hx rfl (hb hby d8_48) zk) ?_
  refine own_st (fun zw zk => XS.iadd X242.here hx rfl (hb hby d8_49) rfl zk) ?_
  refine own_st (fun zw zk => XS.aloadN X242.here hx rfl (hb hby d8_50) rfl rfl zk) ?_
  obtain ⟨T243, X243, e243, st243⟩ := getF X242 hx hZ hown (host := "") (Or.inl (hw _ (List.mem_of_getElem? (i := 17) rfl))) Via.refl e242 F1_241 (g := (mkF m 51 #[.val (.ref d), .val (.long q1), .second] [(.ref d), (.int (4 : Int32)), (.ref d)])) rfl rfl (hb hby d8_51)
  refine own_st (fun zw zk => st243 zw zk) ?_
  show own_Go p e below G (T243.setTop (mkF m 54 #[.val (.ref d), .val (.long q1), .second] [(.ref t), (.int (4 : Int32)), (.ref d)]))
  refine own_st (fun zw zk => own_len X243 hx hZ e243 F5_241 (z := (8 : Int32)) (rfl) (g := (mkF m 54 #[.val (.ref d), .val (.long q1), .second] [(.ref t), (.int (4 : Int32)), (.ref d)])) rfl rfl (hb hby d8_54) _ zk) ?_
  refine own_st (fun zw zk => XS.iconst X243.here hx rfl (hb hby d8_55) zk) ?_
  refine own_st (fun zw zk => XS.idiv X243.here hx rfl (hb hby d8_56) rfl (by decide) zk) ?_
  refine own_st (fun zw zk => XS.iconst X243.here hx rfl (hb hby d8_57) zk) ?_
  refine own_st (fun zw zk => XS.isub X243.here hx rfl (hb hby d8_58) rfl zk) ?_
  refine own_st (fun zw zk => XS.iand X243.here hx rfl (hb hby d8_59) rfl zk) ?_
  obtain ⟨T244, h244, X244, e244, W244, st244⟩ := putF X243 hx hZ hown (host := "") (Or.inl (hw _ (List.mem_of_getElem? (i := 32) rfl))) Via.refl e243 F2_241 F0_241 (Or.inl (hw _ (List.mem_of_getElem? (i := 33) rfl))) (hw _ (List.mem_of_getElem? (i := 3) rfl)) (ty := .int) (by decide) rfl rfl (g := (mkF m 60 #[.val (.ref d), .val (.long q1), .second] [(.int (0 : Int32)), (.ref d)])) rfl rfl (hb hby d8_60)
  have F2_244 := F2_241.same W244
  have N244 := Fr.snoc X244 N241 ge_d
  refine own_st (fun zw zk => st244 zw zk) ?_
  have F0_244 := F0_241.wr W244
  have F1_244 := F1_241.other W244 (Or.inr (slot_ne (Or.inl (hw _ (List.mem_of_getElem? (i := 18) rfl))) (Or.inl (hw _ (List.mem_of_getElem? (i := 33) rfl))) (by decide) (t := (.array .long)) (t' := .int) (by decide) (by decide)))
  have F5_244 := F5_241.other W244 (Ne.symm ne_d_t)
  have F3_244 := F3_241.other W244 (Or.inr (slot_ne (Or.inl (hw _ (List.mem_of_getElem? (i := 27) rfl))) (Or.inl (hw _ (List.mem_of_getElem? (i := 33) rfl))) (by decide) (t := .int) (t' := .int) (by decide) (by decide)))
  have F4_244 := F4_241.other W244 (Or.inr (slot_ne (Or.inl (hw _ (List.mem_of_getElem? (i := 25) rfl))) (Or.inl (hw _ (List.mem_of_getElem? (i := 33) rfl))) (by decide) (t := .long) (t' := .int) (by decide) (by decide)))
  have Z244 : n0 ≤ h244.size := Nat.le_trans Z241 (Keep.of_wr W244).1
  have Kp244 := Kp241.wr W244 (Or.inl (List.mem_of_getElem? (i := 0) rfl))
  refine own_st (fun zw zk => XS.aloadN X244.here hx rfl (hb hby d8_63) rfl rfl zk) ?_
  show own_Go p e below G (T244.setTop (mkF m 64 #[.val (.ref d), .val (.long q1), .second] [(.ref d)]))
  refine own_st (fun zw zk => XS.dup X244.here hx rfl (hb hby d8_64) rfl rfl zk) ?_
  obtain ⟨T245, X245, e245, st245⟩ := getF X244 hx hZ hown (host := "") (Or.inl (hw _ (List.mem_of_getElem? (i := 26) rfl))) Via.refl e244 F3_244 (g := (mkF m 65 #[.val (.ref d), .val (.long q1), .second] [(.ref d), (.ref d)])) rfl rfl (hb hby d8_65)
  refine own_st (fun zw zk => st245 zw zk) ?_
  refine own_st (fun zw zk => XS.iconst X245.here hx rfl (hb hby d8_68) zk) ?_
  refine own_st (fun zw zk => XS.isub X245.here hx rfl (hb hby d8_69) rfl zk) ?_
  obtain ⟨T246, h246, X246, e246, W246, st246⟩ := putF X245 hx hZ hown (host := "") (Or.inl (hw _ (List.mem_of_getElem? (i := 26) rfl))) Via.refl e245 F3_244 F0_244 (Or.inl (hw _ (List.mem_of_getElem? (i := 27) rfl))) (hw _ (List.mem_of_getElem? (i := 3) rfl)) (ty := .int) (by decide) rfl rfl (g := (mkF m 70 #[.val (.ref d), .val (.long q1), .second] [(.int (1 : Int32)), (.ref d)])) rfl rfl (hb hby d8_70)
  have F3_246 := F3_244.same W246
  have N246 := Fr.snoc X246 N244 ge_d
  refine own_st (fun zw zk => st246 zw zk) ?_
  have F0_246 := F0_244.wr W246
  have F1_246 := F1_244.other W246 (Or.inr (slot_ne (Or.inl (hw _ (List.mem_of_getElem? (i := 18) rfl))) (Or.inl (hw _ (List.mem_of_getElem? (i := 27) rfl))) (by decide) (t := (.array .long)) (t' := .int) (by decide) (by decide)))
  have F5_246 := F5_244.other W246 (Ne.symm ne_d_t)
  have F4_246 := F4_244.other W246 (Or.inr (slot_ne (Or.inl (hw _ (List.mem_of_getElem? (i := 25) rfl))) (Or.inl (hw _ (List.mem_of_getElem? (i := 27) rfl))) (by decide) (t := .long) (t' := .int) (by decide) (by decide)))
  have F2_246 := F2_244.other W246 (Or.inr (slot_ne (Or.inl (hw _ (List.mem_of_getElem? (i := 33) rfl))) (Or.inl (hw _ (List.mem_of_getElem? (i := 27) rfl))) (by decide) (t := .int) (t' := .int) (by decide) (by decide)))
  have Z246 : n0 ≤ h246.size := Nat.le_trans Z244 (Keep.of_wr W246).1
  have Kp246 := Kp244.wr W246 (Or.inl (List.mem_of_getElem? (i := 0) rfl))
  refine own_st (fun zw zk => XS.goto X246.here hx rfl (pc0 := 73) (pc' := 0) rfl (hb hby d8_73) (by decide) (by decide) zk) ?_
  show own_Go p e below G (T246.setTop (mkF m 0 #[.val (.ref d), .val (.long q1), .second] []))
  refine own_st (fun zw zk => XS.aloadN X246.here hx rfl (hb hby d8_0) rfl rfl zk) ?_
  obtain ⟨T247, X247, e247, st247⟩ := getF X246 hx hZ hown (host := "") (Or.inl (hw _ (List.mem_of_getElem? (i := 26) rfl))) Via.refl e246 F3_246 (g := (mkF m 1 #[.val (.ref d), .val (.long q1), .second] [(.ref d)])) rfl rfl (hb hby d8_1)
  refine own_st (fun zw zk => st247 zw zk) ?_
  refine own_st (fun zw zk => XS.ifNo X247.here hx rfl (hb hby d8_4) rfl ((if0 _ _).trans (tlt (by decide : (0 : Int32) < (1 : Int32))).2.2.2) zk) ?_
  refine own_st (fun zw zk => XS.aloadN X247.here hx rfl (hb hby d8_7) rfl rfl zk) ?_
  obtain ⟨T248, X248, e248, st248⟩ := getF X247 hx hZ hown (host := "") (Or.inl (hw _ (List.mem_of_getElem? (i := 17) rfl))) Via.refl e247 F1_246 (g := (mkF m 8 #[.val (.ref d), .val (.long q1), .second] [(.ref d)])) rfl rfl (hb hby d8_8)
  refine own_st (fun zw zk => st248 zw zk) ?_
  refine own_st (fun zw zk => XS.aloadN X248.here hx rfl (hb hby d8_11) rfl rfl zk) ?_
  refine own_st (fun zw zk => XS.iconst X248.here hx rfl (hb hby d8_12) zk) ?_
  obtain ⟨cq249, q249, q249'⟩ := F0_246.cell
  obtain ⟨_, _, ⟨T249, L249, k249, n249⟩, -, X249, ⟨Lc249, hQ249, l249, y249, z249⟩, st249⟩ := X248.privateBack hx (y := (⟨"com/example/headroom/headroom/SlidingLog$Log", "slot", "(I)I"⟩ : MethodName)) hown (mvT hZ (hw _ (List.mem_of_getElem? (i := 28) rfl))) (mvT hZ (hw _ (List.mem_of_getElem? (i := 29) rfl))) (own_selp hZ (hw _ (List.mem_of_getElem? (i := 3) rfl)) (hw _ (List.mem_of_getElem? (i := 30) rfl)) (hw _ (List.mem_of_getElem? (i := 29) rfl)) (by decide)) (Cond.privateMethod_at (mvP hZ (hw _ (List.mem_of_getElem? (i := 30) rfl)) (args := #[]))) (mvT hZ (hw _ (List.mem_of_getElem? (i := 31) rfl))) (by decide) (backOf (W := 1) (rm5 l Z a0 hw [] d (0 : Int32) t (0 : Int32) (8 : Int32) [(.long w0), (.long w1), (.long w2), (.long w3), (.long w4), (.long w5), (.long w6), (.long w7)] h246 n0 Z246 (F1_246) (F2_246) (F5_246) (rfl)) hZ (hw _ (List.mem_of_getElem? (i := 31) rfl)) (hw _ (List.mem_of_getElem? (i := 4) rfl)) (by decide) (by decide)) (g := (mkF m 13 #[.val (.ref d), .val (.long q1), .second] [(.int (0 : Int32)), (.ref d), (.ref t)])) rfl (by rw [hml]; rfl) (Steps.refl _) (a := d) (by rw [e248]; exact q249) q249' (argsL := [(.int (0 : Int32))]) (rest := [(.ref t)]) (lenOf pd_1 rfl) rfl (by show 2 * 0 + _ ≤ _; exact Nat.le_of_eq rfl) (hb hby d8_13) (fun _ _ => ⟨rfl, e248, (by decide : 0 + 0 ≤ _), (by decide : 0 + 0 ≤ _)⟩)
  dsimp only [Pt.U, Pt.locs, Pt.cells, Pt.slots] at X249 l249 y249 z249 st249 hQ249
  subst l249 y249 z249
  obtain ⟨rfl, N249q, e249⟩ := hQ249
  have N249 := Fr.app N246 N249q
  refine own_jp st249 ?_
  show own_Go p e below G (T249.setTop (mkF m 16 #[.val (.ref d), .val (.long q1), .second] [(.int (0 : Int32)), (.ref t)]))
  refine own_st (fun zw zk => own_jld X249 hx hZ e249 F5_246 (j := (0 : Int32)) (v := (.long w0)) (i := 0) (by decide) (by decide) rfl (g := (mkF m 16 #[.val (.ref d), .val (.long q1), .second] [(.int (0 : Int32)), (.ref t)])) rfl rfl (hb hby d8_16) _ zk) ?_
  refine own_st (fun zw zk => XS.lloadN X249.here hx rfl (hb hby d8_17) rfl zk) ?_
  refine own_st (fun zw zk => XS.lcmp X249.here hx rfl (hb hby d8_18) rfl zk) ?_
  have hc19_3 : ¬ (q1 < w0) := hf3
  refine own_st (fun zw zk => XS.ifNo X249.here hx rfl (hb hby d8_19) rfl ((if0 _ _).trans (flt (own_flg hc19_3)).2.2.1) zk) ?_
  refine own_st (fun zw zk => XS.aloadN X249.here hx rfl (hb hby d8_22) rfl rfl zk) ?_
  refine own_st (fun zw zk => XS.dup X249.here hx rfl (hb hby d8_23) rfl rfl zk) ?_
  obtain ⟨T250, X250, e250, st250⟩ := getF X249 hx hZ hown (host := "") (Or.inl (hw _ (List.mem_of_getElem? (i := 24) rfl))) Via.refl e249 F4_246 (g := (mkF m 24 #[.val (.ref d), .val (.long q1), .second] [(.ref d), (.ref d)])) rfl rfl (hb hby d8_24)
  refine own_st (fun zw zk => st250 zw zk) ?_
  refine own_st (fun zw zk => XS.aloadN X250.here hx rfl (hb hby d8_27) rfl rfl zk) ?_
  show own_Go p e below G (T250.setTop (mkF m 28 #[.val (.ref d), .val (.long q1), .second] [(.ref d), (.long (((adm - w3) - w5) - w7)), (.ref d)]))
  obtain ⟨T251, X251, e251, st251⟩ := getF X250 hx hZ hown (host := "") (Or.inl (hw _ (List.mem_of_getElem? (i := 17) rfl))) Via.refl e250 F1_246 (g := (mkF m 28 #[.val (.ref d), .val (.long q1), .second] [(.ref d), (.long (((adm - w3) - w5) - w7)), (.ref d)])) rfl rfl (hb hby d8_28)
  refine own_st (fun zw zk => st251 zw zk) ?_
  refine own_st (fun zw zk => XS.aloadN X251.here hx rfl (hb hby d8_31) rfl rfl zk) ?_
  refine own_st (fun zw zk => XS.iconst X251.here hx rfl (hb hby d8_32) zk) ?_
  obtain ⟨cq252, q252, q252'⟩ := F0_246.cell
  obtain ⟨_, _, ⟨T252, L252, k252, n252⟩, -, X252, ⟨Lc252, hQ252, l252, y252, z252⟩, st252⟩ := X251.privateBack hx (y := (⟨"com/example/headroom/headroom/SlidingLog$Log", "slot", "(I)I"⟩ : MethodName)) hown (mvT hZ (hw _ (List.mem_of_getElem? (i := 28) rfl))) (mvT hZ (hw _ (List.mem_of_getElem? (i := 29) rfl))) (own_selp hZ (hw _ (List.mem_of_getElem? (i := 3) rfl)) (hw _ (List.mem_of_getElem? (i := 30) rfl)) (hw _ (List.mem_of_getElem? (i := 29) rfl)) (by decide)) (Cond.privateMethod_at (mvP hZ (hw _ (List.mem_of_getElem? (i := 30) rfl)) (args := #[]))) (mvT hZ (hw _ (List.mem_of_getElem? (i := 31) rfl))) (by decide) (backOf (W := 4) (rm5 l Z a0 hw [] d (0 : Int32) t (0 : Int32) (8 : Int32) [(.long w0), (.long w1), (.long w2), (.long w3), (.long w4), (.long w5), (.long w6), (.long w7)] h246 n0 Z246 (F1_246) (F2_246) (F5_246) (rfl)) hZ (hw _ (List.mem_of_getElem? (i := 31) rfl)) (hw _ (List.mem_of_getElem? (i := 4) rfl)) (by decide) (by decide)) (g := (mkF m 33 #[.val (.ref d), .val (.long q1), .second] [(.int (0 : Int32)), (.ref d), (.ref t), (.long (((adm - w3) - w5) - w7)), (.ref d)])) rfl (by rw [hml]; rfl) (Steps.refl _) (a := d) (by rw [e251]; exact q252) q252' (argsL := [(.int (0 : Int32))]) (rest := [(.ref t), (.long (((adm - w3) - w5) - w7)), (.ref d)]) (lenOf pd_1 rfl) rfl (by show 2 * 0 + _ ≤ _; exact Nat.le_of_eq rfl) (hb hby d8_33) (fun _ _ => ⟨rfl, e251, (by decide : 0 + 0 ≤ _), (by decide : 0 + 0 ≤ _)⟩)
  dsimp only [Pt.U, Pt.locs, Pt.cells, Pt.slots] at X252 l252 y252 z252 st252 hQ252
  subst l252 y252 z252
  obtain ⟨rfl, N252q, e252⟩ := hQ252
  have N252 := Fr.app N249 N252q
  refine own_jp st252 ?_
  refine own_st (fun zw zk => XS.iconst X252.here hx rfl (hb hby d8_36) zk) ?_
  refine own_st (fun zw zk => XS.iadd X252.here hx rfl (hb hby d8_37) rfl zk) ?_
  refine own_st (fun zw zk => own_jld X252 hx hZ e252 F5_246 (j := (1 : Int32)) (v := (.long w1)) (i := 1) (by decide) (by decide) rfl (g := (mkF m 38 #[.val (.ref d), .val (.long q1), .second] [(.int (1 : Int32)), (.ref t), (.long (((adm - w3) - w5) - w7)), (.ref d)])) rfl rfl (hb hby d8_38) _ zk) ?_
  refine own_st (fun zw zk => XS.lsub X252.here hx rfl (hb hby d8_39) rfl zk) ?_
  show own_Go p e below G (T252.setTop (mkF m 40 #[.val (.ref d), .val (.long q1), .second] [(.long ((((adm - w3) - w5) - w7) - w1)), (.ref d)]))
  obtain ⟨T253, h253, X253, e253, W253, st253⟩ := putF X252 hx hZ hown (host := "") (Or.inl (hw _ (List.mem_of_getElem? (i := 24) rfl))) Via.refl e252 F4_246 F0_246 (Or.inl (hw _ (List.mem_of_getElem? (i := 25) rfl))) (hw _ (List.mem_of_getElem? (i := 3) rfl)) (ty := .long) (by decide) rfl rfl (g := (mkF m 40 #[.val (.ref d), .val (.long q1), .second] [(.long ((((adm - w3) - w5) - w7) - w1)), (.ref d)])) rfl rfl (hb hby d8_40)
  have F4_253 := F4_246.same W253
  have N253 := Fr.snoc X253 N252 ge_d
  refine own_st (fun zw zk => st253 zw zk) ?_
  have F0_253 := F0_246.wr W253
  have F1_253 := F1_246.other W253 (Or.inr (slot_ne (Or.inl (hw _ (List.mem_of_getElem? (i := 18) rfl))) (Or.inl (hw _ (List.mem_of_getElem? (i := 25) rfl))) (by decide) (t := (.array .long)) (t' := .long) (by decide) (by decide)))
  have F5_253 := F5_246.other W253 (Ne.symm ne_d_t)
  have F2_253 := F2_246.other W253 (Or.inr (slot_ne (Or.inl (hw _ (List.mem_of_getElem? (i := 33) rfl))) (Or.inl (hw _ (List.mem_of_getElem? (i := 25) rfl))) (by decide) (t := .int) (t' := .long) (by decide) (by decide)))
  have F3_253 := F3_246.other W253 (Or.inr (slot_ne (Or.inl (hw _ (List.mem_of_getElem? (i := 27) rfl))) (Or.inl (hw _ (List.mem_of_getElem? (i := 25) rfl))) (by decide) (t := .int) (t' := .long) (by decide) (by decide)))
  have Z253 : n0 ≤ h253.size := Nat.le_trans Z246 (Keep.of_wr W253).1
  have Kp253 := Kp246.wr W253 (Or.inl (List.mem_of_getElem? (i := 0) rfl))
  refine own_st (fun zw zk => XS.aloadN X253.here hx rfl (hb hby d8_43) rfl rfl zk) ?_
  refine own_st (fun zw zk => XS.aloadN X253.here hx rfl (hb hby d8_44) rfl rfl zk) ?_
  obtain ⟨T254, X254, e254, st254⟩ := getF X253 hx hZ hown (host := "") (Or.inl (hw _ (List.mem_of_getElem? (i := 32) rfl))) Via.refl e253 F2_253 (g := (mkF m 45 #[.val (.ref d), .val (.long q1), .second] [(.ref d), (.ref d)])) rfl rfl (hb hby d8_45)
  refine own_st (fun zw zk => st254 zw zk) ?_
  refine own_st (fun zw zk => XS.iconst X254.here hx rfl (hb hby d8_48) zk) ?_
  refine own_st (fun zw zk => XS.iadd X254.here hx rfl (hb hby d8_49) rfl zk) ?_
  refine own_st (fun zw zk => XS.aloadN X254.here hx rfl (hb hby d8_50) rfl rfl zk) ?_
  obtain ⟨T255, X255, e255, st255⟩ := getF X254 hx hZ hown (host := "") (Or.inl (hw _ (List.mem_of_getElem? (i := 17) rfl))) Via.refl e254 F1_253 (g := (mkF m 51 #[.val (.ref d), .val (.long q1), .second] [(.ref d), (.int (1 : Int32)), (.ref d)])) rfl rfl (hb hby d8_51)
  refine own_st (fun zw zk => st255 zw zk) ?_
  show own_Go p e below G (T255.setTop (mkF m 54 #[.val (.ref d), .val (.long q1), .second] [(.ref t), (.int (1 : Int32)), (.ref d)]))
  refine own_st (fun zw zk => own_len X255 hx hZ e255 F5_253 (z := (8 : Int32)) (rfl) (g := (mkF m 54 #[.val (.ref d), .val (.long q1), .second] [(.ref t), (.int (1 : Int32)), (.ref d)])) rfl rfl (hb hby d8_54) _ zk) ?_
  refine own_st (fun zw zk => XS.iconst X255.here hx rfl (hb hby d8_55) zk) ?_
  refine own_st (fun zw zk => XS.idiv X255.here hx rfl (hb hby d8_56) rfl (by decide) zk) ?_
  refine own_st (fun zw zk => XS.iconst X255.here hx rfl (hb hby d8_57) zk) ?_
  refine own_st (fun zw zk => XS.isub X255.here hx rfl (hb hby d8_58) rfl zk) ?_
  refine own_st (fun zw zk => XS.iand X255.here hx rfl (hb hby d8_59) rfl zk) ?_
  obtain ⟨T256, h256, X256, e256, W256, st256⟩ := putF X255 hx hZ hown (host := "") (Or.inl (hw _ (List.mem_of_getElem? (i := 32) rfl))) Via.refl e255 F2_253 F0_253 (Or.inl (hw _ (List.mem_of_getElem? (i := 33) rfl))) (hw _ (List.mem_of_getElem? (i := 3) rfl)) (ty := .int) (by decide) rfl rfl (g := (mkF m 60 #[.val (.ref d), .val (.long q1), .second] [(.int (1 : Int32)), (.ref d)])) rfl rfl (hb hby d8_60)
  have F2_256 := F2_253.same W256
  have N256 := Fr.snoc X256 N253 ge_d
  refine own_st (fun zw zk => st256 zw zk) ?_
  have F0_256 := F0_253.wr W256
  have F1_256 := F1_253.other W256 (Or.inr (slot_ne (Or.inl (hw _ (List.mem_of_getElem? (i := 18) rfl))) (Or.inl (hw _ (List.mem_of_getElem? (i := 33) rfl))) (by decide) (t := (.array .long)) (t' := .int) (by decide) (by decide)))
  have F5_256 := F5_253.other W256 (Ne.symm ne_d_t)
  have F3_256 := F3_253.other W256 (Or.inr (slot_ne (Or.inl (hw _ (List.mem_of_getElem? (i := 27) rfl))) (Or.inl (hw _ (List.mem_of_getElem? (i := 33) rfl))) (by decide) (t := .int) (t' := .int) (by decide) (by decide)))
  have F4_256 := F4_253.other W256 (Or.inr (slot_ne (Or.inl (hw _ (List.mem_of_getElem? (i := 25) rfl))) (Or.inl (hw _ (List.mem_of_getElem? (i := 33) rfl))) (by decide) (t := .long) (t' := .int) (by decide) (by decide)))
  have Z256 : n0 ≤ h256.size := Nat.le_trans Z253 (Keep.of_wr W256).1
  have Kp256 := Kp253.wr W256 (Or.inl (List.mem_of_getElem? (i := 0) rfl))
  refine own_st (fun zw zk => XS.aloadN X256.here hx rfl (hb hby d8_63) rfl rfl zk) ?_
  show own_Go p e below G (T256.setTop (mkF m 64 #[.val (.ref d), .val (.long q1), .second] [(.ref d)]))
  refine own_st (fun zw zk => XS.dup X256.here hx rfl (hb hby d8_64) rfl rfl zk) ?_
  obtain ⟨T257, X257, e257, st257⟩ := getF X256 hx hZ hown (host := "") (Or.inl (hw _ (List.mem_of_getElem? (i := 26) rfl))) Via.refl e256 F3_256 (g := (mkF m 65 #[.val (.ref d), .val (.long q1), .second] [(.ref d), (.ref d)])) rfl rfl (hb hby d8_65)
  refine own_st (fun zw zk => st257 zw zk) ?_
  refine own_st (fun zw zk => XS.iconst X257.here hx rfl (hb hby d8_68) zk) ?_
  refine own_st (fun zw zk => XS.isub X257.here hx rfl (hb hby d8_69) rfl zk) ?_
  obtain ⟨T258, h258, X258, e258, W258, st258⟩ := putF X257 hx hZ hown (host := "") (Or.inl (hw _ (List.mem_of_getElem? (i := 26) rfl))) Via.refl e257 F3_256 F0_256 (Or.inl (hw _ (List.mem_of_getElem? (i := 27) rfl))) (hw _ (List.mem_of_getElem? (i := 3) rfl)) (ty := .int) (by decide) rfl rfl (g := (mkF m 70 #[.val (.ref d), .val (.long q1), .second] [(.int (0 : Int32)), (.ref d)])) rfl rfl (hb hby d8_70)
  have F3_258 := F3_256.same W258
  have N258 := Fr.snoc X258 N256 ge_d
  refine own_st (fun zw zk => st258 zw zk) ?_
  have F0_258 := F0_256.wr W258
  have F1_258 := F1_256.other W258 (Or.inr (slot_ne (Or.inl (hw _ (List.mem_of_getElem? (i := 18) rfl))) (Or.inl (hw _ (List.mem_of_getElem? (i := 27) rfl))) (by decide) (t := (.array .long)) (t' := .int) (by decide) (by decide)))
  have F5_258 := F5_256.other W258 (Ne.symm ne_d_t)
  have F4_258 := F4_256.other W258 (Or.inr (slot_ne (Or.inl (hw _ (List.mem_of_getElem? (i := 25) rfl))) (Or.inl (hw _ (List.mem_of_getElem? (i := 27) rfl))) (by decide) (t := .long) (t' := .int) (by decide) (by decide)))
  have F2_258 := F2_256.other W258 (Or.inr (slot_ne (Or.inl (hw _ (List.mem_of_getElem? (i := 33) rfl))) (Or.inl (hw _ (List.mem_of_getElem? (i := 27) rfl))) (by decide) (t := .int) (t' := .int) (by decide) (by decide)))
  have Z258 : n0 ≤ h258.size := Nat.le_trans Z256 (Keep.of_wr W258).1
  have Kp258 := Kp256.wr W258 (Or.inl (List.mem_of_getElem? (i := 0) rfl))
  refine own_st (fun zw zk => XS.goto X258.here hx rfl (pc0 := 73) (pc' := 0) rfl (hb hby d8_73) (by decide) (by decide) zk) ?_
  show own_Go p e below G (T258.setTop (mkF m 0 #[.val (.ref d), .val (.long q1), .second] []))
  refine own_st (fun zw zk => XS.aloadN X258.here hx rfl (hb hby d8_0) rfl rfl zk) ?_
  obtain ⟨T259, X259, e259, st259⟩ := getF X258 hx hZ hown (host := "") (Or.inl (hw _ (List.mem_of_getElem? (i := 26) rfl))) Via.refl e258 F3_258 (g := (mkF m 1 #[.val (.ref d), .val (.long q1), .second] [(.ref d)])) rfl rfl (hb hby d8_1)
  refine own_st (fun zw zk => st259 zw zk) ?_
  refine own_st (fun zw zk => XS.ifYes X259.here hx rfl (pc0 := 4) (pc' := 76) rfl (hb hby d8_4) rfl ((if0 _ _).trans (flt (by decide : ¬ ((0 : Int32) < (0 : Int32)))).2.2.2) (by decide) (by decide) zk) ?_
  subst hG
  obtain ⟨fs, hr, hrun, hended, hW, hsame⟩ := X259.leave (v := none) (hlocks := Bd.notSynchronized) (fun _ => rfl)
  refine ⟨_, X259.returnOut hx Bd.returns (hb hby d8_76) hr, _, hrun, hended, _, _, rfl, ?_, ⟨_, rfl⟩, hW, hsame.mono (by decide) (by decide)⟩
  show Q_forgetUpTo_1_4_8_4 Z d q1 t adm w0 w1 w2 w3 w4 w5 w6 w7 h0 n0 _ T259.heap _
  rw [e259]
  exact ⟨rfl, N258, Kp258, F0_258, F1_258, F2_258, F3_258, F4_258⟩
theorem ef_rm_latest_1_4_8 (m : MethodId) (d : Addr) : entryFrame m #[(.ref d)] 1 = mkF m 0 #[.val (.ref d)] [] := by first | (simp [entryFrame, mkF, argsToLocals, Value.category]; done) | rfl
def Q_latest_1_4_8 (Z : State) (d : Addr) (t : Addr) (adm : Int64) (w0 : Int64) (w1 : Int64) (w2 : Int64) (w3 : Int64) (w4 : Int64) (w5 : Int64) (w6 : Int64) (w7 : Int64) (h0 : Heap) (n0 : Nat) (rv : Option Value) (hq : Heap) (Lq : List Loc) : Prop := rv = some (.long w0) ∧ Fr n0 Lq ∧ hq = h0
set_option maxRecDepth 65536 in
set_option maxHeartbeats 40000000 in
theorem rm_latest_1_4_8 (l : Launch) (Z : State) (a0 : Array Value) (hw : ∀ d ∈ tables_1, d.before a0 Z = true) (ws : List Jvm.Cond) (d : Addr) (t : Addr) (adm : Int64) (w0 : Int64) (w1 : Int64) (w2 : Int64) (w3 : Int64) (w4 : Int64) (w5 : Int64) (w6 : Int64) (w7 : Int64) (h0 : Heap) (n0 : Nat) (Z0 : n0 ≤ h0.size) (F0_ : Exa Z h0 d "com/example/headroom/headroom/SlidingLog$Log") (F1_ : Fld Z h0 d "com/example/headroom/headroom/SlidingLog$Log" "entries" "[J" (.ref t)) (F2_ : Fld Z h0 d "com/example/headroom/headroom/SlidingLog$Log" "first" "I" (.int (1 : Int32))) (F3_ : Fld Z h0 d "com/example/headroom/headroom/SlidingLog$Log" "size" "I" (.int (4 : Int32))) (F4_ : Fld Z h0 d "com/example/headroom/headroom/SlidingLog$Log" "admitted" "J" (.long adm)) (F5_ : own_L Z h0 t .long ([(.long w0), (.long w1), (.long w2), (.long w3), (.long w4), (.long w5), (.long w6), (.long w7)])) :
    MetFree l (⟨"com/example/headroom/headroom/SlidingLog$Log", "latest", "()J"⟩ : MethodName) (head1 (Jvm.Cond.code (⟨"com/example/headroom/headroom/SlidingLog$Log", "latest", "()J"⟩ : MethodName) prog_48_method_3_code 1 (some .long) :: ws) ({ frames := 1, cells := 0, slots := 0, locals := 14 } : Room)) (fun za U => za = #[(.ref d)] ∧ Z.Warmed39 U.vm ∧ U.heap = h0) (fun _ _ _ _ _ => True) (fun _ U o U' => ∃ rv Lq, o = .returned rv ∧ Q_latest_1_4_8 Z d t adm w0 w1 w2 w3 w4 w5 w6 w7 h0 n0 rv U'.heap Lq ∧ FrameEnd U o U' Lq ({ frames := 1, cells := 0, slots := 0, locals := 14 } : Room).cells ({ frames := 1, cells := 0, slots := 0, locals := 14 } : Room).slots) := by
  refine MetFree.of_bodySF (plainFor_of_name pn_1) hisR ?_
  intro p e s m args below meth c s₁ Bd hml0 hP hK
  obtain ⟨rfl, hZ, hh⟩ := hP
  have hx := Bd.exec
  have hby := Bd.bytes
  have hml : c.maxLocals = 1 := hml0
  have hown : s.vm.findClass "com/example/headroom/headroom/SlidingLog$Log" = some m.cls := findClass_of_methodNamed Bd.named
  have hnm := (name_of_methodNamed Bd.named Bd.method).1
  have X0 : Stand p l e ({ frames := 1, cells := 0, slots := 0, locals := 14 } : Room) s m #[(.ref d)] below meth c s₁ [] 0 0 := Stand.of_body Bd
  have e0 : s₁.heap = h0 := by rw [← hh, Bd.state]; rfl
  have N0 := Fr.nil n0
  refine own_out (own_nm fun G hG => own_st (fun zt zk => castTop (ef_rm_latest_1_4_8 m d) zk) ?_)
  show own_Go p e below G (s₁.setTop (mkF m 0 #[.val (.ref d)] []))
  refine own_st (fun zw zk => XS.aloadN X0.here hx rfl (hb hby d6_0) rfl rfl zk) ?_
  obtain ⟨T260, X260, e260, st260⟩ := getF X0 hx hZ hown (host := "") (Or.inl (hw _ (List.mem_of_getElem? (i := 17) rfl))) Via.refl e0 F1_ (g := (mkF m 1 #[.val (.ref d)] [(.ref d)])) rfl rfl (hb hby d6_1)
  refine own_st (fun zw zk => st260 zw zk) ?_
  refine own_st (fun zw zk => XS.aloadN X260.here hx rfl (hb hby d6_4) rfl rfl zk) ?_
  refine own_st (fun zw zk => XS.aloadN X260.here hx rfl (hb hby d6_5) rfl rfl zk) ?_
  obtain ⟨T261, X261, e261, st261⟩ := getF X260 hx hZ hown (host := "") (Or.inl (hw _ (List.mem_of_getElem? (i := 26) rfl))) Via.refl e260 F3_ (g := (mkF m 6 #[.val (.ref d)] [(.ref d), (.ref d), (.ref t)])) rfl rfl (hb hby d6_6)
  refine own_st (fun zw zk => st261 zw zk) ?_
  refine own_st (fun zw zk => XS.iconst X261.here hx rfl (hb hby d6_9) zk) ?_
  refine own_st (fun zw zk => XS.isub X261.here hx rfl (hb hby d6_10) rfl zk) ?_
  obtain ⟨cq262, q262, q262'⟩ := F0_.cell
  obtain ⟨_, _, ⟨T262, L262, k262, n262⟩, -, X262, ⟨Lc262, hQ262, l262, y262, z262⟩, st262⟩ := X261.privateBack hx (y := (⟨"com/example/headroom/headroom/SlidingLog$Log", "slot", "(I)I"⟩ : MethodName)) hown (mvT hZ (hw _ (List.mem_of_getElem? (i := 28) rfl))) (mvT hZ (hw _ (List.mem_of_getElem? (i := 29) rfl))) (own_selp hZ (hw _ (List.mem_of_getElem? (i := 3) rfl)) (hw _ (List.mem_of_getElem? (i := 30) rfl)) (hw _ (List.mem_of_getElem? (i := 29) rfl)) (by decide)) (Cond.privateMethod_at (mvP hZ (hw _ (List.mem_of_getElem? (i := 30) rfl)) (args := #[]))) (mvT hZ (hw _ (List.mem_of_getElem? (i := 31) rfl))) (by decide) (backOf (W := 1) (rm5 l Z a0 hw [] d (3 : Int32) t (1 : Int32) (8 : Int32) [(.long w0), (.long w1), (.long w2), (.long w3), (.long w4), (.long w5), (.long w6), (.long w7)] h0 n0 Z0 (F1_) (F2_) (F5_) (rfl)) hZ (hw _ (List.mem_of_getElem? (i := 31) rfl)) (hw _ (List.mem_of_getElem? (i := 4) rfl)) (by decide) (by decide)) (g := (mkF m 11 #[.val (.ref d)] [(.int (3 : Int32)), (.ref d), (.ref t)])) rfl (by rw [hml]; rfl) (Steps.refl _) (a := d) (by rw [e261]; exact q262) q262' (argsL := [(.int (3 : Int32))]) (rest := [(.ref t)]) (lenOf pd_1 rfl) rfl (by show 2 * 0 + _ ≤ _; exact Nat.le_of_eq rfl) (hb hby d6_11) (fun _ _ => ⟨rfl, e261, (by decide : 0 + 0 ≤ _), (by decide : 0 + 0 ≤ _)⟩)
  dsimp only [Pt.U, Pt.locs, Pt.cells, Pt.slots] at X262 l262 y262 z262 st262 hQ262
  subst l262 y262 z262
  obtain ⟨rfl, N262q, e262⟩ := hQ262
  have N262 := Fr.app N0 N262q
  refine own_jp st262 ?_
  show own_Go p e below G (T262.setTop (mkF m 14 #[.val (.ref d)] [(.int (0 : Int32)), (.ref t)]))
  refine own_st (fun zw zk => own_jld X262 hx hZ e262 F5_ (j := (0 : Int32)) (v := (.long w0)) (i := 0) (by decide) (by decide) rfl (g := (mkF m 14 #[.val (.ref d)] [(.int (0 : Int32)), (.ref t)])) rfl rfl (hb hby d6_14) _ zk) ?_
  subst hG
  obtain ⟨fs, hr, hrun, hended, hW, hsame⟩ := X262.leave (v := some (.long w0)) (hlocks := Bd.notSynchronized) (fun h => by rw [Bd.returns] at h; cases h)
  refine ⟨_, own_retJ X262 hx Bd.returns (hb hby d6_15) hr, _, hrun, hended, _, _, rfl, ?_, ⟨_, rfl⟩, hW, hsame.mono (by decide) (by decide)⟩
  show Q_latest_1_4_8 Z d t adm w0 w1 w2 w3 w4 w5 w6 w7 h0 n0 _ T262.heap _
  rw [e262]
  exact ⟨rfl, N262, rfl⟩
theorem d9_0 : decode prog_48_method_5_code 0 = .ok (.iconst 0, 1) := by decide +kernel
theorem d9_1 : decode prog_48_method_5_code 1 = .ok (.istore_n 3, 1) := by decide +kernel
theorem d9_2 : decode prog_48_method_5_code 2 = .ok (.aload_n 0, 1) := by decide +kernel
theorem d9_3 : decode prog_48_method_5_code 3 = .ok (.getfield 7, 3) := by decide +kernel
theorem d9_6 : decode prog_48_method_5_code 6 = .ok (.aload_n 0, 1) := by decide +kernel
theorem d9_7 : decode prog_48_method_5_code 7 = .ok (.iconst 0, 1) := by decide +kernel
theorem d9_8 : decode prog_48_method_5_code 8 = .ok (.invokevirtual 20, 3) := by decide +kernel
theorem d9_11 : decode prog_48_method_5_code 11 = .ok (.iconst 1, 1) := by decide +kernel
theorem d9_12 : decode prog_48_method_5_code 12 = .ok (.iadd, 1) := by decide +kernel
theorem d9_13 : decode prog_48_method_5_code 13 = .ok (.laload, 1) := by decide +kernel
theorem d9_14 : decode prog_48_method_5_code 14 = .ok (.lstore 4, 2) := by decide +kernel
theorem d9_16 : decode prog_48_method_5_code 16 = .ok (.lload 4, 2) := by decide +kernel
theorem d9_18 : decode prog_48_method_5_code 18 = .ok (.lload_n 1, 1) := by decide +kernel
theorem d9_19 : decode prog_48_method_5_code 19 = .ok (.lcmp, 1) := by decide +kernel
theorem d9_20 : decode prog_48_method_5_code 20 = .ok (.ifCond .ge 26, 3) := by decide +kernel
theorem d9_46 : decode prog_48_method_5_code 46 = .ok (.aload_n 0, 1) := by decide +kernel
theorem d9_47 : decode prog_48_method_5_code 47 = .ok (.getfield 7, 3) := by decide +kernel
theorem d9_50 : decode prog_48_method_5_code 50 = .ok (.aload_n 0, 1) := by decide +kernel
theorem d9_51 : decode prog_48_method_5_code 51 = .ok (.iload_n 3, 1) := by decide +kernel
theorem d9_52 : decode prog_48_method_5_code 52 = .ok (.invokevirtual 20, 3) := by decide +kernel
theorem d9_55 : decode prog_48_method_5_code 55 = .ok (.laload, 1) := by decide +kernel
theorem d9_56 : decode prog_48_method_5_code 56 = .ok (.lreturn, 1) := by decide +kernel
theorem ef_rm_timeReaching_1_4_8 (m : MethodId) (d : Addr) (q1 : Int64) : entryFrame m #[(.ref d), (.long q1)] 6 = mkF m 0 #[.val (.ref d), .val (.long q1), .second, .unset, .unset, .unset] [] := by first | (simp [entryFrame, mkF, argsToLocals, Value.category]; done) | rfl
def Q_timeReaching_1_4_8 (Z : State) (d : Addr) (q1 : Int64) (t : Addr) (adm : Int64) (w0 : Int64) (w1 : Int64) (w2 : Int64) (w3 : Int64) (w4 : Int64) (w5 : Int64) (w6 : Int64) (w7 : Int64) (h0 : Heap) (n0 : Nat) (rv : Option Value) (hq : Heap) (Lq : List Loc) : Prop := rv = some (.long w2) ∧ Fr n0 Lq ∧ hq = h0
set_option maxRecDepth 65536 in
set_option maxHeartbeats 40000000 in
theorem rm_timeReaching_1_4_8 (l : Launch) (Z : State) (a0 : Array Value) (hw : ∀ d ∈ tables_1, d.before a0 Z = true) (ws : List Jvm.Cond) (d : Addr) (q1 : Int64) (t : Addr) (adm : Int64) (w0 : Int64) (w1 : Int64) (w2 : Int64) (w3 : Int64) (w4 : Int64) (w5 : Int64) (w6 : Int64) (w7 : Int64) (h0 : Heap) (n0 : Nat) (Z0 : n0 ≤ h0.size) (F0_ : Exa Z h0 d "com/example/headroom/headroom/SlidingLog$Log") (F1_ : Fld Z h0 d "com/example/headroom/headroom/SlidingLog$Log" "entries" "[J" (.ref t)) (F2_ : Fld Z h0 d "com/example/headroom/headroom/SlidingLog$Log" "first" "I" (.int (1 : Int32))) (F3_ : Fld Z h0 d "com/example/headroom/headroom/SlidingLog$Log" "size" "I" (.int (4 : Int32))) (F4_ : Fld Z h0 d "com/example/headroom/headroom/SlidingLog$Log" "admitted" "J" (.long adm)) (F5_ : own_L Z h0 t .long ([(.long w0), (.long w1), (.long w2), (.long w3), (.long w4), (.long w5), (.long w6), (.long w7)])) (hge : ¬ (w3 < q1)) :
    MetFree l (⟨"com/example/headroom/headroom/SlidingLog$Log", "timeReaching", "(J)J"⟩ : MethodName) (head1 (Jvm.Cond.code (⟨"com/example/headroom/headroom/SlidingLog$Log", "timeReaching", "(J)J"⟩ : MethodName) prog_48_method_5_code 6 (some .long) :: ws) ({ frames := 1, cells := 0, slots := 0, locals := 14 } : Room)) (fun za U => za = #[(.ref d), (.long q1)] ∧ Z.Warmed39 U.vm ∧ U.heap = h0) (fun _ _ _ _ _ => True) (fun _ U o U' => ∃ rv Lq, o = .returned rv ∧ Q_timeReaching_1_4_8 Z d q1 t adm w0 w1 w2 w3 w4 w5 w6 w7 h0 n0 rv U'.heap Lq ∧ FrameEnd U o U' Lq ({ frames := 1, cells := 0, slots := 0, locals := 14 } : Room).cells ({ frames := 1, cells := 0, slots := 0, locals := 14 } : Room).slots) := by
  refine MetFree.of_bodySF (plainFor_of_name pn_1) hisR ?_
  intro p e s m args below meth c s₁ Bd hml0 hP hK
  obtain ⟨rfl, hZ, hh⟩ := hP
  have hx := Bd.exec
  have hby := Bd.bytes
  have hml : c.maxLocals = 6 := hml0
  have hown : s.vm.findClass "com/example/headroom/headroom/SlidingLog$Log" = some m.cls := findClass_of_methodNamed Bd.named
  have hnm := (name_of_methodNamed Bd.named Bd.method).1
  have X0 : Stand p l e ({ frames := 1, cells := 0, slots := 0, locals := 14 } : Room) s m #[(.ref d), (.long q1)] below meth c s₁ [] 0 0 := Stand.of_body Bd
  have e0 : s₁.heap = h0 := by rw [← hh, Bd.state]; rfl
  have N0 := Fr.nil n0
  refine own_out (own_nm fun G hG => own_st (fun zt zk => castTop (ef_rm_timeReaching_1_4_8 m d q1) zk) ?_)
  show own_Go p e below G (s₁.setTop (mkF m 0 #[.val (.ref d), .val (.long q1), .second, .unset, .unset, .unset] []))
  refine own_st (fun zw zk => XS.iconst X0.here hx rfl (hb hby d9_0) zk) ?_
  refine own_st (fun zw zk => XS.istoreN X0.here hx rfl (hb hby d9_1) rfl rfl zk) ?_
  show own_Go p e below G (s₁.setTop (mkF m 2 #[.val (.ref d), .val (.long q1), .second, .val (.int (0 : Int32)), .unset, .unset] []))
  refine own_st (fun zw zk => XS.aloadN X0.here hx rfl (hb hby d9_2) rfl rfl zk) ?_
  obtain ⟨T263, X263, e263, st263⟩ := getF X0 hx hZ hown (host := "") (Or.inl (hw _ (List.mem_of_getElem? (i := 17) rfl))) Via.refl e0 F1_ (g := (mkF m 3 #[.val (.ref d), .val (.long q1), .second, .val (.int (0 : Int32)), .unset, .unset] [(.ref d)])) rfl rfl (hb hby d9_3)
  refine own_st (fun zw zk => st263 zw zk) ?_
  refine own_st (fun zw zk => XS.aloadN X263.here hx rfl (hb hby d9_6) rfl rfl zk) ?_
  refine own_st (fun zw zk => XS.iconst X263.here hx rfl (hb hby d9_7) zk) ?_
  obtain ⟨cq264, q264, q264'⟩ := F0_.cell
  obtain ⟨_, _, ⟨T264, L264, k264, n264⟩, -, X264, ⟨Lc264, hQ264, l264, y264, z264⟩, st264⟩ := X263.privateBack hx (y := (⟨"com/example/headroom/headroom/SlidingLog$Log", "slot", "(I)I"⟩ : MethodName)) hown (mvT hZ (hw _ (List.mem_of_getElem? (i := 28) rfl))) (mvT hZ (hw _ (List.mem_of_getElem? (i := 29) rfl))) (own_selp hZ (hw _ (List.mem_of_getElem? (i := 3) rfl)) (hw _ (List.mem_of_getElem? (i := 30) rfl)) (hw _ (List.mem_of_getElem? (i := 29) rfl)) (by decide)) (Cond.privateMethod_at (mvP hZ (hw _ (List.mem_of_getElem? (i := 30) rfl)) (args := #[]))) (mvT hZ (hw _ (List.mem_of_getElem? (i := 31) rfl))) (by decide) (backOf (W := 1) (rm5 l Z a0 hw [] d (0 : Int32) t (1 : Int32) (8 : Int32) [(.long w0), (.long w1), (.long w2), (.long w3), (.long w4), (.long w5), (.long w6), (.long w7)] h0 n0 Z0 (F1_) (F2_) (F5_) (rfl)) hZ (hw _ (List.mem_of_getElem? (i := 31) rfl)) (hw _ (List.mem_of_getElem? (i := 4) rfl)) (by decide) (by decide)) (g := (mkF m 8 #[.val (.ref d), .val (.long q1), .second, .val (.int (0 : Int32)), .unset, .unset] [(.int (0 : Int32)), (.ref d), (.ref t)])) rfl (by rw [hml]; rfl) (Steps.refl _) (a := d) (by rw [e263]; exact q264) q264' (argsL := [(.int (0 : Int32))]) (rest := [(.ref t)]) (lenOf pd_1 rfl) rfl (by show 2 * 0 + _ ≤ _; exact Nat.le_of_eq rfl) (hb hby d9_8) (fun _ _ => ⟨rfl, e263, (by decide : 0 + 0 ≤ _), (by decide : 0 + 0 ≤ _)⟩)
  dsimp only [Pt.U, Pt.locs, Pt.cells, Pt.slots] at X264 l264 y264 z264 st264 hQ264
  subst l264 y264 z264
  obtain ⟨rfl, N264q, e264⟩ := hQ264
  have N264 := Fr.app N0 N264q
  refine own_jp st264 ?_
  refine own_st (fun zw zk => XS.iconst X264.here hx rfl (hb hby d9_11) zk) ?_
  refine own_st (fun zw zk => XS.iadd X264.here hx rfl (hb hby d9_12) rfl zk) ?_
  refine own_st (fun zw zk => own_jld X264 hx hZ e264 F5_ (j := (3 : Int32)) (v := (.long w3)) (i := 3) (by decide) (by decide) rfl (g := (mkF m 13 #[.val (.ref d), .val (.long q1), .second, .val (.int (0 : Int32)), .unset, .unset] [(.int (3 : Int32)), (.ref t)])) rfl rfl (hb hby d9_13) _ zk) ?_
  show own_Go p e below G (T264.setTop (mkF m 14 #[.val (.ref d), .val (.long q1), .second, .val (.int (0 : Int32)), .unset, .unset] [(.long w3)]))
  refine own_st (fun zw zk => XS.lstore X264.here hx rfl (hb hby d9_14) rfl rfl zk) ?_
  show own_Go p e below G (T264.setTop (mkF m 16 #[.val (.ref d), .val (.long q1), .second, .val (.int (0 : Int32)), .val (.long w3), .second] []))
  refine own_st (fun zw zk => XS.lload X264.here hx rfl (hb hby d9_16) rfl zk) ?_
  refine own_st (fun zw zk => XS.lloadN X264.here hx rfl (hb hby d9_18) rfl zk) ?_
  refine own_st (fun zw zk => XS.lcmp X264.here hx rfl (hb hby d9_19) rfl zk) ?_
  have hc20 : ¬ (w3 < q1) := hge
  refine own_st (fun zw zk => XS.ifYes X264.here hx rfl (pc0 := 20) (pc' := 46) rfl (hb hby d9_20) rfl ((if0 _ _).trans (flt (own_fll hc20)).2.1) (by decide) (by decide) zk) ?_
  refine own_st (fun zw zk => XS.aloadN X264.here hx rfl (hb hby d9_46) rfl rfl zk) ?_
  obtain ⟨T265, X265, e265, st265⟩ := getF X264 hx hZ hown (host := "") (Or.inl (hw _ (List.mem_of_getElem? (i := 17) rfl))) Via.refl e264 F1_ (g := (mkF m 47 #[.val (.ref d), .val (.long q1), .second, .val (.int (0 : Int32)), .val (.long w3), .second] [(.ref d)])) rfl rfl (hb hby d9_47)
  refine own_st (fun zw zk => st265 zw zk) ?_
  refine own_st (fun zw zk => XS.aloadN X265.here hx rfl (hb hby d9_50) rfl rfl zk) ?_
  refine own_st (fun zw zk => XS.iloadN X265.here hx rfl (hb hby d9_51) rfl zk) ?_
  show own_Go p e below G (T265.setTop (mkF m 52 #[.val (.ref d), .val (.long q1), .second, .val (.int (0 : Int32)), .val (.long w3), .second] [(.int (0 : Int32)), (.ref d), (.ref t)]))
  obtain ⟨cq266, q266, q266'⟩ := F0_.cell
  obtain ⟨_, _, ⟨T266, L266, k266, n266⟩, -, X266, ⟨Lc266, hQ266, l266, y266, z266⟩, st266⟩ := X265.privateBack hx (y := (⟨"com/example/headroom/headroom/SlidingLog$Log", "slot", "(I)I"⟩ : MethodName)) hown (mvT hZ (hw _ (List.mem_of_getElem? (i := 28) rfl))) (mvT hZ (hw _ (List.mem_of_getElem? (i := 29) rfl))) (own_selp hZ (hw _ (List.mem_of_getElem? (i := 3) rfl)) (hw _ (List.mem_of_getElem? (i := 30) rfl)) (hw _ (List.mem_of_getElem? (i := 29) rfl)) (by decide)) (Cond.privateMethod_at (mvP hZ (hw _ (List.mem_of_getElem? (i := 30) rfl)) (args := #[]))) (mvT hZ (hw _ (List.mem_of_getElem? (i := 31) rfl))) (by decide) (backOf (W := 1) (rm5 l Z a0 hw [] d (0 : Int32) t (1 : Int32) (8 : Int32) [(.long w0), (.long w1), (.long w2), (.long w3), (.long w4), (.long w5), (.long w6), (.long w7)] h0 n0 Z0 (F1_) (F2_) (F5_) (rfl)) hZ (hw _ (List.mem_of_getElem? (i := 31) rfl)) (hw _ (List.mem_of_getElem? (i := 4) rfl)) (by decide) (by decide)) (g := (mkF m 52 #[.val (.ref d), .val (.long q1), .second, .val (.int (0 : Int32)), .val (.long w3), .second] [(.int (0 : Int32)), (.ref d), (.ref t)])) rfl (by rw [hml]; rfl) (Steps.refl _) (a := d) (by rw [e265]; exact q266) q266' (argsL := [(.int (0 : Int32))]) (rest := [(.ref t)]) (lenOf pd_1 rfl) rfl (by show 2 * 0 + _ ≤ _; exact Nat.le_of_eq rfl) (hb hby d9_52) (fun _ _ => ⟨rfl, e265, (by decide : 0 + 0 ≤ _), (by decide : 0 + 0 ≤ _)⟩)
  dsimp only [Pt.U, Pt.locs, Pt.cells, Pt.slots] at X266 l266 y266 z266 st266 hQ266
  subst l266 y266 z266
  obtain ⟨rfl, N266q, e266⟩ := hQ266
  have N266 := Fr.app N264 N266q
  refine own_jp st266 ?_
  refine own_st (fun zw zk => own_jld X266 hx hZ e266 F5_ (j := (2 : Int32)) (v := (.long w2)) (i := 2) (by decide) (by decide) rfl (g := (mkF m 55 #[.val (.ref d), .val (.long q1), .second, .val (.int (0 : Int32)), .val (.long w3), .second] [(.int (2 : Int32)), (.ref t)])) rfl rfl (hb hby d9_55) _ zk) ?_
  subst hG
  obtain ⟨fs, hr, hrun, hended, hW, hsame⟩ := X266.leave (v := some (.long w2)) (hlocks := Bd.notSynchronized) (fun h => by rw [Bd.returns] at h; cases h)
  refine ⟨_, own_retJ X266 hx Bd.returns (hb hby d9_56) hr, _, hrun, hended, _, _, rfl, ?_, ⟨_, rfl⟩, hW, hsame.mono (by decide) (by decide)⟩
  show Q_timeReaching_1_4_8 Z d q1 t adm w0 w1 w2 w3 w4 w5 w6 w7 h0 n0 _ T266.heap _
  rw [e266]
  exact ⟨rfl, N266, rfl⟩
theorem ef_rm_latest_2_3_8 (m : MethodId) (d : Addr) : entryFrame m #[(.ref d)] 1 = mkF m 0 #[.val (.ref d)] [] := by first | (simp [entryFrame, mkF, argsToLocals, Value.category]; done) | rfl
def Q_latest_2_3_8 (Z : State) (d : Addr) (t : Addr) (adm : Int64) (w0 : Int64) (w1 : Int64) (w2 : Int64) (w3 : Int64) (w4 : Int64) (w5 : Int64) (w6 : Int64) (w7 : Int64) (h0 : Heap) (n0 : Nat) (rv : Option Value) (hq : Heap) (Lq : List Loc) : Prop := rv = some (.long w0) ∧ Fr n0 Lq ∧ hq = h0
set_option maxRecDepth 65536 in
set_option maxHeartbeats 40000000 in
theorem rm_latest_2_3_8 (l : Launch) (Z : State) (a0 : Array Value) (hw : ∀ d ∈ tables_1, d.before a0 Z = true) (ws : List Jvm.Cond) (d : Addr) (t : Addr) (adm : Int64) (w0 : Int64) (w1 : Int64) (w2 : Int64) (w3 : Int64) (w4 : Int64) (w5 : Int64) (w6 : Int64) (w7 : Int64) (h0 : Heap) (n0 : Nat) (Z0 : n0 ≤ h0.size) (F0_ : Exa Z h0 d "com/example/headroom/headroom/SlidingLog$Log") (F1_ : Fld Z h0 d "com/example/headroom/headroom/SlidingLog$Log" "entries" "[J" (.ref t)) (F2_ : Fld Z h0 d "com/example/headroom/headroom/SlidingLog$Log" "first" "I" (.int (2 : Int32))) (F3_ : Fld Z h0 d "com/example/headroom/headroom/SlidingLog$Log" "size" "I" (.int (3 : Int32))) (F4_ : Fld Z h0 d "com/example/headroom/headroom/SlidingLog$Log" "admitted" "J" (.long adm)) (F5_ : own_L Z h0 t .long ([(.long w0), (.long w1), (.long w2), (.long w3), (.long w4), (.long w5), (.long w6), (.long w7)])) :
    MetFree l (⟨"com/example/headroom/headroom/SlidingLog$Log", "latest", "()J"⟩ : MethodName) (head1 (Jvm.Cond.code (⟨"com/example/headroom/headroom/SlidingLog$Log", "latest", "()J"⟩ : MethodName) prog_48_method_3_code 1 (some .long) :: ws) ({ frames := 1, cells := 0, slots := 0, locals := 14 } : Room)) (fun za U => za = #[(.ref d)] ∧ Z.Warmed39 U.vm ∧ U.heap = h0) (fun _ _ _ _ _ => True) (fun _ U o U' => ∃ rv Lq, o = .returned rv ∧ Q_latest_2_3_8 Z d t adm w0 w1 w2 w3 w4 w5 w6 w7 h0 n0 rv U'.heap Lq ∧ FrameEnd U o U' Lq ({ frames := 1, cells := 0, slots := 0, locals := 14 } : Room).cells ({ frames := 1, cells := 0, slots := 0, locals := 14 } : Room).slots) := by
  refine MetFree.of_bodySF (plainFor_of_name pn_1) hisR ?_
  intro p e s m args below meth c s₁ Bd hml0 hP hK
  obtain ⟨rfl, hZ, hh⟩ := hP
  have hx := Bd.exec
  have hby := Bd.bytes
  have hml : c.maxLocals = 1 := hml0
  have hown : s.vm.findClass "com/example/headroom/headroom/SlidingLog$Log" = some m.cls := findClass_of_methodNamed Bd.named
  have hnm := (name_of_methodNamed Bd.named Bd.method).1
  have X0 : Stand p l e ({ frames := 1, cells := 0, slots := 0, locals := 14 } : Room) s m #[(.ref d)] below meth c s₁ [] 0 0 := Stand.of_body Bd
  have e0 : s₁.heap = h0 := by rw [← hh, Bd.state]; rfl
  have N0 := Fr.nil n0
  refine own_out (own_nm fun G hG => own_st (fun zt zk => castTop (ef_rm_latest_2_3_8 m d) zk) ?_)
  show own_Go p e below G (s₁.setTop (mkF m 0 #[.val (.ref d)] []))
  refine own_st (fun zw zk => XS.aloadN X0.here hx rfl (hb hby d6_0) rfl rfl zk) ?_
  obtain ⟨T267, X267, e267, st267⟩ := getF X0 hx hZ hown (host := "") (Or.inl (hw _ (List.mem_of_getElem? (i := 17) rfl))) Via.refl e0 F1_ (g := (mkF m 1 #[.val (.ref d)] [(.ref d)])) rfl rfl (hb hby d6_1)
  refine own_st (fun zw zk => st267 zw zk) ?_
  refine own_st (fun zw zk => XS.aloadN X267.here hx rfl (hb hby d6_4) rfl rfl zk) ?_
  refine own_st (fun zw zk => XS.aloadN X267.here hx rfl (hb hby d6_5) rfl rfl zk) ?_
  obtain ⟨T268, X268, e268, st268⟩ := getF X267 hx hZ hown (host := "") (Or.inl (hw _ (List.mem_of_getElem? (i := 26) rfl))) Via.refl e267 F3_ (g := (mkF m 6 #[.val (.ref d)] [(.ref d), (.ref d), (.ref t)])) rfl rfl (hb hby d6_6)
  refine own_st (fun zw zk => st268 zw zk) ?_
  refine own_st (fun zw zk => XS.iconst X268.here hx rfl (hb hby d6_9) zk) ?_
  refine own_st (fun zw zk => XS.isub X268.here hx rfl (hb hby d6_10) rfl zk) ?_
  obtain ⟨cq269, q269, q269'⟩ := F0_.cell
  obtain ⟨_, _, ⟨T269, L269, k269, n269⟩, -, X269, ⟨Lc269, hQ269, l269, y269, z269⟩, st269⟩ := X268.privateBack hx (y := (⟨"com/example/headroom/headroom/SlidingLog$Log", "slot", "(I)I"⟩ : MethodName)) hown (mvT hZ (hw _ (List.mem_of_getElem? (i := 28) rfl))) (mvT hZ (hw _ (List.mem_of_getElem? (i := 29) rfl))) (own_selp hZ (hw _ (List.mem_of_getElem? (i := 3) rfl)) (hw _ (List.mem_of_getElem? (i := 30) rfl)) (hw _ (List.mem_of_getElem? (i := 29) rfl)) (by decide)) (Cond.privateMethod_at (mvP hZ (hw _ (List.mem_of_getElem? (i := 30) rfl)) (args := #[]))) (mvT hZ (hw _ (List.mem_of_getElem? (i := 31) rfl))) (by decide) (backOf (W := 1) (rm5 l Z a0 hw [] d (2 : Int32) t (2 : Int32) (8 : Int32) [(.long w0), (.long w1), (.long w2), (.long w3), (.long w4), (.long w5), (.long w6), (.long w7)] h0 n0 Z0 (F1_) (F2_) (F5_) (rfl)) hZ (hw _ (List.mem_of_getElem? (i := 31) rfl)) (hw _ (List.mem_of_getElem? (i := 4) rfl)) (by decide) (by decide)) (g := (mkF m 11 #[.val (.ref d)] [(.int (2 : Int32)), (.ref d), (.ref t)])) rfl (by rw [hml]; rfl) (Steps.refl _) (a := d) (by rw [e268]; exact q269) q269' (argsL := [(.int (2 : Int32))]) (rest := [(.ref t)]) (lenOf pd_1 rfl) rfl (by show 2 * 0 + _ ≤ _; exact Nat.le_of_eq rfl) (hb hby d6_11) (fun _ _ => ⟨rfl, e268, (by decide : 0 + 0 ≤ _), (by decide : 0 + 0 ≤ _)⟩)
  dsimp only [Pt.U, Pt.locs, Pt.cells, Pt.slots] at X269 l269 y269 z269 st269 hQ269
  subst l269 y269 z269
  obtain ⟨rfl, N269q, e269⟩ := hQ269
  have N269 := Fr.app N0 N269q
  refine own_jp st269 ?_
  show own_Go p e below G (T269.setTop (mkF m 14 #[.val (.ref d)] [(.int (0 : Int32)), (.ref t)]))
  refine own_st (fun zw zk => own_jld X269 hx hZ e269 F5_ (j := (0 : Int32)) (v := (.long w0)) (i := 0) (by decide) (by decide) rfl (g := (mkF m 14 #[.val (.ref d)] [(.int (0 : Int32)), (.ref t)])) rfl rfl (hb hby d6_14) _ zk) ?_
  subst hG
  obtain ⟨fs, hr, hrun, hended, hW, hsame⟩ := X269.leave (v := some (.long w0)) (hlocks := Bd.notSynchronized) (fun h => by rw [Bd.returns] at h; cases h)
  refine ⟨_, own_retJ X269 hx Bd.returns (hb hby d6_15) hr, _, hrun, hended, _, _, rfl, ?_, ⟨_, rfl⟩, hW, hsame.mono (by decide) (by decide)⟩
  show Q_latest_2_3_8 Z d t adm w0 w1 w2 w3 w4 w5 w6 w7 h0 n0 _ T269.heap _
  rw [e269]
  exact ⟨rfl, N269, rfl⟩
theorem ef_rm_timeReaching_2_3_8 (m : MethodId) (d : Addr) (q1 : Int64) : entryFrame m #[(.ref d), (.long q1)] 6 = mkF m 0 #[.val (.ref d), .val (.long q1), .second, .unset, .unset, .unset] [] := by first | (simp [entryFrame, mkF, argsToLocals, Value.category]; done) | rfl
def Q_timeReaching_2_3_8 (Z : State) (d : Addr) (q1 : Int64) (t : Addr) (adm : Int64) (w0 : Int64) (w1 : Int64) (w2 : Int64) (w3 : Int64) (w4 : Int64) (w5 : Int64) (w6 : Int64) (w7 : Int64) (h0 : Heap) (n0 : Nat) (rv : Option Value) (hq : Heap) (Lq : List Loc) : Prop := rv = some (.long w4) ∧ Fr n0 Lq ∧ hq = h0
set_option maxRecDepth 65536 in
set_option maxHeartbeats 40000000 in
theorem rm_timeReaching_2_3_8 (l : Launch) (Z : State) (a0 : Array Value) (hw : ∀ d ∈ tables_1, d.before a0 Z = true) (ws : List Jvm.Cond) (d : Addr) (q1 : Int64) (t : Addr) (adm : Int64) (w0 : Int64) (w1 : Int64) (w2 : Int64) (w3 : Int64) (w4 : Int64) (w5 : Int64) (w6 : Int64) (w7 : Int64) (h0 : Heap) (n0 : Nat) (Z0 : n0 ≤ h0.size) (F0_ : Exa Z h0 d "com/example/headroom/headroom/SlidingLog$Log") (F1_ : Fld Z h0 d "com/example/headroom/headroom/SlidingLog$Log" "entries" "[J" (.ref t)) (F2_ : Fld Z h0 d "com/example/headroom/headroom/SlidingLog$Log" "first" "I" (.int (2 : Int32))) (F3_ : Fld Z h0 d "com/example/headroom/headroom/SlidingLog$Log" "size" "I" (.int (3 : Int32))) (F4_ : Fld Z h0 d "com/example/headroom/headroom/SlidingLog$Log" "admitted" "J" (.long adm)) (F5_ : own_L Z h0 t .long ([(.long w0), (.long w1), (.long w2), (.long w3), (.long w4), (.long w5), (.long w6), (.long w7)])) (hge : ¬ (w5 < q1)) :
    MetFree l (⟨"com/example/headroom/headroom/SlidingLog$Log", "timeReaching", "(J)J"⟩ : MethodName) (head1 (Jvm.Cond.code (⟨"com/example/headroom/headroom/SlidingLog$Log", "timeReaching", "(J)J"⟩ : MethodName) prog_48_method_5_code 6 (some .long) :: ws) ({ frames := 1, cells := 0, slots := 0, locals := 14 } : Room)) (fun za U => za = #[(.ref d), (.long q1)] ∧ Z.Warmed39 U.vm ∧ U.heap = h0) (fun _ _ _ _ _ => True) (fun _ U o U' => ∃ rv Lq, o = .returned rv ∧ Q_timeReaching_2_3_8 Z d q1 t adm w0 w1 w2 w3 w4 w5 w6 w7 h0 n0 rv U'.heap Lq ∧ FrameEnd U o U' Lq ({ frames := 1, cells := 0, slots := 0, locals := 14 } : Room).cells ({ frames := 1, cells := 0, slots := 0, locals := 14 } : Room).slots) := by
  refine MetFree.of_bodySF (plainFor_of_name pn_1) hisR ?_
  intro p e s m args below meth c s₁ Bd hml0 hP hK
  obtain ⟨rfl, hZ, hh⟩ := hP
  have hx := Bd.exec
  have hby := Bd.bytes
  have hml : c.maxLocals = 6 := hml0
  have hown : s.vm.findClass "com/example/headroom/headroom/SlidingLog$Log" = some m.cls := findClass_of_methodNamed Bd.named
  have hnm := (name_of_methodNamed Bd.named Bd.method).1
  have X0 : Stand p l e ({ frames := 1, cells := 0, slots := 0, locals := 14 } : Room) s m #[(.ref d), (.long q1)] below meth c s₁ [] 0 0 := Stand.of_body Bd
  have e0 : s₁.heap = h0 := by rw [← hh, Bd.state]; rfl
  have N0 := Fr.nil n0
  refine own_out (own_nm fun G hG => own_st (fun zt zk => castTop (ef_rm_timeReaching_2_3_8 m d q1) zk) ?_)
  show own_Go p e below G (s₁.setTop (mkF m 0 #[.val (.ref d), .val (.long q1), .second, .unset, .unset, .unset] []))
  refine own_st (fun zw zk => XS.iconst X0.here hx rfl (hb hby d9_0) zk) ?_
  refine own_st (fun zw zk => XS.istoreN X0.here hx rfl (hb hby d9_1) rfl rfl zk) ?_
  show own_Go p e below G (s₁.setTop (mkF m 2 #[.val (.ref d), .val (.long q1), .second, .val (.int (0 : Int32)), .unset, .unset] []))
  refine own_st (fun zw zk => XS.aloadN X0.here hx rfl (hb hby d9_2) rfl rfl zk) ?_
  obtain ⟨T270, X270, e270, st270⟩ := getF X0 hx hZ hown (host := "") (Or.inl (hw _ (List.mem_of_getElem? (i := 17) rfl))) Via.refl e0 F1_ (g := (mkF m 3 #[.val (.ref d), .val (.long q1), .second, .val (.int (0 : Int32)), .unset, .unset] [(.ref d)])) rfl rfl (hb hby d9_3)
  refine own_st (fun zw zk => st270 zw zk) ?_
  refine own_st (fun zw zk => XS.aloadN X270.here hx rfl (hb hby d9_6) rfl rfl zk) ?_
  refine own_st (fun zw zk => XS.iconst X270.here hx rfl (hb hby d9_7) zk) ?_
  obtain ⟨cq271, q271, q271'⟩ := F0_.cell
  obtain ⟨_, _, ⟨T271, L271, k271, n271⟩, -, X271, ⟨Lc271, hQ271, l271, y271, z271⟩, st271⟩ := X270.privateBack hx (y := (⟨"com/example/headroom/headroom/SlidingLog$Log", "slot", "(I)I"⟩ : MethodName)) hown (mvT hZ (hw _ (List.mem_of_getElem? (i := 28) rfl))) (mvT hZ (hw _ (List.mem_of_getElem? (i := 29) rfl))) (own_selp hZ (hw _ (List.mem_of_getElem? (i := 3) rfl)) (hw _ (List.mem_of_getElem? (i := 30) rfl)) (hw _ (List.mem_of_getElem? (i := 29) rfl)) (by decide)) (Cond.privateMethod_at (mvP hZ (hw _ (List.mem_of_getElem? (i := 30) rfl)) (args := #[]))) (mvT hZ (hw _ (List.mem_of_getElem? (i := 31) rfl))) (by decide) (backOf (W := 1) (rm5 l Z a0 hw [] d (0 : Int32) t (2 : Int32) (8 : Int32) [(.long w0), (.long w1), (.long w2), (.long w3), (.long w4), (.long w5), (.long w6), (.long w7)] h0 n0 Z0 (F1_) (F2_) (F5_) (rfl)) hZ (hw _ (List.mem_of_getElem? (i := 31) rfl)) (hw _ (List.mem_of_getElem? (i := 4) rfl)) (by decide) (by decide)) (g := (mkF m 8 #[.val (.ref d), .val (.long q1), .second, .val (.int (0 : Int32)), .unset, .unset] [(.int (0 : Int32)), (.ref d), (.ref t)])) rfl (by rw [hml]; rfl) (Steps.refl _) (a := d) (by rw [e270]; exact q271) q271' (argsL := [(.int (0 : Int32))]) (rest := [(.ref t)]) (lenOf pd_1 rfl) rfl (by show 2 * 0 + _ ≤ _; exact Nat.le_of_eq rfl) (hb hby d9_8) (fun _ _ => ⟨rfl, e270, (by decide : 0 + 0 ≤ _), (by decide : 0 + 0 ≤ _)⟩)
  dsimp only [Pt.U, Pt.locs, Pt.cells, Pt.slots] at X271 l271 y271 z271 st271 hQ271
  subst l271 y271 z271
  obtain ⟨rfl, N271q, e271⟩ := hQ271
  have N271 := Fr.app N0 N271q
  refine own_jp st271 ?_
  refine own_st (fun zw zk => XS.iconst X271.here hx rfl (hb hby d9_11) zk) ?_
  refine own_st (fun zw zk => XS.iadd X271.here hx rfl (hb hby d9_12) rfl zk) ?_
  refine own_st (fun zw zk => own_jld X271 hx hZ e271 F5_ (j := (5 : Int32)) (v := (.long w5)) (i := 5) (by decide) (by decide) rfl (g := (mkF m 13 #[.val (.ref d), .val (.long q1), .second, .val (.int (0 : Int32)), .unset, .unset] [(.int (5 : Int32)), (.ref t)])) rfl rfl (hb hby d9_13) _ zk) ?_
  show own_Go p e below G (T271.setTop (mkF m 14 #[.val (.ref d), .val (.long q1), .second, .val (.int (0 : Int32)), .unset, .unset] [(.long w5)]))
  refine own_st (fun zw zk => XS.lstore X271.here hx rfl (hb hby d9_14) rfl rfl zk) ?_
  show own_Go p e below G (T271.setTop (mkF m 16 #[.val (.ref d), .val (.long q1), .second, .val (.int (0 : Int32)), .val (.long w5), .second] []))
  refine own_st (fun zw zk => XS.lload X271.here hx rfl (hb hby d9_16) rfl zk) ?_
  refine own_st (fun zw zk => XS.lloadN X271.here hx rfl (hb hby d9_18) rfl zk) ?_
  refine own_st (fun zw zk => XS.lcmp X271.here hx rfl (hb hby d9_19) rfl zk) ?_
  have hc20 : ¬ (w5 < q1) := hge
  refine own_st (fun zw zk => XS.ifYes X271.here hx rfl (pc0 := 20) (pc' := 46) rfl (hb hby d9_20) rfl ((if0 _ _).trans (flt (own_fll hc20)).2.1) (by decide) (by decide) zk) ?_
  refine own_st (fun zw zk => XS.aloadN X271.here hx rfl (hb hby d9_46) rfl rfl zk) ?_
  obtain ⟨T272, X272, e272, st272⟩ := getF X271 hx hZ hown (host := "") (Or.inl (hw _ (List.mem_of_getElem? (i := 17) rfl))) Via.refl e271 F1_ (g := (mkF m 47 #[.val (.ref d), .val (.long q1), .second, .val (.int (0 : Int32)), .val (.long w5), .second] [(.ref d)])) rfl rfl (hb hby d9_47)
  refine own_st (fun zw zk => st272 zw zk) ?_
  refine own_st (fun zw zk => XS.aloadN X272.here hx rfl (hb hby d9_50) rfl rfl zk) ?_
  refine own_st (fun zw zk => XS.iloadN X272.here hx rfl (hb hby d9_51) rfl zk) ?_
  show own_Go p e below G (T272.setTop (mkF m 52 #[.val (.ref d), .val (.long q1), .second, .val (.int (0 : Int32)), .val (.long w5), .second] [(.int (0 : Int32)), (.ref d), (.ref t)]))
  obtain ⟨cq273, q273, q273'⟩ := F0_.cell
  obtain ⟨_, _, ⟨T273, L273, k273, n273⟩, -, X273, ⟨Lc273, hQ273, l273, y273, z273⟩, st273⟩ := X272.privateBack hx (y := (⟨"com/example/headroom/headroom/SlidingLog$Log", "slot", "(I)I"⟩ : MethodName)) hown (mvT hZ (hw _ (List.mem_of_getElem? (i := 28) rfl))) (mvT hZ (hw _ (List.mem_of_getElem? (i := 29) rfl))) (own_selp hZ (hw _ (List.mem_of_getElem? (i := 3) rfl)) (hw _ (List.mem_of_getElem? (i := 30) rfl)) (hw _ (List.mem_of_getElem? (i := 29) rfl)) (by decide)) (Cond.privateMethod_at (mvP hZ (hw _ (List.mem_of_getElem? (i := 30) rfl)) (args := #[]))) (mvT hZ (hw _ (List.mem_of_getElem? (i := 31) rfl))) (by decide) (backOf (W := 1) (rm5 l Z a0 hw [] d (0 : Int32) t (2 : Int32) (8 : Int32) [(.long w0), (.long w1), (.long w2), (.long w3), (.long w4), (.long w5), (.long w6), (.long w7)] h0 n0 Z0 (F1_) (F2_) (F5_) (rfl)) hZ (hw _ (List.mem_of_getElem? (i := 31) rfl)) (hw _ (List.mem_of_getElem? (i := 4) rfl)) (by decide) (by decide)) (g := (mkF m 52 #[.val (.ref d), .val (.long q1), .second, .val (.int (0 : Int32)), .val (.long w5), .second] [(.int (0 : Int32)), (.ref d), (.ref t)])) rfl (by rw [hml]; rfl) (Steps.refl _) (a := d) (by rw [e272]; exact q273) q273' (argsL := [(.int (0 : Int32))]) (rest := [(.ref t)]) (lenOf pd_1 rfl) rfl (by show 2 * 0 + _ ≤ _; exact Nat.le_of_eq rfl) (hb hby d9_52) (fun _ _ => ⟨rfl, e272, (by decide : 0 + 0 ≤ _), (by decide : 0 + 0 ≤ _)⟩)
  dsimp only [Pt.U, Pt.locs, Pt.cells, Pt.slots] at X273 l273 y273 z273 st273 hQ273
  subst l273 y273 z273
  obtain ⟨rfl, N273q, e273⟩ := hQ273
  have N273 := Fr.app N271 N273q
  refine own_jp st273 ?_
  refine own_st (fun zw zk => own_jld X273 hx hZ e273 F5_ (j := (4 : Int32)) (v := (.long w4)) (i := 4) (by decide) (by decide) rfl (g := (mkF m 55 #[.val (.ref d), .val (.long q1), .second, .val (.int (0 : Int32)), .val (.long w5), .second] [(.int (4 : Int32)), (.ref t)])) rfl rfl (hb hby d9_55) _ zk) ?_
  subst hG
  obtain ⟨fs, hr, hrun, hended, hW, hsame⟩ := X273.leave (v := some (.long w4)) (hlocks := Bd.notSynchronized) (fun h => by rw [Bd.returns] at h; cases h)
  refine ⟨_, own_retJ X273 hx Bd.returns (hb hby d9_56) hr, _, hrun, hended, _, _, rfl, ?_, ⟨_, rfl⟩, hW, hsame.mono (by decide) (by decide)⟩
  show Q_timeReaching_2_3_8 Z d q1 t adm w0 w1 w2 w3 w4 w5 w6 w7 h0 n0 _ T273.heap _
  rw [e273]
  exact ⟨rfl, N273, rfl⟩
theorem ef_rm_latest_3_2_8 (m : MethodId) (d : Addr) : entryFrame m #[(.ref d)] 1 = mkF m 0 #[.val (.ref d)] [] := by first | (simp [entryFrame, mkF, argsToLocals, Value.category]; done) | rfl
def Q_latest_3_2_8 (Z : State) (d : Addr) (t : Addr) (adm : Int64) (w0 : Int64) (w1 : Int64) (w2 : Int64) (w3 : Int64) (w4 : Int64) (w5 : Int64) (w6 : Int64) (w7 : Int64) (h0 : Heap) (n0 : Nat) (rv : Option Value) (hq : Heap) (Lq : List Loc) : Prop := rv = some (.long w0) ∧ Fr n0 Lq ∧ hq = h0
set_option maxRecDepth 65536 in
set_option maxHeartbeats 40000000 in
theorem rm_latest_3_2_8 (l : Launch) (Z : State) (a0 : Array Value) (hw : ∀ d ∈ tables_1, d.before a0 Z = true) (ws : List Jvm.Cond) (d : Addr) (t : Addr) (adm : Int64) (w0 : Int64) (w1 : Int64) (w2 : Int64) (w3 : Int64) (w4 : Int64) (w5 : Int64) (w6 : Int64) (w7 : Int64) (h0 : Heap) (n0 : Nat) (Z0 : n0 ≤ h0.size) (F0_ : Exa Z h0 d "com/example/headroom/headroom/SlidingLog$Log") (F1_ : Fld Z h0 d "com/example/headroom/headroom/SlidingLog$Log" "entries" "[J" (.ref t)) (F2_ : Fld Z h0 d "com/example/headroom/headroom/SlidingLog$Log" "first" "I" (.int (3 : Int32))) (F3_ : Fld Z h0 d "com/example/headroom/headroom/SlidingLog$Log" "size" "I" (.int (2 : Int32))) (F4_ : Fld Z h0 d "com/example/headroom/headroom/SlidingLog$Log" "admitted" "J" (.long adm)) (F5_ : own_L Z h0 t .long ([(.long w0), (.long w1), (.long w2), (.long w3), (.long w4), (.long w5), (.long w6), (.long w7)])) :
    MetFree l (⟨"com/example/headroom/headroom/SlidingLog$Log", "latest", "()J"⟩ : MethodName) (head1 (Jvm.Cond.code (⟨"com/example/headroom/headroom/SlidingLog$Log", "latest", "()J"⟩ : MethodName) prog_48_method_3_code 1 (some .long) :: ws) ({ frames := 1, cells := 0, slots := 0, locals := 14 } : Room)) (fun za U => za = #[(.ref d)] ∧ Z.Warmed39 U.vm ∧ U.heap = h0) (fun _ _ _ _ _ => True) (fun _ U o U' => ∃ rv Lq, o = .returned rv ∧ Q_latest_3_2_8 Z d t adm w0 w1 w2 w3 w4 w5 w6 w7 h0 n0 rv U'.heap Lq ∧ FrameEnd U o U' Lq ({ frames := 1, cells := 0, slots := 0, locals := 14 } : Room).cells ({ frames := 1, cells := 0, slots := 0, locals := 14 } : Room).slots) := by
  refine MetFree.of_bodySF (plainFor_of_name pn_1) hisR ?_
  intro p e s m args below meth c s₁ Bd hml0 hP hK
  obtain ⟨rfl, hZ, hh⟩ := hP
  have hx := Bd.exec
  have hby := Bd.bytes
  have hml : c.maxLocals = 1 := hml0
  have hown : s.vm.findClass "com/example/headroom/headroom/SlidingLog$Log" = some m.cls := findClass_of_methodNamed Bd.named
  have hnm := (name_of_methodNamed Bd.named Bd.method).1
  have X0 : Stand p l e ({ frames := 1, cells := 0, slots := 0, locals := 14 } : Room) s m #[(.ref d)] below meth c s₁ [] 0 0 := Stand.of_body Bd
  have e0 : s₁.heap = h0 := by rw [← hh, Bd.state]; rfl
  have N0 := Fr.nil n0
  refine own_out (own_nm fun G hG => own_st (fun zt zk => castTop (ef_rm_latest_3_2_8 m d) zk) ?_)
  show own_Go p e below G (s₁.setTop (mkF m 0 #[.val (.ref d)] []))
  refine own_st (fun zw zk => XS.aloadN X0.here hx rfl (hb hby d6_0) rfl rfl zk) ?_
  obtain ⟨T274, X274, e274, st274⟩ := getF X0 hx hZ hown (host := "") (Or.inl (hw _ (List.mem_of_getElem? (i := 17) rfl))) Via.refl e0 F1_ (g := (mkF m 1 #[.val (.ref d)] [(.ref d)])) rfl rfl (hb hby d6_1)
  refine own_st (fun zw zk => st274 zw zk) ?_
  refine own_st (fun zw zk => XS.aloadN X274.here hx rfl (hb hby d6_4) rfl rfl zk) ?_
  refine own_st (fun zw zk => XS.aloadN X274.here hx rfl (hb hby d6_5) rfl rfl zk) ?_
  obtain ⟨T275, X275, e275, st275⟩ := getF X274 hx hZ hown (host := "") (Or.inl (hw _ (List.mem_of_getElem? (i := 26) rfl))) Via.refl e274 F3_ (g := (mkF m 6 #[.val (.ref d)] [(.ref d), (.ref d), (.ref t)])) rfl rfl (hb hby d6_6)
  refine own_st (fun zw zk => st275 zw zk) ?_
  refine own_st (fun zw zk => XS.iconst X275.here hx rfl (hb hby d6_9) zk) ?_
  refine own_st (fun zw zk => XS.isub X275.here hx rfl (hb hby d6_10) rfl zk) ?_
  obtain ⟨cq276, q276, q276'⟩ := F0_.cell
  obtain ⟨_, _, ⟨T276, L276, k276, n276⟩, -, X276, ⟨Lc276, hQ276, l276, y276, z276⟩, st276⟩ := X275.privateBack hx (y := (⟨"com/example/headroom/headroom/SlidingLog$Log", "slot", "(I)I"⟩ : MethodName)) hown (mvT hZ (hw _ (List.mem_of_getElem? (i := 28) rfl))) (mvT hZ (hw _ (List.mem_of_getElem? (i := 29) rfl))) (own_selp hZ (hw _ (List.mem_of_getElem? (i := 3) rfl)) (hw _ (List.mem_of_getElem? (i := 30) rfl)) (hw _ (List.mem_of_getElem? (i := 29) rfl)) (by decide)) (Cond.privateMethod_at (mvP hZ (hw _ (List.mem_of_getElem? (i := 30) rfl)) (args := #[]))) (mvT hZ (hw _ (List.mem_of_getElem? (i := 31) rfl))) (by decide) (backOf (W := 1) (rm5 l Z a0 hw [] d (1 : Int32) t (3 : Int32) (8 : Int32) [(.long w0), (.long w1), (.long w2), (.long w3), (.long w4), (.long w5), (.long w6), (.long w7)] h0 n0 Z0 (F1_) (F2_) (F5_) (rfl)) hZ (hw _ (List.mem_of_getElem? (i := 31) rfl)) (hw _ (List.mem_of_getElem? (i := 4) rfl)) (by decide) (by decide)) (g := (mkF m 11 #[.val (.ref d)] [(.int (1 : Int32)), (.ref d), (.ref t)])) rfl (by rw [hml]; rfl) (Steps.refl _) (a := d) (by rw [e275]; exact q276) q276' (argsL := [(.int (1 : Int32))]) (rest := [(.ref t)]) (lenOf pd_1 rfl) rfl (by show 2 * 0 + _ ≤ _; exact Nat.le_of_eq rfl) (hb hby d6_11) (fun _ _ => ⟨rfl, e275, (by decide : 0 + 0 ≤ _), (by decide : 0 + 0 ≤ _)⟩)
  dsimp only [Pt.U, Pt.locs, Pt.cells, Pt.slots] at X276 l276 y276 z276 st276 hQ276
  subst l276 y276 z276
  obtain ⟨rfl, N276q, e276⟩ := hQ276
  have N276 := Fr.app N0 N276q
  refine own_jp st276 ?_
  show own_Go p e below G (T276.setTop (mkF m 14 #[.val (.ref d)] [(.int (0 : Int32)), (.ref t)]))
  refine own_st (fun zw zk => own_jld X276 hx hZ e276 F5_ (j := (0 : Int32)) (v := (.long w0)) (i := 0) (by decide) (by decide) rfl (g := (mkF m 14 #[.val (.ref d)] [(.int (0 : Int32)), (.ref t)])) rfl rfl (hb hby d6_14) _ zk) ?_
  subst hG
  obtain ⟨fs, hr, hrun, hended, hW, hsame⟩ := X276.leave (v := some (.long w0)) (hlocks := Bd.notSynchronized) (fun h => by rw [Bd.returns] at h; cases h)
  refine ⟨_, own_retJ X276 hx Bd.returns (hb hby d6_15) hr, _, hrun, hended, _, _, rfl, ?_, ⟨_, rfl⟩, hW, hsame.mono (by decide) (by decide)⟩
  show Q_latest_3_2_8 Z d t adm w0 w1 w2 w3 w4 w5 w6 w7 h0 n0 _ T276.heap _
  rw [e276]
  exact ⟨rfl, N276, rfl⟩
theorem ef_rm_timeReaching_3_2_8 (m : MethodId) (d : Addr) (q1 : Int64) : entryFrame m #[(.ref d), (.long q1)] 6 = mkF m 0 #[.val (.ref d), .val (.long q1), .second, .unset, .unset, .unset] [] := by first | (simp [entryFrame, mkF, argsToLocals, Value.category]; done) | rfl
def Q_timeReaching_3_2_8 (Z : State) (d : Addr) (q1 : Int64) (t : Addr) (adm : Int64) (w0 : Int64) (w1 : Int64) (w2 : Int64) (w3 : Int64) (w4 : Int64) (w5 : Int64) (w6 : Int64) (w7 : Int64) (h0 : Heap) (n0 : Nat) (rv : Option Value) (hq : Heap) (Lq : List Loc) : Prop := rv = some (.long w6) ∧ Fr n0 Lq ∧ hq = h0
set_option maxRecDepth 65536 in
set_option maxHeartbeats 40000000 in
theorem rm_timeReaching_3_2_8 (l : Launch) (Z : State) (a0 : Array Value) (hw : ∀ d ∈ tables_1, d.before a0 Z = true) (ws : List Jvm.Cond) (d : Addr) (q1 : Int64) (t : Addr) (adm : Int64) (w0 : Int64) (w1 : Int64) (w2 : Int64) (w3 : Int64) (w4 : Int64) (w5 : Int64) (w6 : Int64) (w7 : Int64) (h0 : Heap) (n0 : Nat) (Z0 : n0 ≤ h0.size) (F0_ : Exa Z h0 d "com/example/headroom/headroom/SlidingLog$Log") (F1_ : Fld Z h0 d "com/example/headroom/headroom/SlidingLog$Log" "entries" "[J" (.ref t)) (F2_ : Fld Z h0 d "com/example/headroom/headroom/SlidingLog$Log" "first" "I" (.int (3 : Int32))) (F3_ : Fld Z h0 d "com/example/headroom/headroom/SlidingLog$Log" "size" "I" (.int (2 : Int32))) (F4_ : Fld Z h0 d "com/example/headroom/headroom/SlidingLog$Log" "admitted" "J" (.long adm)) (F5_ : own_L Z h0 t .long ([(.long w0), (.long w1), (.long w2), (.long w3), (.long w4), (.long w5), (.long w6), (.long w7)])) (hge : ¬ (w7 < q1)) :
    MetFree l (⟨"com/example/headroom/headroom/SlidingLog$Log", "timeReaching", "(J)J"⟩ : MethodName) (head1 (Jvm.Cond.code (⟨"com/example/headroom/headroom/SlidingLog$Log", "timeReaching", "(J)J"⟩ : MethodName) prog_48_method_5_code 6 (some .long) :: ws) ({ frames := 1, cells := 0, slots := 0, locals := 14 } : Room)) (fun za U => za = #[(.ref d), (.long q1)] ∧ Z.Warmed39 U.vm ∧ U.heap = h0) (fun _ _ _ _ _ => True) (fun _ U o U' => ∃ rv Lq, o = .returned rv ∧ Q_timeReaching_3_2_8 Z d q1 t adm w0 w1 w2 w3 w4 w5 w6 w7 h0 n0 rv U'.heap Lq ∧ FrameEnd U o U' Lq ({ frames := 1, cells := 0, slots := 0, locals := 14 } : Room).cells ({ frames := 1, cells := 0, slots := 0, locals := 14 } : Room).slots) := by
  refine MetFree.of_bodySF (plainFor_of_name pn_1) hisR ?_
  intro p e s m args below meth c s₁ Bd hml0 hP hK
  obtain ⟨rfl, hZ, hh⟩ := hP
  have hx := Bd.exec
  have hby := Bd.bytes
  have hml : c.maxLocals = 6 := hml0
  have hown : s.vm.findClass "com/example/headroom/headroom/SlidingLog$Log" = some m.cls := findClass_of_methodNamed Bd.named
  have hnm := (name_of_methodNamed Bd.named Bd.method).1
  have X0 : Stand p l e ({ frames := 1, cells := 0, slots := 0, locals := 14 } : Room) s m #[(.ref d), (.long q1)] below meth c s₁ [] 0 0 := Stand.of_body Bd
  have e0 : s₁.heap = h0 := by rw [← hh, Bd.state]; rfl
  have N0 := Fr.nil n0
  refine own_out (own_nm fun G hG => own_st (fun zt zk => castTop (ef_rm_timeReaching_3_2_8 m d q1) zk) ?_)
  show own_Go p e below G (s₁.setTop (mkF m 0 #[.val (.ref d), .val (.long q1), .second, .unset, .unset, .unset] []))
  refine own_st (fun zw zk => XS.iconst X0.here hx rfl (hb hby d9_0) zk) ?_
  refine own_st (fun zw zk => XS.istoreN X0.here hx rfl (hb hby d9_1) rfl rfl zk) ?_
  show own_Go p e below G (s₁.setTop (mkF m 2 #[.val (.ref d), .val (.long q1), .second, .val (.int (0 : Int32)), .unset, .unset] []))
  refine own_st (fun zw zk => XS.aloadN X0.here hx rfl (hb hby d9_2) rfl rfl zk) ?_
  obtain ⟨T277, X277, e277, st277⟩ := getF X0 hx hZ hown (host := "") (Or.inl (hw _ (List.mem_of_getElem? (i := 17) rfl))) Via.refl e0 F1_ (g := (mkF m 3 #[.val (.ref d), .val (.long q1), .second, .val (.int (0 : Int32)), .unset, .unset] [(.ref d)])) rfl rfl (hb hby d9_3)
  refine own_st (fun zw zk => st277 zw zk) ?_
  refine own_st (fun zw zk => XS.aloadN X277.here hx rfl (hb hby d9_6) rfl rfl zk) ?_
  refine own_st (fun zw zk => XS.iconst X277.here hx rfl (hb hby d9_7) zk) ?_
  obtain ⟨cq278, q278, q278'⟩ := F0_.cell
  obtain ⟨_, _, ⟨T278, L278, k278, n278⟩, -, X278, ⟨Lc278, hQ278, l278, y278, z278⟩, st278⟩ := X277.privateBack hx (y := (⟨"com/example/headroom/headroom/SlidingLog$Log", "slot", "(I)I"⟩ : MethodName)) hown (mvT hZ (hw _ (List.mem_of_getElem? (i := 28) rfl))) (mvT hZ (hw _ (List.mem_of_getElem? (i := 29) rfl))) (own_selp hZ (hw _ (List.mem_of_getElem? (i := 3) rfl)) (hw _ (List.mem_of_getElem? (i := 30) rfl)) (hw _ (List.mem_of_getElem? (i := 29) rfl)) (by decide)) (Cond.privateMethod_at (mvP hZ (hw _ (List.mem_of_getElem? (i := 30) rfl)) (args := #[]))) (mvT hZ (hw _ (List.mem_of_getElem? (i := 31) rfl))) (by decide) (backOf (W := 1) (rm5 l Z a0 hw [] d (0 : Int32) t (3 : Int32) (8 : Int32) [(.long w0), (.long w1), (.long w2), (.long w3), (.long w4), (.long w5), (.long w6), (.long w7)] h0 n0 Z0 (F1_) (F2_) (F5_) (rfl)) hZ (hw _ (List.mem_of_getElem? (i := 31) rfl)) (hw _ (List.mem_of_getElem? (i := 4) rfl)) (by decide) (by decide)) (g := (mkF m 8 #[.val (.ref d), .val (.long q1), .second, .val (.int (0 : Int32)), .unset, .unset] [(.int (0 : Int32)), (.ref d), (.ref t)])) rfl (by rw [hml]; rfl) (Steps.refl _) (a := d) (by rw [e277]; exact q278) q278' (argsL := [(.int (0 : Int32))]) (rest := [(.ref t)]) (lenOf pd_1 rfl) rfl (by show 2 * 0 + _ ≤ _; exact Nat.le_of_eq rfl) (hb hby d9_8) (fun _ _ => ⟨rfl, e277, (by decide : 0 + 0 ≤ _), (by decide : 0 + 0 ≤ _)⟩)
  dsimp only [Pt.U, Pt.locs, Pt.cells, Pt.slots] at X278 l278 y278 z278 st278 hQ278
  subst l278 y278 z278
  obtain ⟨rfl, N278q, e278⟩ := hQ278
  have N278 := Fr.app N0 N278q
  refine own_jp st278 ?_
  refine own_st (fun zw zk => XS.iconst X278.here hx rfl (hb hby d9_11) zk) ?_
  refine own_st (fun zw zk => XS.iadd X278.here hx rfl (hb hby d9_12) rfl zk) ?_
  refine own_st (fun zw zk => own_jld X278 hx hZ e278 F5_ (j := (7 : Int32)) (v := (.long w7)) (i := 7) (by decide) (by decide) rfl (g := (mkF m 13 #[.val (.ref d), .val (.long q1), .second, .val (.int (0 : Int32)), .unset, .unset] [(.int (7 : Int32)), (.ref t)])) rfl rfl (hb hby d9_13) _ zk) ?_
  show own_Go p e below G (T278.setTop (mkF m 14 #[.val (.ref d), .val (.long q1), .second, .val (.int (0 : Int32)), .unset, .unset] [(.long w7)]))
  refine own_st (fun zw zk => XS.lstore X278.here hx rfl (hb hby d9_14) rfl rfl zk) ?_
  show own_Go p e below G (T278.setTop (mkF m 16 #[.val (.ref d), .val (.long q1), .second, .val (.int (0 : Int32)), .val (.long w7), .second] []))
  refine own_st (fun zw zk => XS.lload X278.here hx rfl (hb hby d9_16) rfl zk) ?_
  refine own_st (fun zw zk => XS.lloadN X278.here hx rfl (hb hby d9_18) rfl zk) ?_
  refine own_st (fun zw zk => XS.lcmp X278.here hx rfl (hb hby d9_19) rfl zk) ?_
  have hc20 : ¬ (w7 < q1) := hge
  refine own_st (fun zw zk => XS.ifYes X278.here hx rfl (pc0 := 20) (pc' := 46) rfl (hb hby d9_20) rfl ((if0 _ _).trans (flt (own_fll hc20)).2.1) (by decide) (by decide) zk) ?_
  refine own_st (fun zw zk => XS.aloadN X278.here hx rfl (hb hby d9_46) rfl rfl zk) ?_
  obtain ⟨T279, X279, e279, st279⟩ := getF X278 hx hZ hown (host := "") (Or.inl (hw _ (List.mem_of_getElem? (i := 17) rfl))) Via.refl e278 F1_ (g := (mkF m 47 #[.val (.ref d), .val (.long q1), .second, .val (.int (0 : Int32)), .val (.long w7), .second] [(.ref d)])) rfl rfl (hb hby d9_47)
  refine own_st (fun zw zk => st279 zw zk) ?_
  refine own_st (fun zw zk => XS.aloadN X279.here hx rfl (hb hby d9_50) rfl rfl zk) ?_
  refine own_st (fun zw zk => XS.iloadN X279.here hx rfl (hb hby d9_51) rfl zk) ?_
  show own_Go p e below G (T279.setTop (mkF m 52 #[.val (.ref d), .val (.long q1), .second, .val (.int (0 : Int32)), .val (.long w7), .second] [(.int (0 : Int32)), (.ref d), (.ref t)]))
  obtain ⟨cq280, q280, q280'⟩ := F0_.cell
  obtain ⟨_, _, ⟨T280, L280, k280, n280⟩, -, X280, ⟨Lc280, hQ280, l280, y280, z280⟩, st280⟩ := X279.privateBack hx (y := (⟨"com/example/headroom/headroom/SlidingLog$Log", "slot", "(I)I"⟩ : MethodName)) hown (mvT hZ (hw _ (List.mem_of_getElem? (i := 28) rfl))) (mvT hZ (hw _ (List.mem_of_getElem? (i := 29) rfl))) (own_selp hZ (hw _ (List.mem_of_getElem? (i := 3) rfl)) (hw _ (List.mem_of_getElem? (i := 30) rfl)) (hw _ (List.mem_of_getElem? (i := 29) rfl)) (by decide)) (Cond.privateMethod_at (mvP hZ (hw _ (List.mem_of_getElem? (i := 30) rfl)) (args := #[]))) (mvT hZ (hw _ (List.mem_of_getElem? (i := 31) rfl))) (by decide) (backOf (W := 1) (rm5 l Z a0 hw [] d (0 : Int32) t (3 : Int32) (8 : Int32) [(.long w0), (.long w1), (.long w2), (.long w3), (.long w4), (.long w5), (.long w6), (.long w7)] h0 n0 Z0 (F1_) (F2_) (F5_) (rfl)) hZ (hw _ (List.mem_of_getElem? (i := 31) rfl)) (hw _ (List.mem_of_getElem? (i := 4) rfl)) (by decide) (by decide)) (g := (mkF m 52 #[.val (.ref d), .val (.long q1), .second, .val (.int (0 : Int32)), .val (.long w7), .second] [(.int (0 : Int32)), (.ref d), (.ref t)])) rfl (by rw [hml]; rfl) (Steps.refl _) (a := d) (by rw [e279]; exact q280) q280' (argsL := [(.int (0 : Int32))]) (rest := [(.ref t)]) (lenOf pd_1 rfl) rfl (by show 2 * 0 + _ ≤ _; exact Nat.le_of_eq rfl) (hb hby d9_52) (fun _ _ => ⟨rfl, e279, (by decide : 0 + 0 ≤ _), (by decide : 0 + 0 ≤ _)⟩)
  dsimp only [Pt.U, Pt.locs, Pt.cells, Pt.slots] at X280 l280 y280 z280 st280 hQ280
  subst l280 y280 z280
  obtain ⟨rfl, N280q, e280⟩ := hQ280
  have N280 := Fr.app N278 N280q
  refine own_jp st280 ?_
  refine own_st (fun zw zk => own_jld X280 hx hZ e280 F5_ (j := (6 : Int32)) (v := (.long w6)) (i := 6) (by decide) (by decide) rfl (g := (mkF m 55 #[.val (.ref d), .val (.long q1), .second, .val (.int (0 : Int32)), .val (.long w7), .second] [(.int (6 : Int32)), (.ref t)])) rfl rfl (hb hby d9_55) _ zk) ?_
  subst hG
  obtain ⟨fs, hr, hrun, hended, hW, hsame⟩ := X280.leave (v := some (.long w6)) (hlocks := Bd.notSynchronized) (fun h => by rw [Bd.returns] at h; cases h)
  refine ⟨_, own_retJ X280 hx Bd.returns (hb hby d9_56) hr, _, hrun, hended, _, _, rfl, ?_, ⟨_, rfl⟩, hW, hsame.mono (by decide) (by decide)⟩
  show Q_timeReaching_3_2_8 Z d q1 t adm w0 w1 w2 w3 w4 w5 w6 w7 h0 n0 _ T280.heap _
  rw [e280]
  exact ⟨rfl, N280, rfl⟩
theorem ef_rm_latest_0_1_8 (m : MethodId) (d : Addr) : entryFrame m #[(.ref d)] 1 = mkF m 0 #[.val (.ref d)] [] := by first | (simp [entryFrame, mkF, argsToLocals, Value.category]; done) | rfl
def Q_latest_0_1_8 (Z : State) (d : Addr) (t : Addr) (adm : Int64) (w0 : Int64) (w1 : Int64) (w2 : Int64) (w3 : Int64) (w4 : Int64) (w5 : Int64) (w6 : Int64) (w7 : Int64) (h0 : Heap) (n0 : Nat) (rv : Option Value) (hq : Heap) (Lq : List Loc) : Prop := rv = some (.long w0) ∧ Fr n0 Lq ∧ hq = h0
set_option maxRecDepth 65536 in
set_option maxHeartbeats 40000000 in
theorem rm_latest_0_1_8 (l : Launch) (Z : State) (a0 : Array Value) (hw : ∀ d ∈ tables_1, d.before a0 Z = true) (ws : List Jvm.Cond) (d : Addr) (t : Addr) (adm : Int64) (w0 : Int64) (w1 : Int64) (w2 : Int64) (w3 : Int64) (w4 : Int64) (w5 : Int64) (w6 : Int64) (w7 : Int64) (h0 : Heap) (n0 : Nat) (Z0 : n0 ≤ h0.size) (F0_ : Exa Z h0 d "com/example/headroom/headroom/SlidingLog$Log") (F1_ : Fld Z h0 d "com/example/headroom/headroom/SlidingLog$Log" "entries" "[J" (.ref t)) (F2_ : Fld Z h0 d "com/example/headroom/headroom/SlidingLog$Log" "first" "I" (.int (0 : Int32))) (F3_ : Fld Z h0 d "com/example/headroom/headroom/SlidingLog$Log" "size" "I" (.int (1 : Int32))) (F4_ : Fld Z h0 d "com/example/headroom/headroom/SlidingLog$Log" "admitted" "J" (.long adm)) (F5_ : own_L Z h0 t .long ([(.long w0), (.long w1), (.long w2), (.long w3), (.long w4), (.long w5), (.long w6), (.long w7)])) :
    MetFree l (⟨"com/example/headroom/headroom/SlidingLog$Log", "latest", "()J"⟩ : MethodName) (head1 (Jvm.Cond.code (⟨"com/example/headroom/headroom/SlidingLog$Log", "latest", "()J"⟩ : MethodName) prog_48_method_3_code 1 (some .long) :: ws) ({ frames := 1, cells := 0, slots := 0, locals := 14 } : Room)) (fun za U => za = #[(.ref d)] ∧ Z.Warmed39 U.vm ∧ U.heap = h0) (fun _ _ _ _ _ => True) (fun _ U o U' => ∃ rv Lq, o = .returned rv ∧ Q_latest_0_1_8 Z d t adm w0 w1 w2 w3 w4 w5 w6 w7 h0 n0 rv U'.heap Lq ∧ FrameEnd U o U' Lq ({ frames := 1, cells := 0, slots := 0, locals := 14 } : Room).cells ({ frames := 1, cells := 0, slots := 0, locals := 14 } : Room).slots) := by
  refine MetFree.of_bodySF (plainFor_of_name pn_1) hisR ?_
  intro p e s m args below meth c s₁ Bd hml0 hP hK
  obtain ⟨rfl, hZ, hh⟩ := hP
  have hx := Bd.exec
  have hby := Bd.bytes
  have hml : c.maxLocals = 1 := hml0
  have hown : s.vm.findClass "com/example/headroom/headroom/SlidingLog$Log" = some m.cls := findClass_of_methodNamed Bd.named
  have hnm := (name_of_methodNamed Bd.named Bd.method).1
  have X0 : Stand p l e ({ frames := 1, cells := 0, slots := 0, locals := 14 } : Room) s m #[(.ref d)] below meth c s₁ [] 0 0 := Stand.of_body Bd
  have e0 : s₁.heap = h0 := by rw [← hh, Bd.state]; rfl
  have N0 := Fr.nil n0
  refine own_out (own_nm fun G hG => own_st (fun zt zk => castTop (ef_rm_latest_0_1_8 m d) zk) ?_)
  show own_Go p e below G (s₁.setTop (mkF m 0 #[.val (.ref d)] []))
  refine own_st (fun zw zk => XS.aloadN X0.here hx rfl (hb hby d6_0) rfl rfl zk) ?_
  obtain ⟨T281, X281, e281, st281⟩ := getF X0 hx hZ hown (host := "") (Or.inl (hw _ (List.mem_of_getElem? (i := 17) rfl))) Via.refl e0 F1_ (g := (mkF m 1 #[.val (.ref d)] [(.ref d)])) rfl rfl (hb hby d6_1)
  refine own_st (fun zw zk => st281 zw zk) ?_
  refine own_st (fun zw zk => XS.aloadN X281.here hx rfl (hb hby d6_4) rfl rfl zk) ?_
  refine own_st (fun zw zk => XS.aloadN X281.here hx rfl (hb hby d6_5) rfl rfl zk) ?_
  obtain ⟨T282, X282, e282, st282⟩ := getF X281 hx hZ hown (host := "") (Or.inl (hw _ (List.mem_of_getElem? (i := 26) rfl))) Via.refl e281 F3_ (g := (mkF m 6 #[.val (.ref d)] [(.ref d), (.ref d), (.ref t)])) rfl rfl (hb hby d6_6)
  refine own_st (fun zw zk => st282 zw zk) ?_
  refine own_st (fun zw zk => XS.iconst X282.here hx rfl (hb hby d6_9) zk) ?_
  refine own_st (fun zw zk => XS.isub X282.here hx rfl (hb hby d6_10) rfl zk) ?_
  obtain ⟨cq283, q283, q283'⟩ := F0_.cell
  obtain ⟨_, _, ⟨T283, L283, k283, n283⟩, -, X283, ⟨Lc283, hQ283, l283, y283, z283⟩, st283⟩ := X282.privateBack hx (y := (⟨"com/example/headroom/headroom/SlidingLog$Log", "slot", "(I)I"⟩ : MethodName)) hown (mvT hZ (hw _ (List.mem_of_getElem? (i := 28) rfl))) (mvT hZ (hw _ (List.mem_of_getElem? (i := 29) rfl))) (own_selp hZ (hw _ (List.mem_of_getElem? (i := 3) rfl)) (hw _ (List.mem_of_getElem? (i := 30) rfl)) (hw _ (List.mem_of_getElem? (i := 29) rfl)) (by decide)) (Cond.privateMethod_at (mvP hZ (hw _ (List.mem_of_getElem? (i := 30) rfl)) (args := #[]))) (mvT hZ (hw _ (List.mem_of_getElem? (i := 31) rfl))) (by decide) (backOf (W := 1) (rm5 l Z a0 hw [] d (0 : Int32) t (0 : Int32) (8 : Int32) [(.long w0), (.long w1), (.long w2), (.long w3), (.long w4), (.long w5), (.long w6), (.long w7)] h0 n0 Z0 (F1_) (F2_) (F5_) (rfl)) hZ (hw _ (List.mem_of_getElem? (i := 31) rfl)) (hw _ (List.mem_of_getElem? (i := 4) rfl)) (by decide) (by decide)) (g := (mkF m 11 #[.val (.ref d)] [(.int (0 : Int32)), (.ref d), (.ref t)])) rfl (by rw [hml]; rfl) (Steps.refl _) (a := d) (by rw [e282]; exact q283) q283' (argsL := [(.int (0 : Int32))]) (rest := [(.ref t)]) (lenOf pd_1 rfl) rfl (by show 2 * 0 + _ ≤ _; exact Nat.le_of_eq rfl) (hb hby d6_11) (fun _ _ => ⟨rfl, e282, (by decide : 0 + 0 ≤ _), (by decide : 0 + 0 ≤ _)⟩)
  dsimp only [Pt.U, Pt.locs, Pt.cells, Pt.slots] at X283 l283 y283 z283 st283 hQ283
  subst l283 y283 z283
  obtain ⟨rfl, N283q, e283⟩ := hQ283
  have N283 := Fr.app N0 N283q
  refine own_jp st283 ?_
  show own_Go p e below G (T283.setTop (mkF m 14 #[.val (.ref d)] [(.int (0 : Int32)), (.ref t)]))
  refine own_st (fun zw zk => own_jld X283 hx hZ e283 F5_ (j := (0 : Int32)) (v := (.long w0)) (i := 0) (by decide) (by decide) rfl (g := (mkF m 14 #[.val (.ref d)] [(.int (0 : Int32)), (.ref t)])) rfl rfl (hb hby d6_14) _ zk) ?_
  subst hG
  obtain ⟨fs, hr, hrun, hended, hW, hsame⟩ := X283.leave (v := some (.long w0)) (hlocks := Bd.notSynchronized) (fun h => by rw [Bd.returns] at h; cases h)
  refine ⟨_, own_retJ X283 hx Bd.returns (hb hby d6_15) hr, _, hrun, hended, _, _, rfl, ?_, ⟨_, rfl⟩, hW, hsame.mono (by decide) (by decide)⟩
  show Q_latest_0_1_8 Z d t adm w0 w1 w2 w3 w4 w5 w6 w7 h0 n0 _ T283.heap _
  rw [e283]
  exact ⟨rfl, N283, rfl⟩
theorem ef_rm_timeReaching_0_1_8 (m : MethodId) (d : Addr) (q1 : Int64) : entryFrame m #[(.ref d), (.long q1)] 6 = mkF m 0 #[.val (.ref d), .val (.long q1), .second, .unset, .unset, .unset] [] := by first | (simp [entryFrame, mkF, argsToLocals, Value.category]; done) | rfl
def Q_timeReaching_0_1_8 (Z : State) (d : Addr) (q1 : Int64) (t : Addr) (adm : Int64) (w0 : Int64) (w1 : Int64) (w2 : Int64) (w3 : Int64) (w4 : Int64) (w5 : Int64) (w6 : Int64) (w7 : Int64) (h0 : Heap) (n0 : Nat) (rv : Option Value) (hq : Heap) (Lq : List Loc) : Prop := rv = some (.long w0) ∧ Fr n0 Lq ∧ hq = h0
set_option maxRecDepth 65536 in
set_option maxHeartbeats 40000000 in
theorem rm_timeReaching_0_1_8 (l : Launch) (Z : State) (a0 : Array Value) (hw : ∀ d ∈ tables_1, d.before a0 Z = true) (ws : List Jvm.Cond) (d : Addr) (q1 : Int64) (t : Addr) (adm : Int64) (w0 : Int64) (w1 : Int64) (w2 : Int64) (w3 : Int64) (w4 : Int64) (w5 : Int64) (w6 : Int64) (w7 : Int64) (h0 : Heap) (n0 : Nat) (Z0 : n0 ≤ h0.size) (F0_ : Exa Z h0 d "com/example/headroom/headroom/SlidingLog$Log") (F1_ : Fld Z h0 d "com/example/headroom/headroom/SlidingLog$Log" "entries" "[J" (.ref t)) (F2_ : Fld Z h0 d "com/example/headroom/headroom/SlidingLog$Log" "first" "I" (.int (0 : Int32))) (F3_ : Fld Z h0 d "com/example/headroom/headroom/SlidingLog$Log" "size" "I" (.int (1 : Int32))) (F4_ : Fld Z h0 d "com/example/headroom/headroom/SlidingLog$Log" "admitted" "J" (.long adm)) (F5_ : own_L Z h0 t .long ([(.long w0), (.long w1), (.long w2), (.long w3), (.long w4), (.long w5), (.long w6), (.long w7)])) (hge : ¬ (w1 < q1)) :
    MetFree l (⟨"com/example/headroom/headroom/SlidingLog$Log", "timeReaching", "(J)J"⟩ : MethodName) (head1 (Jvm.Cond.code (⟨"com/example/headroom/headroom/SlidingLog$Log", "timeReaching", "(J)J"⟩ : MethodName) prog_48_method_5_code 6 (some .long) :: ws) ({ frames := 1, cells := 0, slots := 0, locals := 14 } : Room)) (fun za U => za = #[(.ref d), (.long q1)] ∧ Z.Warmed39 U.vm ∧ U.heap = h0) (fun _ _ _ _ _ => True) (fun _ U o U' => ∃ rv Lq, o = .returned rv ∧ Q_timeReaching_0_1_8 Z d q1 t adm w0 w1 w2 w3 w4 w5 w6 w7 h0 n0 rv U'.heap Lq ∧ FrameEnd U o U' Lq ({ frames := 1, cells := 0, slots := 0, locals := 14 } : Room).cells ({ frames := 1, cells := 0, slots := 0, locals := 14 } : Room).slots) := by
  refine MetFree.of_bodySF (plainFor_of_name pn_1) hisR ?_
  intro p e s m args below meth c s₁ Bd hml0 hP hK
  obtain ⟨rfl, hZ, hh⟩ := hP
  have hx := Bd.exec
  have hby := Bd.bytes
  have hml : c.maxLocals = 6 := hml0
  have hown : s.vm.findClass "com/example/headroom/headroom/SlidingLog$Log" = some m.cls := findClass_of_methodNamed Bd.named
  have hnm := (name_of_methodNamed Bd.named Bd.method).1
  have X0 : Stand p l e ({ frames := 1, cells := 0, slots := 0, locals := 14 } : Room) s m #[(.ref d), (.long q1)] below meth c s₁ [] 0 0 := Stand.of_body Bd
  have e0 : s₁.heap = h0 := by rw [← hh, Bd.state]; rfl
  have N0 := Fr.nil n0
  refine own_out (own_nm fun G hG => own_st (fun zt zk => castTop (ef_rm_timeReaching_0_1_8 m d q1) zk) ?_)
  show own_Go p e below G (s₁.setTop (mkF m 0 #[.val (.ref d), .val (.long q1), .second, .unset, .unset, .unset] []))
  refine own_st (fun zw zk => XS.iconst X0.here hx rfl (hb hby d9_0) zk) ?_
  refine own_st (fun zw zk => XS.istoreN X0.here hx rfl (hb hby d9_1) rfl rfl zk) ?_
  show own_Go p e below G (s₁.setTop (mkF m 2 #[.val (.ref d), .val (.long q1), .second, .val (.int (0 : Int32)), .unset, .unset] []))
  refine own_st (fun zw zk => XS.aloadN X0.here hx rfl (hb hby d9_2) rfl rfl zk) ?_
  obtain ⟨T284, X284, e284, st284⟩ := getF X0 hx hZ hown (host := "") (Or.inl (hw _ (List.mem_of_getElem? (i := 17) rfl))) Via.refl e0 F1_ (g := (mkF m 3 #[.val (.ref d), .val (.long q1), .second, .val (.int (0 : Int32)), .unset, .unset] [(.ref d)])) rfl rfl (hb hby d9_3)
  refine own_st (fun zw zk => st284 zw zk) ?_
  refine own_st (fun zw zk => XS.aloadN X284.here hx rfl (hb hby d9_6) rfl rfl zk) ?_
  refine own_st (fun zw zk => XS.iconst X284.here hx rfl (hb hby d9_7) zk) ?_
  obtain ⟨cq285, q285, q285'⟩ := F0_.cell
  obtain ⟨_, _, ⟨T285, L285, k285, n285⟩, -, X285, ⟨Lc285, hQ285, l285, y285, z285⟩, st285⟩ := X284.privateBack hx (y := (⟨"com/example/headroom/headroom/SlidingLog$Log", "slot", "(I)I"⟩ : MethodName)) hown (mvT hZ (hw _ (List.mem_of_getElem? (i := 28) rfl))) (mvT hZ (hw _ (List.mem_of_getElem? (i := 29) rfl))) (own_selp hZ (hw _ (List.mem_of_getElem? (i := 3) rfl)) (hw _ (List.mem_of_getElem? (i := 30) rfl)) (hw _ (List.mem_of_getElem? (i := 29) rfl)) (by decide)) (Cond.privateMethod_at (mvP hZ (hw _ (List.mem_of_getElem? (i := 30) rfl)) (args := #[]))) (mvT hZ (hw _ (List.mem_of_getElem? (i := 31) rfl))) (by decide) (backOf (W := 1) (rm5 l Z a0 hw [] d (0 : Int32) t (0 : Int32) (8 : Int32) [(.long w0), (.long w1), (.long w2), (.long w3), (.long w4), (.long w5), (.long w6), (.long w7)] h0 n0 Z0 (F1_) (F2_) (F5_) (rfl)) hZ (hw _ (List.mem_of_getElem? (i := 31) rfl)) (hw _ (List.mem_of_getElem? (i := 4) rfl)) (by decide) (by decide)) (g := (mkF m 8 #[.val (.ref d), .val (.long q1), .second, .val (.int (0 : Int32)), .unset, .unset] [(.int (0 : Int32)), (.ref d), (.ref t)])) rfl (by rw [hml]; rfl) (Steps.refl _) (a := d) (by rw [e284]; exact q285) q285' (argsL := [(.int (0 : Int32))]) (rest := [(.ref t)]) (lenOf pd_1 rfl) rfl (by show 2 * 0 + _ ≤ _; exact Nat.le_of_eq rfl) (hb hby d9_8) (fun _ _ => ⟨rfl, e284, (by decide : 0 + 0 ≤ _), (by decide : 0 + 0 ≤ _)⟩)
  dsimp only [Pt.U, Pt.locs, Pt.cells, Pt.slots] at X285 l285 y285 z285 st285 hQ285
  subst l285 y285 z285
  obtain ⟨rfl, N285q, e285⟩ := hQ285
  have N285 := Fr.app N0 N285q
  refine own_jp st285 ?_
  refine own_st (fun zw zk => XS.iconst X285.here hx rfl (hb hby d9_11) zk) ?_
  refine own_st (fun zw zk => XS.iadd X285.here hx rfl (hb hby d9_12) rfl zk) ?_
  refine own_st (fun zw zk => own_jld X285 hx hZ e285 F5_ (j := (1 : Int32)) (v := (.long w1)) (i := 1) (by decide) (by decide) rfl (g := (mkF m 13 #[.val (.ref d), .val (.long q1), .second, .val (.int (0 : Int32)), .unset, .unset] [(.int (1 : Int32)), (.ref t)])) rfl rfl (hb hby d9_13) _ zk) ?_
  show own_Go p e below G (T285.setTop (mkF m 14 #[.val (.ref d), .val (.long q1), .second, .val (.int (0 : Int32)), .unset, .unset] [(.long w1)]))
  refine own_st (fun zw zk => XS.lstore X285.here hx rfl (hb hby d9_14) rfl rfl zk) ?_
  show own_Go p e below G (T285.setTop (mkF m 16 #[.val (.ref d), .val (.long q1), .second, .val (.int (0 : Int32)), .val (.long w1), .second] []))
  refine own_st (fun zw zk => XS.lload X285.here hx rfl (hb hby d9_16) rfl zk) ?_
  refine own_st (fun zw zk => XS.lloadN X285.here hx rfl (hb hby d9_18) rfl zk) ?_
  refine own_st (fun zw zk => XS.lcmp X285.here hx rfl (hb hby d9_19) rfl zk) ?_
  have hc20 : ¬ (w1 < q1) := hge
  refine own_st (fun zw zk => XS.ifYes X285.here hx rfl (pc0 := 20) (pc' := 46) rfl (hb hby d9_20) rfl ((if0 _ _).trans (flt (own_fll hc20)).2.1) (by decide) (by decide) zk) ?_
  refine own_st (fun zw zk => XS.aloadN X285.here hx rfl (hb hby d9_46) rfl rfl zk) ?_
  obtain ⟨T286, X286, e286, st286⟩ := getF X285 hx hZ hown (host := "") (Or.inl (hw _ (List.mem_of_getElem? (i := 17) rfl))) Via.refl e285 F1_ (g := (mkF m 47 #[.val (.ref d), .val (.long q1), .second, .val (.int (0 : Int32)), .val (.long w1), .second] [(.ref d)])) rfl rfl (hb hby d9_47)
  refine own_st (fun zw zk => st286 zw zk) ?_
  refine own_st (fun zw zk => XS.aloadN X286.here hx rfl (hb hby d9_50) rfl rfl zk) ?_
  refine own_st (fun zw zk => XS.iloadN X286.here hx rfl (hb hby d9_51) rfl zk) ?_
  show own_Go p e below G (T286.setTop (mkF m 52 #[.val (.ref d), .val (.long q1), .second, .val (.int (0 : Int32)), .val (.long w1), .second] [(.int (0 : Int32)), (.ref d), (.ref t)]))
  obtain ⟨cq287, q287, q287'⟩ := F0_.cell
  obtain ⟨_, _, ⟨T287, L287, k287, n287⟩, -, X287, ⟨Lc287, hQ287, l287, y287, z287⟩, st287⟩ := X286.privateBack hx (y := (⟨"com/example/headroom/headroom/SlidingLog$Log", "slot", "(I)I"⟩ : MethodName)) hown (mvT hZ (hw _ (List.mem_of_getElem? (i := 28) rfl))) (mvT hZ (hw _ (List.mem_of_getElem? (i := 29) rfl))) (own_selp hZ (hw _ (List.mem_of_getElem? (i := 3) rfl)) (hw _ (List.mem_of_getElem? (i := 30) rfl)) (hw _ (List.mem_of_getElem? (i := 29) rfl)) (by decide)) (Cond.privateMethod_at (mvP hZ (hw _ (List.mem_of_getElem? (i := 30) rfl)) (args := #[]))) (mvT hZ (hw _ (List.mem_of_getElem? (i := 31) rfl))) (by decide) (backOf (W := 1) (rm5 l Z a0 hw [] d (0 : Int32) t (0 : Int32) (8 : Int32) [(.long w0), (.long w1), (.long w2), (.long w3), (.long w4), (.long w5), (.long w6), (.long w7)] h0 n0 Z0 (F1_) (F2_) (F5_) (rfl)) hZ (hw _ (List.mem_of_getElem? (i := 31) rfl)) (hw _ (List.mem_of_getElem? (i := 4) rfl)) (by decide) (by decide)) (g := (mkF m 52 #[.val (.ref d), .val (.long q1), .second, .val (.int (0 : Int32)), .val (.long w1), .second] [(.int (0 : Int32)), (.ref d), (.ref t)])) rfl (by rw [hml]; rfl) (Steps.refl _) (a := d) (by rw [e286]; exact q287) q287' (argsL := [(.int (0 : Int32))]) (rest := [(.ref t)]) (lenOf pd_1 rfl) rfl (by show 2 * 0 + _ ≤ _; exact Nat.le_of_eq rfl) (hb hby d9_52) (fun _ _ => ⟨rfl, e286, (by decide : 0 + 0 ≤ _), (by decide : 0 + 0 ≤ _)⟩)
  dsimp only [Pt.U, Pt.locs, Pt.cells, Pt.slots] at X287 l287 y287 z287 st287 hQ287
  subst l287 y287 z287
  obtain ⟨rfl, N287q, e287⟩ := hQ287
  have N287 := Fr.app N285 N287q
  refine own_jp st287 ?_
  refine own_st (fun zw zk => own_jld X287 hx hZ e287 F5_ (j := (0 : Int32)) (v := (.long w0)) (i := 0) (by decide) (by decide) rfl (g := (mkF m 55 #[.val (.ref d), .val (.long q1), .second, .val (.int (0 : Int32)), .val (.long w1), .second] [(.int (0 : Int32)), (.ref t)])) rfl rfl (hb hby d9_55) _ zk) ?_
  subst hG
  obtain ⟨fs, hr, hrun, hended, hW, hsame⟩ := X287.leave (v := some (.long w0)) (hlocks := Bd.notSynchronized) (fun h => by rw [Bd.returns] at h; cases h)
  refine ⟨_, own_retJ X287 hx Bd.returns (hb hby d9_56) hr, _, hrun, hended, _, _, rfl, ?_, ⟨_, rfl⟩, hW, hsame.mono (by decide) (by decide)⟩
  show Q_timeReaching_0_1_8 Z d q1 t adm w0 w1 w2 w3 w4 w5 w6 w7 h0 n0 _ T287.heap _
  rw [e287]
  exact ⟨rfl, N287, rfl⟩
theorem own_tA (a : Int64) : -4611686018427387904 ≤ (a >>> ((1 : Int32) &&& 0x3f).toInt64).toInt ∧ (a >>> ((1 : Int32) &&& 0x3f).toInt64).toInt < 4611686018427387904 := by
  have h := c_lshr a 1 1 (by decide)
  have r := rng64 a
  have : (2 ^ 1 : Nat) = 2 := rfl
  rw [this] at h
  omega
theorem own_m7 (x : Int64) : 0 ≤ (x &&& (127 : Int64)).toInt ∧ (x &&& (127 : Int64)).toInt ≤ 127 := by
  have h := c_maskL x 127 7 (by decide) (by decide)
  have : (2 ^ 7 : Nat) = 128 := rfl
  rw [this] at h
  omega
theorem own_g0 (x : Int64) : 1 ≤ ((1 : Int64) + (x &&& (127 : Int64))).toInt ∧ ((1 : Int64) + (x &&& (127 : Int64))).toInt ≤ 128 := by
  have h := own_m7 x
  have a := c_ladd 1 (x &&& 127)
  have r := rng64 (1 + (x &&& 127))
  have z : (1 : Int64).toInt = 1 := by decide
  rw [z] at a
  omega
theorem own_sumB {t g : Int64} (ht : -4611686018427387904 ≤ t.toInt ∧ t.toInt < 4611686018427387904) (hg : 1 ≤ g.toInt ∧ g.toInt ≤ 128) : (t + g).toInt = t.toInt + g.toInt := by
  have a := c_ladd t g
  have r := rng64 (t + g)
  omega
theorem own_inc {t : Int64} (x : Int64) (ht : -4611686018427387904 ≤ t.toInt ∧ t.toInt < 4611686018427400000) : t.toInt < ((t + (1 : Int64)) + (x &&& (127 : Int64))).toInt ∧ ((t + (1 : Int64)) + (x &&& (127 : Int64))).toInt ≤ t.toInt + 128 := by
  have h := own_m7 x
  have a := c_ladd t 1
  have r := rng64 (t + 1)
  have b := c_ladd (t + 1) (x &&& 127)
  have r2 := rng64 ((t + 1) + (x &&& 127))
  have z : (1 : Int64).toInt = 1 := by decide
  rw [z] at a
  omega
theorem own_pp {t g : Int64} (x : Int64) (ht : -4611686018427387904 ≤ t.toInt ∧ t.toInt < 4611686018427387904) (hg : 1 ≤ g.toInt ∧ g.toInt ≤ 128) :
    t.toInt ≤ (t + ((x &&& (127 : Int64)) - ((x &&& (127 : Int64)) / g) * g)).toInt ∧ (t + ((x &&& (127 : Int64)) - ((x &&& (127 : Int64)) / g) * g)).toInt < t.toInt + g.toInt := by
  have h := own_m7 x
  have e : ((x &&& (127 : Int64)) - ((x &&& (127 : Int64)) / g) * g).toInt = (x &&& (127 : Int64)).toInt % g.toInt := by
    rw [lrem_mod, Int64.toInt_mod]
    exact (tr _ _).1 h.1
  have m1 := Int.emod_nonneg (x &&& (127 : Int64)).toInt (show g.toInt ≠ 0 by omega)
  have m2 := Int.emod_lt_of_pos (x &&& (127 : Int64)).toInt (show 0 < g.toInt by omega)
  have a := c_ladd t ((x &&& (127 : Int64)) - ((x &&& (127 : Int64)) / g) * g)
  have r := rng64 (t + ((x &&& (127 : Int64)) - ((x &&& (127 : Int64)) / g) * g))
  omega
theorem own_cnt (x : Int64) : ¬ (((1 : Int64) + (x &&& (65535 : Int64))) < (1 : Int64)) := by
  have h := c_maskL x 65535 16 (by decide) (by decide)
  have : (2 ^ 16 : Nat) = 65536 := rfl
  rw [this] at h
  have a := c_ladd 1 (x &&& 65535)
  have r := rng64 (1 + (x &&& 65535))
  have z : (1 : Int64).toInt = 1 := by decide
  rw [z] at a
  rw [Int64.lt_iff_toInt_lt, z]
  omega
theorem own_ltI {a b : Int64} (h : a.toInt < b.toInt) : a < b := Int64.lt_iff_toInt_lt.mpr h
theorem own_neI {a b : Int64} (h : a.toInt < b.toInt) : ¬ (a = b) := fun e => by rw [e] at h; omega
theorem own_leI {a b : Int64} (h : a.toInt ≤ b.toInt) : ¬ (b < a) := fun e => by rw [Int64.lt_iff_toInt_lt] at e; omega
theorem own_five {tB tC tD tE : Int64} (h1 : tB.toInt < tC.toInt) (h2 : tC.toInt < tD.toInt) (h3 : tD.toInt < tE.toInt) (q : Int64) :
    (q < tB ∧ q < tC ∧ q < tD ∧ q < tE) ∨ (¬ (q < tB) ∧ q < tC ∧ q < tD ∧ q < tE) ∨ (¬ (q < tB) ∧ ¬ (q < tC) ∧ q < tD ∧ q < tE) ∨ (¬ (q < tB) ∧ ¬ (q < tC) ∧ ¬ (q < tD) ∧ q < tE) ∨ (¬ (q < tB) ∧ ¬ (q < tC) ∧ ¬ (q < tD) ∧ ¬ (q < tE)) := by
  simp only [Int64.lt_iff_toInt_lt]
  omega
theorem own_nzg {g : Int64} (hg : 1 ≤ g.toInt ∧ g.toInt ≤ 128) : g ≠ 0 := fun e => by
  have z : (0 : Int64).toInt = 0 := by decide
  rw [e, z] at hg
  omega
theorem own_adm1 (a b c : Int64) : (((((0 : Int64) + a) + b) + c) - a) = b + c := by grind
theorem pd_3 : parseMethodDescriptor "(JJ)V" = some ⟨[.long, .long], none⟩ := by decide +kernel
theorem pd_4 : parseMethodDescriptor "(J)V" = some ⟨[.long], none⟩ := by decide +kernel
theorem pd_5 : parseMethodDescriptor "(J)J" = some ⟨[.long], some .long⟩ := by decide +kernel
theorem pn_2 : plainName "com/example/headroom/headroom/LogForgetUpToPinLaw" = true := by first | (simp [plainName, overriddenIn]; done) | decide +kernel
theorem ef_rm0 (m : MethodId) (q0 : Int64) (q1 : Int64) (q2 : Int64) (q3 : Int64) (p4 : Int32) : entryFrame m #[(.long q0), (.long q1), (.long q2), (.long q3), (.int p4)] maxLocals = mkF m 0 #[.val (.long q0), .second, .val (.long q1), .second, .val (.long q2), .second, .val (.long q3), .second, .val (.int p4), .unset, .unset, .unset, .unset, .unset, .unset, .unset, .unset, .unset, .unset, .unset, .unset, .unset, .unset, .unset, .unset, .unset, .unset, .unset, .unset, .unset, .unset, .unset, .unset, .unset, .unset, .unset, .unset, .unset, .unset, .unset, .unset, .unset, .unset] [] := by first | (simp [entryFrame, mkF, argsToLocals, Value.category, maxLocals]; done) | rfl
def Q0 (Z : State) (q0 : Int64) (q1 : Int64) (q2 : Int64) (q3 : Int64) (p4 : Int32) (h0 : Heap) (n0 : Nat) (rv : Option Value) (hq : Heap) (Lq : List Loc) : Prop := rv = some (.int 1) ∧ Fr n0 Lq
set_option maxRecDepth 65536 in
set_option maxHeartbeats 40000000 in
theorem rm0 (l : Launch) (Z : State) (a0 : Array Value) (hw : ∀ d ∈ tables_1, d.before a0 Z = true) (ws : List Jvm.Cond) (q0 : Int64) (q1 : Int64) (q2 : Int64) (q3 : Int64) (p4 : Int32) (h0 : Heap) (n0 : Nat) (Z0 : n0 ≤ h0.size) :
    MetFree l x (head1 (Jvm.Cond.code x code maxLocals ret :: ws) room_1) (fun za U => za = #[(.long q0), (.long q1), (.long q2), (.long q3), (.int p4)] ∧ Z.Warmed39 U.vm ∧ U.heap = h0) (fun _ _ _ _ _ => True) (fun _ U o U' => ∃ rv Lq, o = .returned rv ∧ Q0 Z q0 q1 q2 q3 p4 h0 n0 rv U'.heap Lq ∧ FrameEnd U o U' Lq room_1.cells room_1.slots) := by
  refine MetFree.of_bodySF (plainFor_of_name pn_2) hisR ?_
  intro p e s m args below meth c s₁ Bd hml0 hP hK
  obtain ⟨rfl, hZ, hh⟩ := hP
  have hx := Bd.exec
  have hby := Bd.bytes
  have hml : c.maxLocals = 43 := hml0
  have hown : s.vm.findClass "com/example/headroom/headroom/LogForgetUpToPinLaw" = some m.cls := findClass_of_methodNamed Bd.named
  have hnm := (name_of_methodNamed Bd.named Bd.method).1
  have X0 : Stand p l e room_1 s m #[(.long q0), (.long q1), (.long q2), (.long q3), (.int p4)] below meth c s₁ [] 0 0 := Stand.of_body Bd
  have e0 : s₁.heap = h0 := by rw [← hh, Bd.state]; rfl
  have N0 := Fr.nil n0
  refine own_out (own_nm fun G hG => own_st (fun zt zk => castTop (ef_rm0 m q0 q1 q2 q3 p4) zk) ?_)
  show own_Go p e below G (s₁.setTop (mkF m 0 #[.val (.long q0), .second, .val (.long q1), .second, .val (.long q2), .second, .val (.long q3), .second, .val (.int p4), .unset, .unset, .unset, .unset, .unset, .unset, .unset, .unset, .unset, .unset, .unset, .unset, .unset, .unset, .unset, .unset, .unset, .unset, .unset, .unset, .unset, .unset, .unset, .unset, .unset, .unset, .unset, .unset, .unset, .unset, .unset, .unset, .unset, .unset] []))
  refine own_st (fun zw zk => XS.lloadN X0.here hx rfl (hb hby at_0) rfl zk) ?_
  refine own_st (fun zw zk => XS.iconst X0.here hx rfl (hb hby at_1) zk) ?_
  refine own_st (fun zw zk => XS.lshr X0.here hx rfl (hb hby at_2) rfl zk) ?_
  refine own_st (fun zw zk => XS.lstore X0.here hx rfl (hb hby at_3) rfl rfl zk) ?_
  show own_Go p e below G (s₁.setTop (mkF m 5 #[.val (.long q0), .second, .val (.long q1), .second, .val (.long q2), .second, .val (.long q3), .second, .val (.int p4), .val (.long (q0 >>> ((1 : Int32) &&& 0x3f).toInt64)), .second, .unset, .unset, .unset, .unset, .unset, .unset, .unset, .unset, .unset, .unset, .unset, .unset, .unset, .unset, .unset, .unset, .unset, .unset, .unset, .unset, .unset, .unset, .unset, .unset, .unset, .unset, .unset, .unset, .unset, .unset, .unset, .unset] []))
  generalize htA : (q0 >>> ((1 : Int32) &&& 0x3f).toInt64) = tA
  have rA := own_tA q0
  rw [htA] at rA
  refine own_st (fun zw zk => XS.lconst X0.here hx rfl (hb hby at_5) zk) ?_
  refine own_st (fun zw zk => XS.lloadN X0.here hx rfl (hb hby at_6) rfl zk) ?_
  refine own_st (fun zw zk => X0.ldc2Long hx hown (mvT hZ (hw _ (List.mem_of_getElem? (i := 0) rfl))) (g := (mkF m 7 #[.val (.long q0), .second, .val (.long q1), .second, .val (.long q2), .second, .val (.long q3), .second, .val (.int p4), .val (.long tA), .second, .unset, .unset, .unset, .unset, .unset, .unset, .unset, .unset, .unset, .unset, .unset, .unset, .unset, .unset, .unset, .unset, .unset, .unset, .unset, .unset, .unset, .unset, .unset, .unset, .unset, .unset, .unset, .unset, .unset, .unset, .unset, .unset] [(.long q1), (.long (1 : Int64))])) rfl (hb hby at_7) _ zk) ?_
  refine own_st (fun zw zk => XS.land X0.here hx rfl (hb hby at_10) rfl zk) ?_
  refine own_st (fun zw zk => XS.ladd X0.here hx rfl (hb hby at_11) rfl zk) ?_
  refine own_st (fun zw zk => XS.lstore X0.here hx rfl (hb hby at_12) rfl rfl zk) ?_
  show own_Go p e below G (s₁.setTop (mkF m 14 #[.val (.long q0), .second, .val (.long q1), .second, .val (.long q2), .second, .val (.long q3), .second, .val (.int p4), .val (.long tA), .second, .val (.long ((1 : Int64) + (q1 &&& (127 : Int64)))), .second, .unset, .unset, .unset, .unset, .unset, .unset, .unset, .unset, .unset, .unset, .unset, .unset, .unset, .unset, .unset, .unset, .unset, .unset, .unset, .unset, .unset, .unset, .unset, .unset, .unset, .unset, .unset, .unset, .unset, .unset] []))
  generalize hg0 : ((1 : Int64) + (q1 &&& (127 : Int64))) = g0
  have rg := own_g0 q1
  rw [hg0] at rg
  refine own_st (fun zw zk => XS.lload X0.here hx rfl (hb hby at_14) rfl zk) ?_
  refine own_st (fun zw zk => XS.lload X0.here hx rfl (hb hby at_16) rfl zk) ?_
  refine own_st (fun zw zk => XS.ladd X0.here hx rfl (hb hby at_18) rfl zk) ?_
  refine own_st (fun zw zk => XS.lstore X0.here hx rfl (hb hby at_19) rfl rfl zk) ?_
  show own_Go p e below G (s₁.setTop (mkF m 21 #[.val (.long q0), .second, .val (.long q1), .second, .val (.long q2), .second, .val (.long q3), .second, .val (.int p4), .val (.long tA), .second, .val (.long g0), .second, .val (.long (tA + g0)), .second, .unset, .unset, .unset, .unset, .unset, .unset, .unset, .unset, .unset, .unset, .unset, .unset, .unset, .unset, .unset, .unset, .unset, .unset, .unset, .unset, .unset, .unset, .unset, .unset, .unset, .unset, .unset, .unset] []))
  generalize htB : (tA + g0) = tB
  have rB : tB.toInt = tA.toInt + g0.toInt := by rw [← htB]; exact own_sumB rA rg
  refine own_st (fun zw zk => XS.lload X0.here hx rfl (hb hby at_21) rfl zk) ?_
  refine own_st (fun zw zk => XS.lconst X0.here hx rfl (hb hby at_23) zk) ?_
  refine own_st (fun zw zk => XS.ladd X0.here hx rfl (hb hby at_24) rfl zk) ?_
  refine own_st (fun zw zk => XS.lloadN X0.here hx rfl (hb hby at_25) rfl zk) ?_
  refine own_st (fun zw zk => XS.bipush X0.here hx rfl (hb hby at_26) zk) ?_
  refine own_st (fun zw zk => XS.lushr X0.here hx rfl (hb hby at_28) rfl zk) ?_
  refine own_st (fun zw zk => X0.ldc2Long hx hown (mvT hZ (hw _ (List.mem_of_getElem? (i := 0) rfl))) (g := (mkF m 29 #[.val (.long q0), .second, .val (.long q1), .second, .val (.long q2), .second, .val (.long q3), .second, .val (.int p4), .val (.long tA), .second, .val (.long g0), .second, .val (.long tB), .second, .unset, .unset, .unset, .unset, .unset, .unset, .unset, .unset, .unset, .unset, .unset, .unset, .unset, .unset, .unset, .unset, .unset, .unset, .unset, .unset, .unset, .unset, .unset, .unset, .unset, .unset, .unset, .unset] [(.long ((q1.toUInt64 >>> ((8 : Int32) &&& 0x3f).toInt64.toUInt64).toInt64)), (.long (tB + (1 : Int64)))])) rfl (hb hby at_29) _ zk) ?_
  refine own_st (fun zw zk => XS.land X0.here hx rfl (hb hby at_32) rfl zk) ?_
  show own_Go p e below G (s₁.setTop (mkF m 33 #[.val (.long q0), .second, .val (.long q1), .second, .val (.long q2), .second, .val (.long q3), .second, .val (.int p4), .val (.long tA), .second, .val (.long g0), .second, .val (.long tB), .second, .unset, .unset, .unset, .unset, .unset, .unset, .unset, .unset, .unset, .unset, .unset, .unset, .unset, .unset, .unset, .unset, .unset, .unset, .unset, .unset, .unset, .unset, .unset, .unset, .unset, .unset, .unset, .unset] [(.long (((q1.toUInt64 >>> ((8 : Int32) &&& 0x3f).toInt64.toUInt64).toInt64) &&& (127 : Int64))), (.long (tB + (1 : Int64)))]))
  refine own_st (fun zw zk => XS.ladd X0.here hx rfl (hb hby at_33) rfl zk) ?_
  refine own_st (fun zw zk => XS.lstore X0.here hx rfl (hb hby at_34) rfl rfl zk) ?_
  show own_Go p e below G (s₁.setTop (mkF m 36 #[.val (.long q0), .second, .val (.long q1), .second, .val (.long q2), .second, .val (.long q3), .second, .val (.int p4), .val (.long tA), .second, .val (.long g0), .second, .val (.long tB), .second, .val (.long ((tB + (1 : Int64)) + (((q1.toUInt64 >>> ((8 : Int32) &&& 0x3f).toInt64.toUInt64).toInt64) &&& (127 : Int64)))), .second, .unset, .unset, .unset, .unset, .unset, .unset, .unset, .unset, .unset, .unset, .unset, .unset, .unset, .unset, .unset, .unset, .unset, .unset, .unset, .unset, .unset, .unset, .unset, .unset, .unset, .unset] []))
  generalize htC : ((tB + (1 : Int64)) + (((q1.toUInt64 >>> ((8 : Int32) &&& 0x3f).toInt64.toUInt64).toInt64) &&& (127 : Int64))) = tC
  have rC := own_inc (t := tB) ((q1.toUInt64 >>> ((8 : Int32) &&& 0x3f).toInt64.toUInt64).toInt64) (by omega)
  rw [htC] at rC
  refine own_st (fun zw zk => XS.lload X0.here hx rfl (hb hby at_36) rfl zk) ?_
  refine own_st (fun zw zk => XS.lconst X0.here hx rfl (hb hby at_38) zk) ?_
  refine own_st (fun zw zk => XS.ladd X0.here hx rfl (hb hby at_39) rfl zk) ?_
  refine own_st (fun zw zk => XS.lloadN X0.here hx rfl (hb hby at_40) rfl zk) ?_
  refine own_st (fun zw zk => XS.bipush X0.here hx rfl (hb hby at_41) zk) ?_
  refine own_st (fun zw zk => XS.lushr X0.here hx rfl (hb hby at_43) rfl zk) ?_
  refine own_st (fun zw zk => X0.ldc2Long hx hown (mvT hZ (hw _ (List.mem_of_getElem? (i := 0) rfl))) (g := (mkF m 44 #[.val (.long q0), .second, .val (.long q1), .second, .val (.long q2), .second, .val (.long q3), .second, .val (.int p4), .val (.long tA), .second, .val (.long g0), .second, .val (.long tB), .second, .val (.long tC), .second, .unset, .unset, .unset, .unset, .unset, .unset, .unset, .unset, .unset, .unset, .unset, .unset, .unset, .unset, .unset, .unset, .unset, .unset, .unset, .unset, .unset, .unset, .unset, .unset, .unset, .unset] [(.long ((q1.toUInt64 >>> ((16 : Int32) &&& 0x3f).toInt64.toUInt64).toInt64)), (.long (tC + (1 : Int64)))])) rfl (hb hby at_44) _ zk) ?_
  refine own_st (fun zw zk => XS.land X0.here hx rfl (hb hby at_47) rfl zk) ?_
  show own_Go p e below G (s₁.setTop (mkF m 48 #[.val (.long q0), .second, .val (.long q1), .second, .val (.long q2), .second, .val (.long q3), .second, .val (.int p4), .val (.long tA), .second, .val (.long g0), .second, .val (.long tB), .second, .val (.long tC), .second, .unset, .unset, .unset, .unset, .unset, .unset, .unset, .unset, .unset, .unset, .unset, .unset, .unset, .unset, .unset, .unset, .unset, .unset, .unset, .unset, .unset, .unset, .unset, .unset, .unset, .unset] [(.long (((q1.toUInt64 >>> ((16 : Int32) &&& 0x3f).toInt64.toUInt64).toInt64) &&& (127 : Int64))), (.long (tC + (1 : Int64)))]))
  refine own_st (fun zw zk => XS.ladd X0.here hx rfl (hb hby at_48) rfl zk) ?_
  refine own_st (fun zw zk => XS.lstore X0.here hx rfl (hb hby at_49) rfl rfl zk) ?_
  show own_Go p e below G (s₁.setTop (mkF m 51 #[.val (.long q0), .second, .val (.long q1), .second, .val (.long q2), .second, .val (.long q3), .second, .val (.int p4), .val (.long tA), .second, .val (.long g0), .second, .val (.long tB), .second, .val (.long tC), .second, .val (.long ((tC + (1 : Int64)) + (((q1.toUInt64 >>> ((16 : Int32) &&& 0x3f).toInt64.toUInt64).toInt64) &&& (127 : Int64)))), .second, .unset, .unset, .unset, .unset, .unset, .unset, .unset, .unset, .unset, .unset, .unset, .unset, .unset, .unset, .unset, .unset, .unset, .unset, .unset, .unset, .unset, .unset, .unset, .unset] []))
  generalize htD : ((tC + (1 : Int64)) + (((q1.toUInt64 >>> ((16 : Int32) &&& 0x3f).toInt64.toUInt64).toInt64) &&& (127 : Int64))) = tD
  have rD := own_inc (t := tC) ((q1.toUInt64 >>> ((16 : Int32) &&& 0x3f).toInt64.toUInt64).toInt64) (by omega)
  rw [htD] at rD
  refine own_st (fun zw zk => XS.lload X0.here hx rfl (hb hby at_51) rfl zk) ?_
  refine own_st (fun zw zk => XS.lconst X0.here hx rfl (hb hby at_53) zk) ?_
  refine own_st (fun zw zk => XS.ladd X0.here hx rfl (hb hby at_54) rfl zk) ?_
  refine own_st (fun zw zk => XS.lloadN X0.here hx rfl (hb hby at_55) rfl zk) ?_
  refine own_st (fun zw zk => XS.bipush X0.here hx rfl (hb hby at_56) zk) ?_
  refine own_st (fun zw zk => XS.lushr X0.here hx rfl (hb hby at_58) rfl zk) ?_
  refine own_st (fun zw zk => X0.ldc2Long hx hown (mvT hZ (hw _ (List.mem_of_getElem? (i := 0) rfl))) (g := (mkF m 59 #[.val (.long q0), .second, .val (.long q1), .second, .val (.long q2), .second, .val (.long q3), .second, .val (.int p4), .val (.long tA), .second, .val (.long g0), .second, .val (.long tB), .second, .val (.long tC), .second, .val (.long tD), .second, .unset, .unset, .unset, .unset, .unset, .unset, .unset, .unset, .unset, .unset, .unset, .unset, .unset, .unset, .unset, .unset, .unset, .unset, .unset, .unset, .unset, .unset, .unset, .unset] [(.long ((q1.toUInt64 >>> ((24 : Int32) &&& 0x3f).toInt64.toUInt64).toInt64)), (.long (tD + (1 : Int64)))])) rfl (hb hby at_59) _ zk) ?_
  refine own_st (fun zw zk => XS.land X0.here hx rfl (hb hby at_62) rfl zk) ?_
  show own_Go p e below G (s₁.setTop (mkF m 63 #[.val (.long q0), .second, .val (.long q1), .second, .val (.long q2), .second, .val (.long q3), .second, .val (.int p4), .val (.long tA), .second, .val (.long g0), .second, .val (.long tB), .second, .val (.long tC), .second, .val (.long tD), .second, .unset, .unset, .unset, .unset, .unset, .unset, .unset, .unset, .unset, .unset, .unset, .unset, .unset, .unset, .unset, .unset, .unset, .unset, .unset, .unset, .unset, .unset, .unset, .unset] [(.long (((q1.toUInt64 >>> ((24 : Int32) &&& 0x3f).toInt64.toUInt64).toInt64) &&& (127 : Int64))), (.long (tD + (1 : Int64)))]))
  refine own_st (fun zw zk => XS.ladd X0.here hx rfl (hb hby at_63) rfl zk) ?_
  refine own_st (fun zw zk => XS.lstore X0.here hx rfl (hb hby at_64) rfl rfl zk) ?_
  show own_Go p e below G (s₁.setTop (mkF m 66 #[.val (.long q0), .second, .val (.long q1), .second, .val (.long q2), .second, .val (.long q3), .second, .val (.int p4), .val (.long tA), .second, .val (.long g0), .second, .val (.long tB), .second, .val (.long tC), .second, .val (.long tD), .second, .val (.long ((tD + (1 : Int64)) + (((q1.toUInt64 >>> ((24 : Int32) &&& 0x3f).toInt64.toUInt64).toInt64) &&& (127 : Int64)))), .second, .unset, .unset, .unset, .unset, .unset, .unset, .unset, .unset, .unset, .unset, .unset, .unset, .unset, .unset, .unset, .unset, .unset, .unset, .unset, .unset, .unset, .unset] []))
  generalize htE : ((tD + (1 : Int64)) + (((q1.toUInt64 >>> ((24 : Int32) &&& 0x3f).toInt64.toUInt64).toInt64) &&& (127 : Int64))) = tE
  have rE := own_inc (t := tD) ((q1.toUInt64 >>> ((24 : Int32) &&& 0x3f).toInt64.toUInt64).toInt64) (by omega)
  rw [htE] at rE
  refine own_st (fun zw zk => XS.lload X0.here hx rfl (hb hby at_66) rfl zk) ?_
  refine own_st (fun zw zk => XS.lloadN X0.here hx rfl (hb hby at_68) rfl zk) ?_
  refine own_st (fun zw zk => XS.bipush X0.here hx rfl (hb hby at_69) zk) ?_
  refine own_st (fun zw zk => XS.lushr X0.here hx rfl (hb hby at_71) rfl zk) ?_
  refine own_st (fun zw zk => X0.ldc2Long hx hown (mvT hZ (hw _ (List.mem_of_getElem? (i := 0) rfl))) (g := (mkF m 72 #[.val (.long q0), .second, .val (.long q1), .second, .val (.long q2), .second, .val (.long q3), .second, .val (.int p4), .val (.long tA), .second, .val (.long g0), .second, .val (.long tB), .second, .val (.long tC), .second, .val (.long tD), .second, .val (.long tE), .second, .unset, .unset, .unset, .unset, .unset, .unset, .unset, .unset, .unset, .unset, .unset, .unset, .unset, .unset, .unset, .unset, .unset, .unset, .unset, .unset, .unset, .unset] [(.long ((q1.toUInt64 >>> ((32 : Int32) &&& 0x3f).toInt64.toUInt64).toInt64)), (.long tA)])) rfl (hb hby at_72) _ zk) ?_
  refine own_st (fun zw zk => XS.land X0.here hx rfl (hb hby at_75) rfl zk) ?_
  refine own_st (fun zw zk => XS.lload X0.here hx rfl (hb hby at_76) rfl zk) ?_
  refine own_st (fun zw zk => XS.lrem X0.here hx rfl (hb hby at_78) rfl (own_nzg rg) zk) ?_
  show own_Go p e below G (s₁.setTop (mkF m 79 #[.val (.long q0), .second, .val (.long q1), .second, .val (.long q2), .second, .val (.long q3), .second, .val (.int p4), .val (.long tA), .second, .val (.long g0), .second, .val (.long tB), .second, .val (.long tC), .second, .val (.long tD), .second, .val (.long tE), .second, .unset, .unset, .unset, .unset, .unset, .unset, .unset, .unset, .unset, .unset, .unset, .unset, .unset, .unset, .unset, .unset, .unset, .unset, .unset, .unset, .unset, .unset] [(.long ((((q1.toUInt64 >>> ((32 : Int32) &&& 0x3f).toInt64.toUInt64).toInt64) &&& (127 : Int64)) - ((((q1.toUInt64 >>> ((32 : Int32) &&& 0x3f).toInt64.toUInt64).toInt64) &&& (127 : Int64)) / g0) * g0)), (.long tA)]))
  refine own_st (fun zw zk => XS.ladd X0.here hx rfl (hb hby at_79) rfl zk) ?_
  refine own_st (fun zw zk => XS.lstore X0.here hx rfl (hb hby at_80) rfl rfl zk) ?_
  show own_Go p e below G (s₁.setTop (mkF m 82 #[.val (.long q0), .second, .val (.long q1), .second, .val (.long q2), .second, .val (.long q3), .second, .val (.int p4), .val (.long tA), .second, .val (.long g0), .second, .val (.long tB), .second, .val (.long tC), .second, .val (.long tD), .second, .val (.long tE), .second, .val (.long (tA + ((((q1.toUInt64 >>> ((32 : Int32) &&& 0x3f).toInt64.toUInt64).toInt64) &&& (127 : Int64)) - ((((q1.toUInt64 >>> ((32 : Int32) &&& 0x3f).toInt64.toUInt64).toInt64) &&& (127 : Int64)) / g0) * g0))), .second, .unset, .unset, .unset, .unset, .unset, .unset, .unset, .unset, .unset, .unset, .unset, .unset, .unset, .unset, .unset, .unset, .unset, .unset, .unset, .unset] []))
  generalize hpp : (tA + ((((q1.toUInt64 >>> ((32 : Int32) &&& 0x3f).toInt64.toUInt64).toInt64) &&& (127 : Int64)) - ((((q1.toUInt64 >>> ((32 : Int32) &&& 0x3f).toInt64.toUInt64).toInt64) &&& (127 : Int64)) / g0) * g0)) = pp
  have rp := own_pp (t := tA) (g := g0) ((q1.toUInt64 >>> ((32 : Int32) &&& 0x3f).toInt64.toUInt64).toInt64) rA rg
  rw [hpp] at rp
  have hAB' := own_neI (a := tA) (b := tB) (by omega)
  have hBC' := own_neI (a := tB) (b := tC) (by omega)
  have hCD' := own_neI (a := tC) (b := tD) (by omega)
  have hDE' := own_neI (a := tD) (b := tE) (by omega)
  have hAp := own_leI (a := tA) (b := pp) (by omega)
  have hpB := own_ltI (a := pp) (b := tB) (by omega)
  refine own_st (fun zw zk => XS.iconst X0.here hx rfl (hb hby at_82) zk) ?_
  refine own_st (fun zw zk => XS.iload X0.here hx rfl (hb hby at_83) rfl zk) ?_
  refine own_st (fun zw zk => XS.bipush X0.here hx rfl (hb hby at_85) zk) ?_
  refine own_st (fun zw zk => XS.iushr X0.here hx rfl (hb hby at_87) rfl zk) ?_
  refine own_st (fun zw zk => XS.sipush X0.here hx rfl (hb hby at_88) zk) ?_
  refine own_st (fun zw zk => XS.iand X0.here hx rfl (hb hby at_91) rfl zk) ?_
  refine own_st (fun zw zk => XS.iadd X0.here hx rfl (hb hby at_92) rfl zk) ?_
  refine own_st (fun zw zk => XS.i2l X0.here hx rfl (hb hby at_93) rfl zk) ?_
  show own_Go p e below G (s₁.setTop (mkF m 94 #[.val (.long q0), .second, .val (.long q1), .second, .val (.long q2), .second, .val (.long q3), .second, .val (.int p4), .val (.long tA), .second, .val (.long g0), .second, .val (.long tB), .second, .val (.long tC), .second, .val (.long tD), .second, .val (.long tE), .second, .val (.long pp), .second, .unset, .unset, .unset, .unset, .unset, .unset, .unset, .unset, .unset, .unset, .unset, .unset, .unset, .unset, .unset, .unset, .unset, .unset, .unset, .unset] [(.long (((1 : Int32) + (((p4.toUInt32 >>> ((8 : Int32) &&& 31).toUInt32).toInt32) &&& (255 : Int32))).toInt64))]))
  refine own_st (fun zw zk => XS.lstore X0.here hx rfl (hb hby at_94) rfl rfl zk) ?_
  show own_Go p e below G (s₁.setTop (mkF m 96 #[.val (.long q0), .second, .val (.long q1), .second, .val (.long q2), .second, .val (.long q3), .second, .val (.int p4), .val (.long tA), .second, .val (.long g0), .second, .val (.long tB), .second, .val (.long tC), .second, .val (.long tD), .second, .val (.long tE), .second, .val (.long pp), .second, .val (.long (((1 : Int32) + (((p4.toUInt32 >>> ((8 : Int32) &&& 31).toUInt32).toInt32) &&& (255 : Int32))).toInt64)), .second, .unset, .unset, .unset, .unset, .unset, .unset, .unset, .unset, .unset, .unset, .unset, .unset, .unset, .unset, .unset, .unset, .unset, .unset] []))
  generalize hcA : (((1 : Int32) + (((p4.toUInt32 >>> ((8 : Int32) &&& 31).toUInt32).toInt32) &&& (255 : Int32))).toInt64) = cA
  refine own_st (fun zw zk => XS.lconst X0.here hx rfl (hb hby at_96) zk) ?_
  refine own_st (fun zw zk => XS.lload X0.here hx rfl (hb hby at_97) rfl zk) ?_
  refine own_st (fun zw zk => X0.ldc2Long hx hown (mvT hZ (hw _ (List.mem_of_getElem? (i := 1) rfl))) (g := (mkF m 99 #[.val (.long q0), .second, .val (.long q1), .second, .val (.long q2), .second, .val (.long q3), .second, .val (.int p4), .val (.long tA), .second, .val (.long g0), .second, .val (.long tB), .second, .val (.long tC), .second, .val (.long tD), .second, .val (.long tE), .second, .val (.long pp), .second, .val (.long cA), .second, .unset, .unset, .unset, .unset, .unset, .unset, .unset, .unset, .unset, .unset, .unset, .unset, .unset, .unset, .unset, .unset, .unset, .unset] [(.long q2), (.long (1 : Int64))])) rfl (hb hby at_99) _ zk) ?_
  refine own_st (fun zw zk => XS.land X0.here hx rfl (hb hby at_102) rfl zk) ?_
  refine own_st (fun zw zk => XS.ladd X0.here hx rfl (hb hby at_103) rfl zk) ?_
  refine own_st (fun zw zk => XS.lstore X0.here hx rfl (hb hby at_104) rfl rfl zk) ?_
  show own_Go p e below G (s₁.setTop (mkF m 106 #[.val (.long q0), .second, .val (.long q1), .second, .val (.long q2), .second, .val (.long q3), .second, .val (.int p4), .val (.long tA), .second, .val (.long g0), .second, .val (.long tB), .second, .val (.long tC), .second, .val (.long tD), .second, .val (.long tE), .second, .val (.long pp), .second, .val (.long cA), .second, .val (.long ((1 : Int64) + (q2 &&& (65535 : Int64)))), .second, .unset, .unset, .unset, .unset, .unset, .unset, .unset, .unset, .unset, .unset, .unset, .unset, .unset, .unset, .unset, .unset] []))
  generalize hcB : ((1 : Int64) + (q2 &&& (65535 : Int64))) = cB
  have h1_cB : ¬ (cB < (1 : Int64)) := by rw [← hcB]; exact own_cnt _
  refine own_st (fun zw zk => XS.lconst X0.here hx rfl (hb hby at_106) zk) ?_
  refine own_st (fun zw zk => XS.lload X0.here hx rfl (hb hby at_107) rfl zk) ?_
  refine own_st (fun zw zk => XS.bipush X0.here hx rfl (hb hby at_109) zk) ?_
  refine own_st (fun zw zk => XS.lushr X0.here hx rfl (hb hby at_111) rfl zk) ?_
  refine own_st (fun zw zk => X0.ldc2Long hx hown (mvT hZ (hw _ (List.mem_of_getElem? (i := 1) rfl))) (g := (mkF m 112 #[.val (.long q0), .second, .val (.long q1), .second, .val (.long q2), .second, .val (.long q3), .second, .val (.int p4), .val (.long tA), .second, .val (.long g0), .second, .val (.long tB), .second, .val (.long tC), .second, .val (.long tD), .second, .val (.long tE), .second, .val (.long pp), .second, .val (.long cA), .second, .val (.long cB), .second, .unset, .unset, .unset, .unset, .unset, .unset, .unset, .unset, .unset, .unset, .unset, .unset, .unset, .unset, .unset, .unset] [(.long ((q2.toUInt64 >>> ((16 : Int32) &&& 0x3f).toInt64.toUInt64).toInt64)), (.long (1 : Int64))])) rfl (hb hby at_112) _ zk) ?_
  refine own_st (fun zw zk => XS.land X0.here hx rfl (hb hby at_115) rfl zk) ?_
  refine own_st (fun zw zk => XS.ladd X0.here hx rfl (hb hby at_116) rfl zk) ?_
  refine own_st (fun zw zk => XS.lstore X0.here hx rfl (hb hby at_117) rfl rfl zk) ?_
  show own_Go p e below G (s₁.setTop (mkF m 119 #[.val (.long q0), .second, .val (.long q1), .second, .val (.long q2), .second, .val (.long q3), .second, .val (.int p4), .val (.long tA), .second, .val (.long g0), .second, .val (.long tB), .second, .val (.long tC), .second, .val (.long tD), .second, .val (.long tE), .second, .val (.long pp), .second, .val (.long cA), .second, .val (.long cB), .second, .val (.long ((1 : Int64) + (((q2.toUInt64 >>> ((16 : Int32) &&& 0x3f).toInt64.toUInt64).toInt64) &&& (65535 : Int64)))), .second, .unset, .unset, .unset, .unset, .unset, .unset, .unset, .unset, .unset, .unset, .unset, .unset, .unset, .unset] []))
  generalize hcC : ((1 : Int64) + (((q2.toUInt64 >>> ((16 : Int32) &&& 0x3f).toInt64.toUInt64).toInt64) &&& (65535 : Int64))) = cC
  have h1_cC : ¬ (cC < (1 : Int64)) := by rw [← hcC]; exact own_cnt _
  refine own_st (fun zw zk => XS.lconst X0.here hx rfl (hb hby at_119) zk) ?_
  refine own_st (fun zw zk => XS.lload X0.here hx rfl (hb hby at_120) rfl zk) ?_
  refine own_st (fun zw zk => XS.bipush X0.here hx rfl (hb hby at_122) zk) ?_
  refine own_st (fun zw zk => XS.lushr X0.here hx rfl (hb hby at_124) rfl zk) ?_
  refine own_st (fun zw zk => X0.ldc2Long hx hown (mvT hZ (hw _ (List.mem_of_getElem? (i := 1) rfl))) (g := (mkF m 125 #[.val (.long q0), .second, .val (.long q1), .second, .val (.long q2), .second, .val (.long q3), .second, .val (.int p4), .val (.long tA), .second, .val (.long g0), .second, .val (.long tB), .second, .val (.long tC), .second, .val (.long tD), .second, .val (.long tE), .second, .val (.long pp), .second, .val (.long cA), .second, .val (.long cB), .second, .val (.long cC), .second, .unset, .unset, .unset, .unset, .unset, .unset, .unset, .unset, .unset, .unset, .unset, .unset, .unset, .unset] [(.long ((q2.toUInt64 >>> ((32 : Int32) &&& 0x3f).toInt64.toUInt64).toInt64)), (.long (1 : Int64))])) rfl (hb hby at_125) _ zk) ?_
  refine own_st (fun zw zk => XS.land X0.here hx rfl (hb hby at_128) rfl zk) ?_
  refine own_st (fun zw zk => XS.ladd X0.here hx rfl (hb hby at_129) rfl zk) ?_
  refine own_st (fun zw zk => XS.lstore X0.here hx rfl (hb hby at_130) rfl rfl zk) ?_
  show own_Go p e below G (s₁.setTop (mkF m 132 #[.val (.long q0), .second, .val (.long q1), .second, .val (.long q2), .second, .val (.long q3), .second, .val (.int p4), .val (.long tA), .second, .val (.long g0), .second, .val (.long tB), .second, .val (.long tC), .second, .val (.long tD), .second, .val (.long tE), .second, .val (.long pp), .second, .val (.long cA), .second, .val (.long cB), .second, .val (.long cC), .second, .val (.long ((1 : Int64) + (((q2.toUInt64 >>> ((32 : Int32) &&& 0x3f).toInt64.toUInt64).toInt64) &&& (65535 : Int64)))), .second, .unset, .unset, .unset, .unset, .unset, .unset, .unset, .unset, .unset, .unset, .unset, .unset] []))
  generalize hcD : ((1 : Int64) + (((q2.toUInt64 >>> ((32 : Int32) &&& 0x3f).toInt64.toUInt64).toInt64) &&& (65535 : Int64))) = cD
  have h1_cD : ¬ (cD < (1 : Int64)) := by rw [← hcD]; exact own_cnt _
  refine own_st (fun zw zk => XS.lconst X0.here hx rfl (hb hby at_132) zk) ?_
  refine own_st (fun zw zk => XS.lload X0.here hx rfl (hb hby at_133) rfl zk) ?_
  refine own_st (fun zw zk => XS.bipush X0.here hx rfl (hb hby at_135) zk) ?_
  refine own_st (fun zw zk => XS.lushr X0.here hx rfl (hb hby at_137) rfl zk) ?_
  refine own_st (fun zw zk => X0.ldc2Long hx hown (mvT hZ (hw _ (List.mem_of_getElem? (i := 1) rfl))) (g := (mkF m 138 #[.val (.long q0), .second, .val (.long q1), .second, .val (.long q2), .second, .val (.long q3), .second, .val (.int p4), .val (.long tA), .second, .val (.long g0), .second, .val (.long tB), .second, .val (.long tC), .second, .val (.long tD), .second, .val (.long tE), .second, .val (.long pp), .second, .val (.long cA), .second, .val (.long cB), .second, .val (.long cC), .second, .val (.long cD), .second, .unset, .unset, .unset, .unset, .unset, .unset, .unset, .unset, .unset, .unset, .unset, .unset] [(.long ((q2.toUInt64 >>> ((48 : Int32) &&& 0x3f).toInt64.toUInt64).toInt64)), (.long (1 : Int64))])) rfl (hb hby at_138) _ zk) ?_
  refine own_st (fun zw zk => XS.land X0.here hx rfl (hb hby at_141) rfl zk) ?_
  refine own_st (fun zw zk => XS.ladd X0.here hx rfl (hb hby at_142) rfl zk) ?_
  refine own_st (fun zw zk => XS.lstore X0.here hx rfl (hb hby at_143) rfl rfl zk) ?_
  show own_Go p e below G (s₁.setTop (mkF m 145 #[.val (.long q0), .second, .val (.long q1), .second, .val (.long q2), .second, .val (.long q3), .second, .val (.int p4), .val (.long tA), .second, .val (.long g0), .second, .val (.long tB), .second, .val (.long tC), .second, .val (.long tD), .second, .val (.long tE), .second, .val (.long pp), .second, .val (.long cA), .second, .val (.long cB), .second, .val (.long cC), .second, .val (.long cD), .second, .val (.long ((1 : Int64) + (((q2.toUInt64 >>> ((48 : Int32) &&& 0x3f).toInt64.toUInt64).toInt64) &&& (65535 : Int64)))), .second, .unset, .unset, .unset, .unset, .unset, .unset, .unset, .unset, .unset, .unset] []))
  generalize hcE : ((1 : Int64) + (((q2.toUInt64 >>> ((48 : Int32) &&& 0x3f).toInt64.toUInt64).toInt64) &&& (65535 : Int64))) = cE
  have h1_cE : ¬ (cE < (1 : Int64)) := by rw [← hcE]; exact own_cnt _
  have J167_288 : ∀ (qq : Int64), own_Go p e below G (s₁.setTop (mkF m 167 #[.val (.long q0), .second, .val (.long q1), .second, .val (.long q2), .second, .val (.long q3), .second, .val (.int p4), .val (.long tA), .second, .val (.long g0), .second, .val (.long tB), .second, .val (.long tC), .second, .val (.long tD), .second, .val (.long tE), .second, .val (.long pp), .second, .val (.long cA), .second, .val (.long cB), .second, .val (.long cC), .second, .val (.long cD), .second, .val (.long cE), .second, .val (.long qq), .second, .unset, .unset, .unset, .unset, .unset, .unset, .unset, .unset] [])) := by
    intro qq
    obtain ⟨T289, h289, X289, e289, E289, A289, D289, -, st289⟩ := newO X0 hx hZ hown (hw _ (List.mem_of_getElem? (i := 2) rfl)) (hw _ (List.mem_of_getElem? (i := 3) rfl)) (hw _ (List.mem_of_getElem? (i := 4) rfl)) e0 (g := (mkF m 167 #[.val (.long q0), .second, .val (.long q1), .second, .val (.long q2), .second, .val (.long q3), .second, .val (.int p4), .val (.long tA), .second, .val (.long g0), .second, .val (.long tB), .second, .val (.long tC), .second, .val (.long tD), .second, .val (.long tE), .second, .val (.long pp), .second, .val (.long cA), .second, .val (.long cB), .second, .val (.long cC), .second, .val (.long cD), .second, .val (.long cE), .second, .val (.long qq), .second, .unset, .unset, .unset, .unset, .unset, .unset, .unset, .unset] [])) rfl (hb hby at_167) (by decide) (by decide)
    obtain ⟨b289, g289⟩ : ∃ z, z = h0.size := ⟨_, rfl⟩
    rw [← g289] at A289 D289 st289
    have G289 : n0 ≤ b289 := Nat.le_trans Z0 (Nat.le_of_eq g289.symm)
    have Z289 : n0 ≤ h289.size := Nat.le_trans Z0 E289.1
    have Fb289entries : Fld Z h289 b289 "com/example/headroom/headroom/SlidingLog$Log" "entries" "[J" .null := D289 (Or.inl (hw _ (List.mem_of_getElem? (i := 18) rfl))) (ty := (.array .long)) (by decide)
    have Fb289admitted : Fld Z h289 b289 "com/example/headroom/headroom/SlidingLog$Log" "admitted" "J" (.long (0 : Int64)) := D289 (Or.inl (hw _ (List.mem_of_getElem? (i := 25) rfl))) (ty := .long) (by decide)
    have Fb289size : Fld Z h289 b289 "com/example/headroom/headroom/SlidingLog$Log" "size" "I" (.int (0 : Int32)) := D289 (Or.inl (hw _ (List.mem_of_getElem? (i := 27) rfl))) (ty := .int) (by decide)
    have Fb289first : Fld Z h289 b289 "com/example/headroom/headroom/SlidingLog$Log" "first" "I" (.int (0 : Int32)) := D289 (Or.inl (hw _ (List.mem_of_getElem? (i := 33) rfl))) (ty := .int) (by decide)
    refine own_st (fun zw zk => st289 zw zk) ?_
    refine own_st (fun zw zk => XS.dup X289.here hx rfl (hb hby at_170) rfl rfl zk) ?_
    obtain ⟨_, _, ⟨T290, L290, k290, n290⟩, -, X290, ⟨Lc290, hQ290, l290, y290, z290⟩, st290⟩ := X289.specialBack hx (y := (⟨"com/example/headroom/headroom/SlidingLog$Log", "<init>", "()V"⟩ : MethodName)) rfl hown (mvT hZ (hw _ (List.mem_of_getElem? (i := 5) rfl))) (mvT hZ (hw _ (List.mem_of_getElem? (i := 6) rfl))) (mvT hZ (hw _ (List.mem_of_getElem? (i := 7) rfl))) (by decide) (backOf (W := 1) (rm1 l Z a0 hw [] b289 h289 n0 Z289 (A289) (Fb289entries) (Fb289first) (Fb289size) (Fb289admitted) (G289)) hZ (hw _ (List.mem_of_getElem? (i := 7) rfl)) (hw _ (List.mem_of_getElem? (i := 4) rfl)) (by decide) (by decide)) (g := (mkF m 171 #[.val (.long q0), .second, .val (.long q1), .second, .val (.long q2), .second, .val (.long q3), .second, .val (.int p4), .val (.long tA), .second, .val (.long g0), .second, .val (.long tB), .second, .val (.long tC), .second, .val (.long tD), .second, .val (.long tE), .second, .val (.long pp), .second, .val (.long cA), .second, .val (.long cB), .second, .val (.long cC), .second, .val (.long cD), .second, .val (.long cE), .second, .val (.long qq), .second, .unset, .unset, .unset, .unset, .unset, .unset, .unset, .unset] [(.ref b289), (.ref b289)])) rfl (by rw [hml]; rfl) (Steps.refl _) (a := b289) (argsL := []) (rest := [(.ref b289)]) (lenOf pd_0 rfl) rfl (by show 2 * 0 + _ ≤ _; exact Nat.le_of_eq rfl) (hb hby at_171) (fun _ _ => ⟨rfl, e289, (by decide : 1 + 1 ≤ _), (by decide : 5 + 2 ≤ _)⟩)
    dsimp only [Pt.U, Pt.locs, Pt.cells, Pt.slots] at X290 l290 y290 z290 st290 hQ290
    subst l290 y290 z290
    obtain ⟨rfl, N290q, tt290, sztt290, K290, O290_0, O290_1, O290_2, O290_3, O290_4, O290_5⟩ := hQ290
    have ne_b289_tt290 : b289 ≠ tt290 := Nat.ne_of_lt (Nat.lt_of_lt_of_le Fb289entries.lt sztt290)
    have Gtt290 : n0 ≤ tt290 := Nat.le_trans Z289 sztt290
    have Ab289_290 := A289.keep K290
    have Z290 : n0 ≤ T290.heap.size := Nat.le_trans Z289 K290.1
    have N290 := Fr.app N0 N290q
    refine own_jp st290 ?_
    refine own_st (fun zw zk => XS.astore X290.here hx rfl (hb hby at_174) rfl rfl rfl zk) ?_
    show own_Go p e below G (T290.setTop (mkF m 176 #[.val (.long q0), .second, .val (.long q1), .second, .val (.long q2), .second, .val (.long q3), .second, .val (.int p4), .val (.long tA), .second, .val (.long g0), .second, .val (.long tB), .second, .val (.long tC), .second, .val (.long tD), .second, .val (.long tE), .second, .val (.long pp), .second, .val (.long cA), .second, .val (.long cB), .second, .val (.long cC), .second, .val (.long cD), .second, .val (.long cE), .second, .val (.long qq), .second, .val (.ref b289), .unset, .unset, .unset, .unset, .unset, .unset, .unset] []))
    refine own_st (fun zw zk => XS.aload X290.here hx rfl (hb hby at_176) rfl rfl zk) ?_
    refine own_st (fun zw zk => XS.lload X290.here hx rfl (hb hby at_178) rfl zk) ?_
    refine own_st (fun zw zk => XS.lload X290.here hx rfl (hb hby at_180) rfl zk) ?_
    obtain ⟨cq291, kq291, q291a, q291b, q291c⟩ := isOf hZ rfl O290_0
    obtain ⟨_, _, ⟨T291, L291, k291, n291⟩, -, X291, ⟨Lc291, hQ291, l291, y291, z291⟩, st291⟩ := X290.virtualBack hx (y := (⟨"com/example/headroom/headroom/SlidingLog$Log", "add", "(JJ)V"⟩ : MethodName)) (z := (⟨"com/example/headroom/headroom/SlidingLog$Log", "add", "(JJ)V"⟩ : MethodName)) hown (mvT hZ (hw _ (List.mem_of_getElem? (i := 19) rfl))) (mvT hZ (hw _ (List.mem_of_getElem? (i := 20) rfl))) (notFace_of_selects (args := #[]) (mvT hZ (hw _ (List.mem_of_getElem? (i := 22) rfl)))) (mvT hZ (hw _ (List.mem_of_getElem? (i := 22) rfl))) (mvT hZ (hw _ (List.mem_of_getElem? (i := 21) rfl))) (by decide) (backOf (W := 0) (rm_add_0_0_2 l Z a0 hw [] b289 tA cA tt290 (0 : Int64) (0 : Int64) (0 : Int64) T290.heap n0 Z290 (O290_0) (O290_1) (O290_2) (O290_3) (O290_4) (O290_5) (G289) (Gtt290) (ne_b289_tt290)) hZ (hw _ (List.mem_of_getElem? (i := 23) rfl)) (hw _ (List.mem_of_getElem? (i := 4) rfl)) (by decide) (by decide)) q291a q291c (g := (mkF m 182 #[.val (.long q0), .second, .val (.long q1), .second, .val (.long q2), .second, .val (.long q3), .second, .val (.int p4), .val (.long tA), .second, .val (.long g0), .second, .val (.long tB), .second, .val (.long tC), .second, .val (.long tD), .second, .val (.long tE), .second, .val (.long pp), .second, .val (.long cA), .second, .val (.long cB), .second, .val (.long cC), .second, .val (.long cD), .second, .val (.long cE), .second, .val (.long qq), .second, .val (.ref b289), .unset, .unset, .unset, .unset, .unset, .unset, .unset] [(.long cA), (.long tA), (.ref b289)])) rfl (by rw [hml]; rfl) (Steps.refl _) (argsL := [(.long tA), (.long cA)]) (rest := []) (lenOf pd_3 rfl) rfl (by show 2 * 0 + _ ≤ _; exact Nat.le_of_eq rfl) (hb hby at_182) (fun _ _ => ⟨rfl, rfl, (by decide : 2 + 0 ≤ _), (by decide : 7 + 0 ≤ _)⟩)
    dsimp only [Pt.U, Pt.locs, Pt.cells, Pt.slots] at X291 l291 y291 z291 st291 hQ291
    subst l291 y291 z291
    obtain ⟨rfl, N291q, K291, O291_0, O291_1, O291_2, O291_3, O291_4, O291_5⟩ := hQ291
    have Ob289E_291 := O290_0.keep K291
    have Z291 : n0 ≤ T291.heap.size := Nat.le_trans Z290 K291.1
    have N291 := Fr.app N290 N291q
    refine own_jp st291 ?_
    refine own_st (fun zw zk => XS.aload X291.here hx rfl (hb hby at_185) rfl rfl zk) ?_
    refine own_st (fun zw zk => XS.lload X291.here hx rfl (hb hby at_187) rfl zk) ?_
    refine own_st (fun zw zk => XS.lload X291.here hx rfl (hb hby at_189) rfl zk) ?_
    obtain ⟨cq292, kq292, q292a, q292b, q292c⟩ := isOf hZ rfl O291_0
    obtain ⟨_, _, ⟨T292, L292, k292, n292⟩, -, X292, ⟨Lc292, hQ292, l292, y292, z292⟩, st292⟩ := X291.virtualBack hx (y := (⟨"com/example/headroom/headroom/SlidingLog$Log", "add", "(JJ)V"⟩ : MethodName)) (z := (⟨"com/example/headroom/headroom/SlidingLog$Log", "add", "(JJ)V"⟩ : MethodName)) hown (mvT hZ (hw _ (List.mem_of_getElem? (i := 19) rfl))) (mvT hZ (hw _ (List.mem_of_getElem? (i := 20) rfl))) (notFace_of_selects (args := #[]) (mvT hZ (hw _ (List.mem_of_getElem? (i := 22) rfl)))) (mvT hZ (hw _ (List.mem_of_getElem? (i := 22) rfl))) (mvT hZ (hw _ (List.mem_of_getElem? (i := 21) rfl))) (by decide) (backOf (W := 0) (rm_add_0_1_2 l Z a0 hw [] b289 tB cB tt290 ((0 : Int64) + cA) tA cA T291.heap n0 Z291 (O291_0) (O291_1) (O291_2) (O291_3) (O291_4) (O291_5) (G289) (ne_b289_tt290) (hAB')) hZ (hw _ (List.mem_of_getElem? (i := 23) rfl)) (hw _ (List.mem_of_getElem? (i := 4) rfl)) (by decide) (by decide)) q292a q292c (g := (mkF m 191 #[.val (.long q0), .second, .val (.long q1), .second, .val (.long q2), .second, .val (.long q3), .second, .val (.int p4), .val (.long tA), .second, .val (.long g0), .second, .val (.long tB), .second, .val (.long tC), .second, .val (.long tD), .second, .val (.long tE), .second, .val (.long pp), .second, .val (.long cA), .second, .val (.long cB), .second, .val (.long cC), .second, .val (.long cD), .second, .val (.long cE), .second, .val (.long qq), .second, .val (.ref b289), .unset, .unset, .unset, .unset, .unset, .unset, .unset] [(.long cB), (.long tB), (.ref b289)])) rfl (by rw [hml]; rfl) (Steps.refl _) (argsL := [(.long tB), (.long cB)]) (rest := []) (lenOf pd_3 rfl) rfl (by show 2 * 0 + _ ≤ _; exact Nat.le_of_eq rfl) (hb hby at_191) (fun _ _ => ⟨rfl, rfl, (by decide : 2 + 1 ≤ _), (by decide : 7 + 4 ≤ _)⟩)
    dsimp only [Pt.U, Pt.locs, Pt.cells, Pt.slots] at X292 l292 y292 z292 st292 hQ292
    subst l292 y292 z292
    obtain ⟨rfl, N292q, tt292, sztt292, K292, O292_0, O292_1, O292_2, O292_3, O292_4, O292_5⟩ := hQ292
    have ne_b289_tt292 : b289 ≠ tt292 := Nat.ne_of_lt (Nat.lt_of_lt_of_le O291_0.lt sztt292)
    have ne_tt290_tt292 : tt290 ≠ tt292 := Nat.ne_of_lt (Nat.lt_of_lt_of_le O291_5.lt sztt292)
    have Gtt292 : n0 ≤ tt292 := Nat.le_trans Z291 sztt292
    have Ob289E_292 := O291_0.keep K292
    have Ott290L_292 := O291_5.keep K292 (ninS (Ne.symm ne_b289_tt290) nin0)
    have Z292 : n0 ≤ T292.heap.size := Nat.le_trans Z291 K292.1
    have N292 := Fr.app N291 N292q
    refine own_jp st292 ?_
    show own_Go p e below G (T292.setTop (mkF m 194 #[.val (.long q0), .second, .val (.long q1), .second, .val (.long q2), .second, .val (.long q3), .second, .val (.int p4), .val (.long tA), .second, .val (.long g0), .second, .val (.long tB), .second, .val (.long tC), .second, .val (.long tD), .second, .val (.long tE), .second, .val (.long pp), .second, .val (.long cA), .second, .val (.long cB), .second, .val (.long cC), .second, .val (.long cD), .second, .val (.long cE), .second, .val (.long qq), .second, .val (.ref b289), .unset, .unset, .unset, .unset, .unset, .unset, .unset] []))
    refine own_st (fun zw zk => XS.aload X292.here hx rfl (hb hby at_194) rfl rfl zk) ?_
    refine own_st (fun zw zk => XS.lload X292.here hx rfl (hb hby at_196) rfl zk) ?_
    refine own_st (fun zw zk => XS.lload X292.here hx rfl (hb hby at_198) rfl zk) ?_
    obtain ⟨cq293, kq293, q293a, q293b, q293c⟩ := isOf hZ rfl O292_0
    obtain ⟨_, _, ⟨T293, L293, k293, n293⟩, -, X293, ⟨Lc293, hQ293, l293, y293, z293⟩, st293⟩ := X292.virtualBack hx (y := (⟨"com/example/headroom/headroom/SlidingLog$Log", "add", "(JJ)V"⟩ : MethodName)) (z := (⟨"com/example/headroom/headroom/SlidingLog$Log", "add", "(JJ)V"⟩ : MethodName)) hown (mvT hZ (hw _ (List.mem_of_getElem? (i := 19) rfl))) (mvT hZ (hw _ (List.mem_of_getElem? (i := 20) rfl))) (notFace_of_selects (args := #[]) (mvT hZ (hw _ (List.mem_of_getElem? (i := 22) rfl)))) (mvT hZ (hw _ (List.mem_of_getElem? (i := 22) rfl))) (mvT hZ (hw _ (List.mem_of_getElem? (i := 21) rfl))) (by decide) (backOf (W := 0) (rm_add_0_2_4 l Z a0 hw [] b289 tC cC tt292 (((0 : Int64) + cA) + cB) tA cA tB cB T292.heap n0 Z292 (O292_0) (O292_1) (O292_2) (O292_3) (O292_4) (O292_5) (G289) (ne_b289_tt292) (hBC')) hZ (hw _ (List.mem_of_getElem? (i := 23) rfl)) (hw _ (List.mem_of_getElem? (i := 4) rfl)) (by decide) (by decide)) q293a q293c (g := (mkF m 200 #[.val (.long q0), .second, .val (.long q1), .second, .val (.long q2), .second, .val (.long q3), .second, .val (.int p4), .val (.long tA), .second, .val (.long g0), .second, .val (.long tB), .second, .val (.long tC), .second, .val (.long tD), .second, .val (.long tE), .second, .val (.long pp), .second, .val (.long cA), .second, .val (.long cB), .second, .val (.long cC), .second, .val (.long cD), .second, .val (.long cE), .second, .val (.long qq), .second, .val (.ref b289), .unset, .unset, .unset, .unset, .unset, .unset, .unset] [(.long cC), (.long tC), (.ref b289)])) rfl (by rw [hml]; rfl) (Steps.refl _) (argsL := [(.long tC), (.long cC)]) (rest := []) (lenOf pd_3 rfl) rfl (by show 2 * 0 + _ ≤ _; exact Nat.le_of_eq rfl) (hb hby at_200) (fun _ _ => ⟨rfl, rfl, (by decide : 3 + 1 ≤ _), (by decide : 11 + 8 ≤ _)⟩)
    dsimp only [Pt.U, Pt.locs, Pt.cells, Pt.slots] at X293 l293 y293 z293 st293 hQ293
    subst l293 y293 z293
    obtain ⟨rfl, N293q, tt293, sztt293, K293, O293_0, O293_1, O293_2, O293_3, O293_4, O293_5⟩ := hQ293
    have ne_b289_tt293 : b289 ≠ tt293 := Nat.ne_of_lt (Nat.lt_of_lt_of_le O292_0.lt sztt293)
    have ne_tt290_tt293 : tt290 ≠ tt293 := Nat.ne_of_lt (Nat.lt_of_lt_of_le Ott290L_292.lt sztt293)
    have ne_tt292_tt293 : tt292 ≠ tt293 := Nat.ne_of_lt (Nat.lt_of_lt_of_le O292_5.lt sztt293)
    have Gtt293 : n0 ≤ tt293 := Nat.le_trans Z292 sztt293
    have Ob289E_293 := O292_0.keep K293
    have Ott290L_293 := Ott290L_292.keep K293 (ninS (Ne.symm ne_b289_tt290) nin0)
    have Ott292L_293 := O292_5.keep K293 (ninS (Ne.symm ne_b289_tt292) nin0)
    have Z293 : n0 ≤ T293.heap.size := Nat.le_trans Z292 K293.1
    have N293 := Fr.app N292 N293q
    refine own_jp st293 ?_
    refine own_st (fun zw zk => XS.aload X293.here hx rfl (hb hby at_203) rfl rfl zk) ?_
    refine own_st (fun zw zk => XS.lload X293.here hx rfl (hb hby at_205) rfl zk) ?_
    obtain ⟨cq294, kq294, q294a, q294b, q294c⟩ := isOf hZ rfl O293_0
    obtain ⟨_, _, ⟨T294, L294, k294, n294⟩, -, X294, ⟨Lc294, hQ294, l294, y294, z294⟩, st294⟩ := X293.virtualBack hx (y := (⟨"com/example/headroom/headroom/SlidingLog$Log", "forgetUpTo", "(J)V"⟩ : MethodName)) (z := (⟨"com/example/headroom/headroom/SlidingLog$Log", "forgetUpTo", "(J)V"⟩ : MethodName)) hown (mvT hZ (hw _ (List.mem_of_getElem? (i := 47) rfl))) (mvT hZ (hw _ (List.mem_of_getElem? (i := 48) rfl))) (notFace_of_selects (args := #[]) (mvT hZ (hw _ (List.mem_of_getElem? (i := 50) rfl)))) (mvT hZ (hw _ (List.mem_of_getElem? (i := 50) rfl))) (mvT hZ (hw _ (List.mem_of_getElem? (i := 49) rfl))) (by decide) (backOf (W := 0) (rm_forgetUpTo_0_3_8_1 l Z a0 hw [] b289 pp tt293 ((((0 : Int64) + cA) + cB) + cC) tA cA tB cB tC cC (0 : Int64) (0 : Int64) T293.heap n0 Z293 (O293_0) (O293_1) (O293_2) (O293_3) (O293_4) (O293_5) (G289) (ne_b289_tt293) (hAp) (hpB)) hZ (hw _ (List.mem_of_getElem? (i := 51) rfl)) (hw _ (List.mem_of_getElem? (i := 4) rfl)) (by decide) (by decide)) q294a q294c (g := (mkF m 207 #[.val (.long q0), .second, .val (.long q1), .second, .val (.long q2), .second, .val (.long q3), .second, .val (.int p4), .val (.long tA), .second, .val (.long g0), .second, .val (.long tB), .second, .val (.long tC), .second, .val (.long tD), .second, .val (.long tE), .second, .val (.long pp), .second, .val (.long cA), .second, .val (.long cB), .second, .val (.long cC), .second, .val (.long cD), .second, .val (.long cE), .second, .val (.long qq), .second, .val (.ref b289), .unset, .unset, .unset, .unset, .unset, .unset, .unset] [(.long pp), (.ref b289)])) rfl (by rw [hml]; rfl) (Steps.refl _) (argsL := [(.long pp)]) (rest := []) (lenOf pd_4 rfl) rfl (by show 2 * 0 + _ ≤ _; exact Nat.le_of_eq rfl) (hb hby at_207) (fun _ _ => ⟨rfl, rfl, (by decide : 4 + 0 ≤ _), (by decide : 19 + 0 ≤ _)⟩)
    dsimp only [Pt.U, Pt.locs, Pt.cells, Pt.slots] at X294 l294 y294 z294 st294 hQ294
    subst l294 y294 z294
    obtain ⟨rfl, N294q, K294, O294_0, O294_1, O294_2, O294_3, O294_4⟩ := hQ294
    have Ob289E_294 := O293_0.keep K294
    have Ott290L_294 := Ott290L_293.keep K294 (ninS (Ne.symm ne_b289_tt290) nin0)
    have Ott292L_294 := Ott292L_293.keep K294 (ninS (Ne.symm ne_b289_tt292) nin0)
    have Ott293L_294 := O293_5.keep K294 (ninS (Ne.symm ne_b289_tt293) nin0)
    have Z294 : n0 ≤ T294.heap.size := Nat.le_trans Z293 K294.1
    have N294 := Fr.app N293 N294q
    refine own_jp st294 ?_
    refine own_st (fun zw zk => XS.aload X294.here hx rfl (hb hby at_210) rfl rfl zk) ?_
    show own_Go p e below G (T294.setTop (mkF m 212 #[.val (.long q0), .second, .val (.long q1), .second, .val (.long q2), .second, .val (.long q3), .second, .val (.int p4), .val (.long tA), .second, .val (.long g0), .second, .val (.long tB), .second, .val (.long tC), .second, .val (.long tD), .second, .val (.long tE), .second, .val (.long pp), .second, .val (.long cA), .second, .val (.long cB), .second, .val (.long cC), .second, .val (.long cD), .second, .val (.long cE), .second, .val (.long qq), .second, .val (.ref b289), .unset, .unset, .unset, .unset, .unset, .unset, .unset] [(.ref b289)]))
    obtain ⟨T295, X295, e295, st295⟩ := getF X294 hx hZ hown (host := "") (Or.inl (hw _ (List.mem_of_getElem? (i := 52) rfl))) Via.refl rfl O294_3 (g := (mkF m 212 #[.val (.long q0), .second, .val (.long q1), .second, .val (.long q2), .second, .val (.long q3), .second, .val (.int p4), .val (.long tA), .second, .val (.long g0), .second, .val (.long tB), .second, .val (.long tC), .second, .val (.long tD), .second, .val (.long tE), .second, .val (.long pp), .second, .val (.long cA), .second, .val (.long cB), .second, .val (.long cC), .second, .val (.long cD), .second, .val (.long cE), .second, .val (.long qq), .second, .val (.ref b289), .unset, .unset, .unset, .unset, .unset, .unset, .unset] [(.ref b289)])) rfl rfl (hb hby at_212)
    refine own_st (fun zw zk => st295 zw zk) ?_
    refine own_st (fun zw zk => XS.iconst X295.here hx rfl (hb hby at_215) zk) ?_
    refine own_st (fun zw zk => XS.icmpNo X295.here hx rfl (hb hby at_216) rfl (teq (by decide : (2 : Int32) = (2 : Int32))).2 zk) ?_
    refine own_st (fun zw zk => XS.aload X295.here hx rfl (hb hby at_219) rfl rfl zk) ?_
    obtain ⟨T296, X296, e296, st296⟩ := getF X295 hx hZ hown (host := "") (Or.inl (hw _ (List.mem_of_getElem? (i := 53) rfl))) Via.refl e295 O294_4 (g := (mkF m 221 #[.val (.long q0), .second, .val (.long q1), .second, .val (.long q2), .second, .val (.long q3), .second, .val (.int p4), .val (.long tA), .second, .val (.long g0), .second, .val (.long tB), .second, .val (.long tC), .second, .val (.long tD), .second, .val (.long tE), .second, .val (.long pp), .second, .val (.long cA), .second, .val (.long cB), .second, .val (.long cC), .second, .val (.long cD), .second, .val (.long cE), .second, .val (.long qq), .second, .val (.ref b289), .unset, .unset, .unset, .unset, .unset, .unset, .unset] [(.ref b289)])) rfl rfl (hb hby at_221)
    refine own_st (fun zw zk => st296 zw zk) ?_
    refine own_st (fun zw zk => XS.lload X296.here hx rfl (hb hby at_224) rfl zk) ?_
    refine own_st (fun zw zk => XS.lload X296.here hx rfl (hb hby at_226) rfl zk) ?_
    refine own_st (fun zw zk => XS.ladd X296.here hx rfl (hb hby at_228) rfl zk) ?_
    show own_Go p e below G (T296.setTop (mkF m 229 #[.val (.long q0), .second, .val (.long q1), .second, .val (.long q2), .second, .val (.long q3), .second, .val (.int p4), .val (.long tA), .second, .val (.long g0), .second, .val (.long tB), .second, .val (.long tC), .second, .val (.long tD), .second, .val (.long tE), .second, .val (.long pp), .second, .val (.long cA), .second, .val (.long cB), .second, .val (.long cC), .second, .val (.long cD), .second, .val (.long cE), .second, .val (.long qq), .second, .val (.ref b289), .unset, .unset, .unset, .unset, .unset, .unset, .unset] [(.long (cB + cC)), (.long (((((0 : Int64) + cA) + cB) + cC) - cA))]))
    refine own_st (fun zw zk => XS.lcmp X296.here hx rfl (hb hby at_229) rfl zk) ?_
    have hc230 : (((((0 : Int64) + cA) + cB) + cC) - cA) = (cB + cC) := own_adm1 cA cB cC
    refine own_st (fun zw zk => XS.ifNo X296.here hx rfl (hb hby at_230) rfl ((if0 _ _).trans (teq (own_tle hc230)).2) zk) ?_
    refine own_st (fun zw zk => XS.aload X296.here hx rfl (hb hby at_233) rfl rfl zk) ?_
    obtain ⟨T297, X297, e297, st297⟩ := getF X296 hx hZ hown (host := "") (Or.inl (hw _ (List.mem_of_getElem? (i := 54) rfl))) Via.refl e296 O294_2 (g := (mkF m 235 #[.val (.long q0), .second, .val (.long q1), .second, .val (.long q2), .second, .val (.long q3), .second, .val (.int p4), .val (.long tA), .second, .val (.long g0), .second, .val (.long tB), .second, .val (.long tC), .second, .val (.long tD), .second, .val (.long tE), .second, .val (.long pp), .second, .val (.long cA), .second, .val (.long cB), .second, .val (.long cC), .second, .val (.long cD), .second, .val (.long cE), .second, .val (.long qq), .second, .val (.ref b289), .unset, .unset, .unset, .unset, .unset, .unset, .unset] [(.ref b289)])) rfl rfl (hb hby at_235)
    refine own_st (fun zw zk => st297 zw zk) ?_
    refine own_st (fun zw zk => XS.iconst X297.here hx rfl (hb hby at_238) zk) ?_
    refine own_st (fun zw zk => XS.icmpNo X297.here hx rfl (hb hby at_239) rfl (teq (by decide : (1 : Int32) = (1 : Int32))).2 zk) ?_
    refine own_st (fun zw zk => XS.aload X297.here hx rfl (hb hby at_242) rfl rfl zk) ?_
    obtain ⟨T298, X298, e298, st298⟩ := getF X297 hx hZ hown (host := "") (Or.inl (hw _ (List.mem_of_getElem? (i := 55) rfl))) Via.refl e297 O294_1 (g := (mkF m 244 #[.val (.long q0), .second, .val (.long q1), .second, .val (.long q2), .second, .val (.long q3), .second, .val (.int p4), .val (.long tA), .second, .val (.long g0), .second, .val (.long tB), .second, .val (.long tC), .second, .val (.long tD), .second, .val (.long tE), .second, .val (.long pp), .second, .val (.long cA), .second, .val (.long cB), .second, .val (.long cC), .second, .val (.long cD), .second, .val (.long cE), .second, .val (.long qq), .second, .val (.ref b289), .unset, .unset, .unset, .unset, .unset, .unset, .unset] [(.ref b289)])) rfl rfl (hb hby at_244)
    refine own_st (fun zw zk => st298 zw zk) ?_
    show own_Go p e below G (T298.setTop (mkF m 247 #[.val (.long q0), .second, .val (.long q1), .second, .val (.long q2), .second, .val (.long q3), .second, .val (.int p4), .val (.long tA), .second, .val (.long g0), .second, .val (.long tB), .second, .val (.long tC), .second, .val (.long tD), .second, .val (.long tE), .second, .val (.long pp), .second, .val (.long cA), .second, .val (.long cB), .second, .val (.long cC), .second, .val (.long cD), .second, .val (.long cE), .second, .val (.long qq), .second, .val (.ref b289), .unset, .unset, .unset, .unset, .unset, .unset, .unset] [(.ref tt293)]))
    refine own_st (fun zw zk => own_len X298 hx hZ e298 Ott293L_294 (z := (8 : Int32)) (rfl) (g := (mkF m 247 #[.val (.long q0), .second, .val (.long q1), .second, .val (.long q2), .second, .val (.long q3), .second, .val (.int p4), .val (.long tA), .second, .val (.long g0), .second, .val (.long tB), .second, .val (.long tC), .second, .val (.long tD), .second, .val (.long tE), .second, .val (.long pp), .second, .val (.long cA), .second, .val (.long cB), .second, .val (.long cC), .second, .val (.long cD), .second, .val (.long cE), .second, .val (.long qq), .second, .val (.ref b289), .unset, .unset, .unset, .unset, .unset, .unset, .unset] [(.ref tt293)])) rfl rfl (hb hby at_247) _ zk) ?_
    refine own_st (fun zw zk => XS.bipush X298.here hx rfl (hb hby at_248) zk) ?_
    refine own_st (fun zw zk => XS.icmpNo X298.here hx rfl (hb hby at_250) rfl (teq (by decide : (8 : Int32) = (8 : Int32))).2 zk) ?_
    refine own_st (fun zw zk => XS.iconst X298.here hx rfl (hb hby at_253) zk) ?_
    refine own_st (fun zw zk => XS.goto X298.here hx rfl (pc0 := 254) (pc' := 258) rfl (hb hby at_254) (by decide) (by decide) zk) ?_
    show own_Go p e below G (T298.setTop (mkF m 258 #[.val (.long q0), .second, .val (.long q1), .second, .val (.long q2), .second, .val (.long q3), .second, .val (.int p4), .val (.long tA), .second, .val (.long g0), .second, .val (.long tB), .second, .val (.long tC), .second, .val (.long tD), .second, .val (.long tE), .second, .val (.long pp), .second, .val (.long cA), .second, .val (.long cB), .second, .val (.long cC), .second, .val (.long cD), .second, .val (.long cE), .second, .val (.long qq), .second, .val (.ref b289), .unset, .unset, .unset, .unset, .unset, .unset, .unset] [(.int (1 : Int32))]))
    refine own_st (fun zw zk => XS.istore X298.here hx rfl (hb hby at_258) rfl rfl zk) ?_
    show own_Go p e below G (T298.setTop (mkF m 260 #[.val (.long q0), .second, .val (.long q1), .second, .val (.long q2), .second, .val (.long q3), .second, .val (.int p4), .val (.long tA), .second, .val (.long g0), .second, .val (.long tB), .second, .val (.long tC), .second, .val (.long tD), .second, .val (.long tE), .second, .val (.long pp), .second, .val (.long cA), .second, .val (.long cB), .second, .val (.long cC), .second, .val (.long cD), .second, .val (.long cE), .second, .val (.long qq), .second, .val (.ref b289), .val (.int (1 : Int32)), .unset, .unset, .unset, .unset, .unset, .unset] []))
    refine own_st (fun zw zk => XS.aload X298.here hx rfl (hb hby at_260) rfl rfl zk) ?_
    refine own_st (fun zw zk => XS.lload X298.here hx rfl (hb hby at_262) rfl zk) ?_
    refine own_st (fun zw zk => XS.lload X298.here hx rfl (hb hby at_264) rfl zk) ?_
    obtain ⟨cq299, kq299, q299a, q299b, q299c⟩ := isOf hZ e298 O294_0
    obtain ⟨_, _, ⟨T299, L299, k299, n299⟩, -, X299, ⟨Lc299, hQ299, l299, y299, z299⟩, st299⟩ := X298.virtualBack hx (y := (⟨"com/example/headroom/headroom/SlidingLog$Log", "add", "(JJ)V"⟩ : MethodName)) (z := (⟨"com/example/headroom/headroom/SlidingLog$Log", "add", "(JJ)V"⟩ : MethodName)) hown (mvT hZ (hw _ (List.mem_of_getElem? (i := 19) rfl))) (mvT hZ (hw _ (List.mem_of_getElem? (i := 20) rfl))) (notFace_of_selects (args := #[]) (mvT hZ (hw _ (List.mem_of_getElem? (i := 22) rfl)))) (mvT hZ (hw _ (List.mem_of_getElem? (i := 22) rfl))) (mvT hZ (hw _ (List.mem_of_getElem? (i := 21) rfl))) (by decide) (backOf (W := 0) (rm_add_1_2_8 l Z a0 hw [] b289 tD cD tt293 (((((0 : Int64) + cA) + cB) + cC) - cA) tA cA tB cB tC cC (0 : Int64) (0 : Int64) T294.heap n0 Z294 (O294_0) (O294_1) (O294_2) (O294_3) (O294_4) (Ott293L_294) (G289) (Gtt293) (ne_b289_tt293) (hCD')) hZ (hw _ (List.mem_of_getElem? (i := 23) rfl)) (hw _ (List.mem_of_getElem? (i := 4) rfl)) (by decide) (by decide)) q299a q299c (g := (mkF m 266 #[.val (.long q0), .second, .val (.long q1), .second, .val (.long q2), .second, .val (.long q3), .second, .val (.int p4), .val (.long tA), .second, .val (.long g0), .second, .val (.long tB), .second, .val (.long tC), .second, .val (.long tD), .second, .val (.long tE), .second, .val (.long pp), .second, .val (.long cA), .second, .val (.long cB), .second, .val (.long cC), .second, .val (.long cD), .second, .val (.long cE), .second, .val (.long qq), .second, .val (.ref b289), .val (.int (1 : Int32)), .unset, .unset, .unset, .unset, .unset, .unset] [(.long cD), (.long tD), (.ref b289)])) rfl (by rw [hml]; rfl) (Steps.refl _) (argsL := [(.long tD), (.long cD)]) (rest := []) (lenOf pd_3 rfl) rfl (by show 2 * 0 + _ ≤ _; exact Nat.le_of_eq rfl) (hb hby at_266) (fun _ _ => ⟨rfl, e298, (by decide : 4 + 0 ≤ _), (by decide : 19 + 0 ≤ _)⟩)
    dsimp only [Pt.U, Pt.locs, Pt.cells, Pt.slots] at X299 l299 y299 z299 st299 hQ299
    subst l299 y299 z299
    obtain ⟨rfl, N299q, K299, O299_0, O299_1, O299_2, O299_3, O299_4, O299_5⟩ := hQ299
    have Ob289E_299 := O294_0.keep K299
    have Ott290L_299 := Ott290L_294.keep K299 (ninS (Ne.symm ne_b289_tt290) (ninS ne_tt290_tt293 nin0))
    have Ott292L_299 := Ott292L_294.keep K299 (ninS (Ne.symm ne_b289_tt292) (ninS ne_tt292_tt293 nin0))
    have Z299 : n0 ≤ T299.heap.size := Nat.le_trans Z294 K299.1
    have N299 := Fr.app N294 N299q
    refine own_jp st299 ?_
    refine own_st (fun zw zk => XS.aload X299.here hx rfl (hb hby at_269) rfl rfl zk) ?_
    refine own_st (fun zw zk => XS.lload X299.here hx rfl (hb hby at_271) rfl zk) ?_
    refine own_st (fun zw zk => XS.lload X299.here hx rfl (hb hby at_273) rfl zk) ?_
    obtain ⟨cq300, kq300, q300a, q300b, q300c⟩ := isOf hZ rfl O299_0
    obtain ⟨_, _, ⟨T300, L300, k300, n300⟩, -, X300, ⟨Lc300, hQ300, l300, y300, z300⟩, st300⟩ := X299.virtualBack hx (y := (⟨"com/example/headroom/headroom/SlidingLog$Log", "add", "(JJ)V"⟩ : MethodName)) (z := (⟨"com/example/headroom/headroom/SlidingLog$Log", "add", "(JJ)V"⟩ : MethodName)) hown (mvT hZ (hw _ (List.mem_of_getElem? (i := 19) rfl))) (mvT hZ (hw _ (List.mem_of_getElem? (i := 20) rfl))) (notFace_of_selects (args := #[]) (mvT hZ (hw _ (List.mem_of_getElem? (i := 22) rfl)))) (mvT hZ (hw _ (List.mem_of_getElem? (i := 22) rfl))) (mvT hZ (hw _ (List.mem_of_getElem? (i := 21) rfl))) (by decide) (backOf (W := 0) (rm_add_1_3_8 l Z a0 hw [] b289 tE cE tt293 ((((((0 : Int64) + cA) + cB) + cC) - cA) + cD) tA cA tB cB tC cC tD cD T299.heap n0 Z299 (O299_0) (O299_1) (O299_2) (O299_3) (O299_4) (O299_5) (G289) (Gtt293) (ne_b289_tt293) (hDE')) hZ (hw _ (List.mem_of_getElem? (i := 23) rfl)) (hw _ (List.mem_of_getElem? (i := 4) rfl)) (by decide) (by decide)) q300a q300c (g := (mkF m 275 #[.val (.long q0), .second, .val (.long q1), .second, .val (.long q2), .second, .val (.long q3), .second, .val (.int p4), .val (.long tA), .second, .val (.long g0), .second, .val (.long tB), .second, .val (.long tC), .second, .val (.long tD), .second, .val (.long tE), .second, .val (.long pp), .second, .val (.long cA), .second, .val (.long cB), .second, .val (.long cC), .second, .val (.long cD), .second, .val (.long cE), .second, .val (.long qq), .second, .val (.ref b289), .val (.int (1 : Int32)), .unset, .unset, .unset, .unset, .unset, .unset] [(.long cE), (.long tE), (.ref b289)])) rfl (by rw [hml]; rfl) (Steps.refl _) (argsL := [(.long tE), (.long cE)]) (rest := []) (lenOf pd_3 rfl) rfl (by show 2 * 0 + _ ≤ _; exact Nat.le_of_eq rfl) (hb hby at_275) (fun _ _ => ⟨rfl, rfl, (by decide : 4 + 0 ≤ _), (by decide : 19 + 0 ≤ _)⟩)
    dsimp only [Pt.U, Pt.locs, Pt.cells, Pt.slots] at X300 l300 y300 z300 st300 hQ300
    subst l300 y300 z300
    obtain ⟨rfl, N300q, K300, O300_0, O300_1, O300_2, O300_3, O300_4, O300_5⟩ := hQ300
    have Ob289E_300 := O299_0.keep K300
    have Ott290L_300 := Ott290L_299.keep K300 (ninS (Ne.symm ne_b289_tt290) (ninS ne_tt290_tt293 nin0))
    have Ott292L_300 := Ott292L_299.keep K300 (ninS (Ne.symm ne_b289_tt292) (ninS ne_tt292_tt293 nin0))
    have Z300 : n0 ≤ T300.heap.size := Nat.le_trans Z299 K300.1
    have N300 := Fr.app N299 N300q
    refine own_jp st300 ?_
    rcases own_five (tB := tB) (tC := tC) (tD := tD) (tE := tE) (by omega) (by omega) (by omega) qq with ⟨k1, k2, k3, k4⟩ | ⟨k1, k2, k3, k4⟩ | ⟨k1, k2, k3, k4⟩ | ⟨k1, k2, k3, k4⟩ | ⟨k1, k2, k3, k4⟩
    · show own_Go p e below G (T300.setTop (mkF m 278 #[.val (.long q0), .second, .val (.long q1), .second, .val (.long q2), .second, .val (.long q3), .second, .val (.int p4), .val (.long tA), .second, .val (.long g0), .second, .val (.long tB), .second, .val (.long tC), .second, .val (.long tD), .second, .val (.long tE), .second, .val (.long pp), .second, .val (.long cA), .second, .val (.long cB), .second, .val (.long cC), .second, .val (.long cD), .second, .val (.long cE), .second, .val (.long qq), .second, .val (.ref b289), .val (.int (1 : Int32)), .unset, .unset, .unset, .unset, .unset, .unset] []))
      refine own_st (fun zw zk => XS.aload X300.here hx rfl (hb hby at_278) rfl rfl zk) ?_
      refine own_st (fun zw zk => XS.lload X300.here hx rfl (hb hby at_280) rfl zk) ?_
      obtain ⟨cq301, kq301, q301a, q301b, q301c⟩ := isOf hZ rfl O300_0
      obtain ⟨_, _, ⟨T301, L301, k301, n301⟩, -, X301, ⟨Lc301, hQ301, l301, y301, z301⟩, st301⟩ := X300.virtualBack hx (y := (⟨"com/example/headroom/headroom/SlidingLog$Log", "forgetUpTo", "(J)V"⟩ : MethodName)) (z := (⟨"com/example/headroom/headroom/SlidingLog$Log", "forgetUpTo", "(J)V"⟩ : MethodName)) hown (mvT hZ (hw _ (List.mem_of_getElem? (i := 47) rfl))) (mvT hZ (hw _ (List.mem_of_getElem? (i := 48) rfl))) (notFace_of_selects (args := #[]) (mvT hZ (hw _ (List.mem_of_getElem? (i := 50) rfl)))) (mvT hZ (hw _ (List.mem_of_getElem? (i := 50) rfl))) (mvT hZ (hw _ (List.mem_of_getElem? (i := 49) rfl))) (by decide) (backOf (W := 0) (rm_forgetUpTo_1_4_8_0 l Z a0 hw [] b289 qq tt293 (((((((0 : Int64) + cA) + cB) + cC) - cA) + cD) + cE) tE cE tB cB tC cC tD cD T300.heap n0 Z300 (O300_0) (O300_1) (O300_2) (O300_3) (O300_4) (O300_5) (G289) (ne_b289_tt293) (k1)) hZ (hw _ (List.mem_of_getElem? (i := 51) rfl)) (hw _ (List.mem_of_getElem? (i := 4) rfl)) (by decide) (by decide)) q301a q301c (g := (mkF m 282 #[.val (.long q0), .second, .val (.long q1), .second, .val (.long q2), .second, .val (.long q3), .second, .val (.int p4), .val (.long tA), .second, .val (.long g0), .second, .val (.long tB), .second, .val (.long tC), .second, .val (.long tD), .second, .val (.long tE), .second, .val (.long pp), .second, .val (.long cA), .second, .val (.long cB), .second, .val (.long cC), .second, .val (.long cD), .second, .val (.long cE), .second, .val (.long qq), .second, .val (.ref b289), .val (.int (1 : Int32)), .unset, .unset, .unset, .unset, .unset, .unset] [(.long qq), (.ref b289)])) rfl (by rw [hml]; rfl) (Steps.refl _) (argsL := [(.long qq)]) (rest := []) (lenOf pd_4 rfl) rfl (by show 2 * 0 + _ ≤ _; exact Nat.le_of_eq rfl) (hb hby at_282) (fun _ _ => ⟨rfl, rfl, (by decide : 4 + 0 ≤ _), (by decide : 19 + 0 ≤ _)⟩)
      dsimp only [Pt.U, Pt.locs, Pt.cells, Pt.slots] at X301 l301 y301 z301 st301 hQ301
      subst l301 y301 z301
      obtain ⟨rfl, N301q, K301, O301_0, O301_1, O301_2, O301_3, O301_4⟩ := hQ301
      have Ob289E_301 := O300_0.keep K301
      have Ott290L_301 := Ott290L_300.keep K301 (ninS (Ne.symm ne_b289_tt290) nin0)
      have Ott292L_301 := Ott292L_300.keep K301 (ninS (Ne.symm ne_b289_tt292) nin0)
      have Ott293L_301 := O300_5.keep K301 (ninS (Ne.symm ne_b289_tt293) nin0)
      have Z301 : n0 ≤ T301.heap.size := Nat.le_trans Z300 K301.1
      have N301 := Fr.app N300 N301q
      refine own_jp st301 ?_
      refine own_st (fun zw zk => XS.lload X301.here hx rfl (hb hby at_285) rfl zk) ?_
      refine own_st (fun zw zk => XS.lload X301.here hx rfl (hb hby at_287) rfl zk) ?_
      refine own_st (fun zw zk => XS.lcmp X301.here hx rfl (hb hby at_289) rfl zk) ?_
      refine own_st (fun zw zk => XS.ifYes X301.here hx rfl (pc0 := 290) (pc' := 297) rfl (hb hby at_290) rfl ((if0 _ _).trans (tlt (own_tlg k1)).2.2.1) (by decide) (by decide) zk) ?_
      refine own_st (fun zw zk => XS.iconst X301.here hx rfl (hb hby at_297) zk) ?_
      show own_Go p e below G (T301.setTop (mkF m 298 #[.val (.long q0), .second, .val (.long q1), .second, .val (.long q2), .second, .val (.long q3), .second, .val (.int p4), .val (.long tA), .second, .val (.long g0), .second, .val (.long tB), .second, .val (.long tC), .second, .val (.long tD), .second, .val (.long tE), .second, .val (.long pp), .second, .val (.long cA), .second, .val (.long cB), .second, .val (.long cC), .second, .val (.long cD), .second, .val (.long cE), .second, .val (.long qq), .second, .val (.ref b289), .val (.int (1 : Int32)), .unset, .unset, .unset, .unset, .unset, .unset] [(.int (0 : Int32))]))
      refine own_st (fun zw zk => XS.lload X301.here hx rfl (hb hby at_298) rfl zk) ?_
      refine own_st (fun zw zk => XS.lload X301.here hx rfl (hb hby at_300) rfl zk) ?_
      refine own_st (fun zw zk => XS.lcmp X301.here hx rfl (hb hby at_302) rfl zk) ?_
      refine own_st (fun zw zk => XS.ifYes X301.here hx rfl (pc0 := 303) (pc' := 310) rfl (hb hby at_303) rfl ((if0 _ _).trans (tlt (own_tlg k2)).2.2.1) (by decide) (by decide) zk) ?_
      refine own_st (fun zw zk => XS.iconst X301.here hx rfl (hb hby at_310) zk) ?_
      refine own_st (fun zw zk => XS.iadd X301.here hx rfl (hb hby at_311) rfl zk) ?_
      refine own_st (fun zw zk => XS.lload X301.here hx rfl (hb hby at_312) rfl zk) ?_
      refine own_st (fun zw zk => XS.lload X301.here hx rfl (hb hby at_314) rfl zk) ?_
      show own_Go p e below G (T301.setTop (mkF m 316 #[.val (.long q0), .second, .val (.long q1), .second, .val (.long q2), .second, .val (.long q3), .second, .val (.int p4), .val (.long tA), .second, .val (.long g0), .second, .val (.long tB), .second, .val (.long tC), .second, .val (.long tD), .second, .val (.long tE), .second, .val (.long pp), .second, .val (.long cA), .second, .val (.long cB), .second, .val (.long cC), .second, .val (.long cD), .second, .val (.long cE), .second, .val (.long qq), .second, .val (.ref b289), .val (.int (1 : Int32)), .unset, .unset, .unset, .unset, .unset, .unset] [(.long qq), (.long tD), (.int (0 : Int32))]))
      refine own_st (fun zw zk => XS.lcmp X301.here hx rfl (hb hby at_316) rfl zk) ?_
      refine own_st (fun zw zk => XS.ifYes X301.here hx rfl (pc0 := 317) (pc' := 324) rfl (hb hby at_317) rfl ((if0 _ _).trans (tlt (own_tlg k3)).2.2.1) (by decide) (by decide) zk) ?_
      refine own_st (fun zw zk => XS.iconst X301.here hx rfl (hb hby at_324) zk) ?_
      refine own_st (fun zw zk => XS.iadd X301.here hx rfl (hb hby at_325) rfl zk) ?_
      refine own_st (fun zw zk => XS.lload X301.here hx rfl (hb hby at_326) rfl zk) ?_
      refine own_st (fun zw zk => XS.lload X301.here hx rfl (hb hby at_328) rfl zk) ?_
      refine own_st (fun zw zk => XS.lcmp X301.here hx rfl (hb hby at_330) rfl zk) ?_
      refine own_st (fun zw zk => XS.ifYes X301.here hx rfl (pc0 := 331) (pc' := 338) rfl (hb hby at_331) rfl ((if0 _ _).trans (tlt (own_tlg k4)).2.2.1) (by decide) (by decide) zk) ?_
      show own_Go p e below G (T301.setTop (mkF m 338 #[.val (.long q0), .second, .val (.long q1), .second, .val (.long q2), .second, .val (.long q3), .second, .val (.int p4), .val (.long tA), .second, .val (.long g0), .second, .val (.long tB), .second, .val (.long tC), .second, .val (.long tD), .second, .val (.long tE), .second, .val (.long pp), .second, .val (.long cA), .second, .val (.long cB), .second, .val (.long cC), .second, .val (.long cD), .second, .val (.long cE), .second, .val (.long qq), .second, .val (.ref b289), .val (.int (1 : Int32)), .unset, .unset, .unset, .unset, .unset, .unset] [(.int (0 : Int32))]))
      refine own_st (fun zw zk => XS.iconst X301.here hx rfl (hb hby at_338) zk) ?_
      refine own_st (fun zw zk => XS.iadd X301.here hx rfl (hb hby at_339) rfl zk) ?_
      refine own_st (fun zw zk => XS.istore X301.here hx rfl (hb hby at_340) rfl rfl zk) ?_
      show own_Go p e below G (T301.setTop (mkF m 342 #[.val (.long q0), .second, .val (.long q1), .second, .val (.long q2), .second, .val (.long q3), .second, .val (.int p4), .val (.long tA), .second, .val (.long g0), .second, .val (.long tB), .second, .val (.long tC), .second, .val (.long tD), .second, .val (.long tE), .second, .val (.long pp), .second, .val (.long cA), .second, .val (.long cB), .second, .val (.long cC), .second, .val (.long cD), .second, .val (.long cE), .second, .val (.long qq), .second, .val (.ref b289), .val (.int (1 : Int32)), .val (.int (0 : Int32)), .unset, .unset, .unset, .unset, .unset] []))
      refine own_st (fun zw zk => XS.lload X301.here hx rfl (hb hby at_342) rfl zk) ?_
      refine own_st (fun zw zk => XS.lload X301.here hx rfl (hb hby at_344) rfl zk) ?_
      refine own_st (fun zw zk => XS.lcmp X301.here hx rfl (hb hby at_346) rfl zk) ?_
      refine own_st (fun zw zk => XS.ifNo X301.here hx rfl (hb hby at_347) rfl ((if0 _ _).trans (tlt (own_tlg k1)).2.2.2) zk) ?_
      refine own_st (fun zw zk => XS.lload X301.here hx rfl (hb hby at_350) rfl zk) ?_
      refine own_st (fun zw zk => XS.goto X301.here hx rfl (pc0 := 352) (pc' := 356) rfl (hb hby at_352) (by decide) (by decide) zk) ?_
      show own_Go p e below G (T301.setTop (mkF m 356 #[.val (.long q0), .second, .val (.long q1), .second, .val (.long q2), .second, .val (.long q3), .second, .val (.int p4), .val (.long tA), .second, .val (.long g0), .second, .val (.long tB), .second, .val (.long tC), .second, .val (.long tD), .second, .val (.long tE), .second, .val (.long pp), .second, .val (.long cA), .second, .val (.long cB), .second, .val (.long cC), .second, .val (.long cD), .second, .val (.long cE), .second, .val (.long qq), .second, .val (.ref b289), .val (.int (1 : Int32)), .val (.int (0 : Int32)), .unset, .unset, .unset, .unset, .unset] [(.long cB)]))
      refine own_st (fun zw zk => XS.lload X301.here hx rfl (hb hby at_356) rfl zk) ?_
      refine own_st (fun zw zk => XS.lload X301.here hx rfl (hb hby at_358) rfl zk) ?_
      refine own_st (fun zw zk => XS.lcmp X301.here hx rfl (hb hby at_360) rfl zk) ?_
      refine own_st (fun zw zk => XS.ifNo X301.here hx rfl (hb hby at_361) rfl ((if0 _ _).trans (tlt (own_tlg k2)).2.2.2) zk) ?_
      refine own_st (fun zw zk => XS.lload X301.here hx rfl (hb hby at_364) rfl zk) ?_
      refine own_st (fun zw zk => XS.goto X301.here hx rfl (pc0 := 366) (pc' := 370) rfl (hb hby at_366) (by decide) (by decide) zk) ?_
      show own_Go p e below G (T301.setTop (mkF m 370 #[.val (.long q0), .second, .val (.long q1), .second, .val (.long q2), .second, .val (.long q3), .second, .val (.int p4), .val (.long tA), .second, .val (.long g0), .second, .val (.long tB), .second, .val (.long tC), .second, .val (.long tD), .second, .val (.long tE), .second, .val (.long pp), .second, .val (.long cA), .second, .val (.long cB), .second, .val (.long cC), .second, .val (.long cD), .second, .val (.long cE), .second, .val (.long qq), .second, .val (.ref b289), .val (.int (1 : Int32)), .val (.int (0 : Int32)), .unset, .unset, .unset, .unset, .unset] [(.long cC), (.long cB)]))
      refine own_st (fun zw zk => XS.ladd X301.here hx rfl (hb hby at_370) rfl zk) ?_
      refine own_st (fun zw zk => XS.lload X301.here hx rfl (hb hby at_371) rfl zk) ?_
      refine own_st (fun zw zk => XS.lload X301.here hx rfl (hb hby at_373) rfl zk) ?_
      refine own_st (fun zw zk => XS.lcmp X301.here hx rfl (hb hby at_375) rfl zk) ?_
      refine own_st (fun zw zk => XS.ifNo X301.here hx rfl (hb hby at_376) rfl ((if0 _ _).trans (tlt (own_tlg k3)).2.2.2) zk) ?_
      refine own_st (fun zw zk => XS.lload X301.here hx rfl (hb hby at_379) rfl zk) ?_
      refine own_st (fun zw zk => XS.goto X301.here hx rfl (pc0 := 381) (pc' := 385) rfl (hb hby at_381) (by decide) (by decide) zk) ?_
      show own_Go p e below G (T301.setTop (mkF m 385 #[.val (.long q0), .second, .val (.long q1), .second, .val (.long q2), .second, .val (.long q3), .second, .val (.int p4), .val (.long tA), .second, .val (.long g0), .second, .val (.long tB), .second, .val (.long tC), .second, .val (.long tD), .second, .val (.long tE), .second, .val (.long pp), .second, .val (.long cA), .second, .val (.long cB), .second, .val (.long cC), .second, .val (.long cD), .second, .val (.long cE), .second, .val (.long qq), .second, .val (.ref b289), .val (.int (1 : Int32)), .val (.int (0 : Int32)), .unset, .unset, .unset, .unset, .unset] [(.long cD), (.long (cB + cC))]))
      refine own_st (fun zw zk => XS.ladd X301.here hx rfl (hb hby at_385) rfl zk) ?_
      refine own_st (fun zw zk => XS.lload X301.here hx rfl (hb hby at_386) rfl zk) ?_
      refine own_st (fun zw zk => XS.lload X301.here hx rfl (hb hby at_388) rfl zk) ?_
      refine own_st (fun zw zk => XS.lcmp X301.here hx rfl (hb hby at_390) rfl zk) ?_
      refine own_st (fun zw zk => XS.ifNo X301.here hx rfl (hb hby at_391) rfl ((if0 _ _).trans (tlt (own_tlg k4)).2.2.2) zk) ?_
      refine own_st (fun zw zk => XS.lload X301.here hx rfl (hb hby at_394) rfl zk) ?_
      refine own_st (fun zw zk => XS.goto X301.here hx rfl (pc0 := 396) (pc' := 400) rfl (hb hby at_396) (by decide) (by decide) zk) ?_
      show own_Go p e below G (T301.setTop (mkF m 400 #[.val (.long q0), .second, .val (.long q1), .second, .val (.long q2), .second, .val (.long q3), .second, .val (.int p4), .val (.long tA), .second, .val (.long g0), .second, .val (.long tB), .second, .val (.long tC), .second, .val (.long tD), .second, .val (.long tE), .second, .val (.long pp), .second, .val (.long cA), .second, .val (.long cB), .second, .val (.long cC), .second, .val (.long cD), .second, .val (.long cE), .second, .val (.long qq), .second, .val (.ref b289), .val (.int (1 : Int32)), .val (.int (0 : Int32)), .unset, .unset, .unset, .unset, .unset] [(.long cE), (.long ((cB + cC) + cD))]))
      refine own_st (fun zw zk => XS.ladd X301.here hx rfl (hb hby at_400) rfl zk) ?_
      refine own_st (fun zw zk => XS.lstore X301.here hx rfl (hb hby at_401) rfl rfl zk) ?_
      show own_Go p e below G (T301.setTop (mkF m 403 #[.val (.long q0), .second, .val (.long q1), .second, .val (.long q2), .second, .val (.long q3), .second, .val (.int p4), .val (.long tA), .second, .val (.long g0), .second, .val (.long tB), .second, .val (.long tC), .second, .val (.long tD), .second, .val (.long tE), .second, .val (.long pp), .second, .val (.long cA), .second, .val (.long cB), .second, .val (.long cC), .second, .val (.long cD), .second, .val (.long cE), .second, .val (.long qq), .second, .val (.ref b289), .val (.int (1 : Int32)), .val (.int (0 : Int32)), .val (.long (((cB + cC) + cD) + cE)), .second, .unset, .unset, .unset] []))
      refine own_st (fun zw zk => XS.lload X301.here hx rfl (hb hby at_403) rfl zk) ?_
      refine own_st (fun zw zk => XS.lload X301.here hx rfl (hb hby at_405) rfl zk) ?_
      refine own_st (fun zw zk => XS.lcmp X301.here hx rfl (hb hby at_407) rfl zk) ?_
      refine own_st (fun zw zk => XS.ifNo X301.here hx rfl (hb hby at_408) rfl ((if0 _ _).trans (tlt (own_tlg k1)).2.2.2) zk) ?_
      refine own_st (fun zw zk => XS.lload X301.here hx rfl (hb hby at_411) rfl zk) ?_
      refine own_st (fun zw zk => XS.goto X301.here hx rfl (pc0 := 413) (pc' := 444) rfl (hb hby at_413) (by decide) (by decide) zk) ?_
      show own_Go p e below G (T301.setTop (mkF m 444 #[.val (.long q0), .second, .val (.long q1), .second, .val (.long q2), .second, .val (.long q3), .second, .val (.int p4), .val (.long tA), .second, .val (.long g0), .second, .val (.long tB), .second, .val (.long tC), .second, .val (.long tD), .second, .val (.long tE), .second, .val (.long pp), .second, .val (.long cA), .second, .val (.long cB), .second, .val (.long cC), .second, .val (.long cD), .second, .val (.long cE), .second, .val (.long qq), .second, .val (.ref b289), .val (.int (1 : Int32)), .val (.int (0 : Int32)), .val (.long (((cB + cC) + cD) + cE)), .second, .unset, .unset, .unset] [(.long tB)]))
      refine own_st (fun zw zk => XS.lstore X301.here hx rfl (hb hby at_444) rfl rfl zk) ?_
      show own_Go p e below G (T301.setTop (mkF m 446 #[.val (.long q0), .second, .val (.long q1), .second, .val (.long q2), .second, .val (.long q3), .second, .val (.int p4), .val (.long tA), .second, .val (.long g0), .second, .val (.long tB), .second, .val (.long tC), .second, .val (.long tD), .second, .val (.long tE), .second, .val (.long pp), .second, .val (.long cA), .second, .val (.long cB), .second, .val (.long cC), .second, .val (.long cD), .second, .val (.long cE), .second, .val (.long qq), .second, .val (.ref b289), .val (.int (1 : Int32)), .val (.int (0 : Int32)), .val (.long (((cB + cC) + cD) + cE)), .second, .val (.long tB), .second, .unset] []))
      refine own_st (fun zw zk => XS.aload X301.here hx rfl (hb hby at_446) rfl rfl zk) ?_
      obtain ⟨T302, X302, e302, st302⟩ := getF X301 hx hZ hown (host := "") (Or.inl (hw _ (List.mem_of_getElem? (i := 52) rfl))) Via.refl rfl O301_3 (g := (mkF m 448 #[.val (.long q0), .second, .val (.long q1), .second, .val (.long q2), .second, .val (.long q3), .second, .val (.int p4), .val (.long tA), .second, .val (.long g0), .second, .val (.long tB), .second, .val (.long tC), .second, .val (.long tD), .second, .val (.long tE), .second, .val (.long pp), .second, .val (.long cA), .second, .val (.long cB), .second, .val (.long cC), .second, .val (.long cD), .second, .val (.long cE), .second, .val (.long qq), .second, .val (.ref b289), .val (.int (1 : Int32)), .val (.int (0 : Int32)), .val (.long (((cB + cC) + cD) + cE)), .second, .val (.long tB), .second, .unset] [(.ref b289)])) rfl rfl (hb hby at_448)
      refine own_st (fun zw zk => st302 zw zk) ?_
      refine own_st (fun zw zk => XS.iconst X302.here hx rfl (hb hby at_451) zk) ?_
      refine own_st (fun zw zk => XS.iload X302.here hx rfl (hb hby at_452) rfl zk) ?_
      refine own_st (fun zw zk => XS.isub X302.here hx rfl (hb hby at_454) rfl zk) ?_
      refine own_st (fun zw zk => XS.icmpNo X302.here hx rfl (hb hby at_455) rfl (teq (by decide : (4 : Int32) = (4 : Int32))).2 zk) ?_
      refine own_st (fun zw zk => XS.aload X302.here hx rfl (hb hby at_458) rfl rfl zk) ?_
      obtain ⟨T303, X303, e303, st303⟩ := getF X302 hx hZ hown (host := "") (Or.inl (hw _ (List.mem_of_getElem? (i := 53) rfl))) Via.refl e302 O301_4 (g := (mkF m 460 #[.val (.long q0), .second, .val (.long q1), .second, .val (.long q2), .second, .val (.long q3), .second, .val (.int p4), .val (.long tA), .second, .val (.long g0), .second, .val (.long tB), .second, .val (.long tC), .second, .val (.long tD), .second, .val (.long tE), .second, .val (.long pp), .second, .val (.long cA), .second, .val (.long cB), .second, .val (.long cC), .second, .val (.long cD), .second, .val (.long cE), .second, .val (.long qq), .second, .val (.ref b289), .val (.int (1 : Int32)), .val (.int (0 : Int32)), .val (.long (((cB + cC) + cD) + cE)), .second, .val (.long tB), .second, .unset] [(.ref b289)])) rfl rfl (hb hby at_460)
      refine own_st (fun zw zk => st303 zw zk) ?_
      show own_Go p e below G (T303.setTop (mkF m 463 #[.val (.long q0), .second, .val (.long q1), .second, .val (.long q2), .second, .val (.long q3), .second, .val (.int p4), .val (.long tA), .second, .val (.long g0), .second, .val (.long tB), .second, .val (.long tC), .second, .val (.long tD), .second, .val (.long tE), .second, .val (.long pp), .second, .val (.long cA), .second, .val (.long cB), .second, .val (.long cC), .second, .val (.long cD), .second, .val (.long cE), .second, .val (.long qq), .second, .val (.ref b289), .val (.int (1 : Int32)), .val (.int (0 : Int32)), .val (.long (((cB + cC) + cD) + cE)), .second, .val (.long tB), .second, .unset] [(.long (((((((0 : Int64) + cA) + cB) + cC) - cA) + cD) + cE))]))
      refine own_st (fun zw zk => XS.lload X303.here hx rfl (hb hby at_463) rfl zk) ?_
      refine own_st (fun zw zk => XS.lcmp X303.here hx rfl (hb hby at_465) rfl zk) ?_
      have hc466 : (((((((0 : Int64) + cA) + cB) + cC) - cA) + cD) + cE) = (((cB + cC) + cD) + cE) := by first | (rw [own_adm1]; done) | (rw [own_adm1]; grind) | grind
      refine own_st (fun zw zk => XS.ifNo X303.here hx rfl (hb hby at_466) rfl ((if0 _ _).trans (teq (own_tle hc466)).2) zk) ?_
      refine own_st (fun zw zk => XS.aload X303.here hx rfl (hb hby at_469) rfl rfl zk) ?_
      obtain ⟨T304, X304, e304, st304⟩ := getF X303 hx hZ hown (host := "") (Or.inl (hw _ (List.mem_of_getElem? (i := 54) rfl))) Via.refl e303 O301_2 (g := (mkF m 471 #[.val (.long q0), .second, .val (.long q1), .second, .val (.long q2), .second, .val (.long q3), .second, .val (.int p4), .val (.long tA), .second, .val (.long g0), .second, .val (.long tB), .second, .val (.long tC), .second, .val (.long tD), .second, .val (.long tE), .second, .val (.long pp), .second, .val (.long cA), .second, .val (.long cB), .second, .val (.long cC), .second, .val (.long cD), .second, .val (.long cE), .second, .val (.long qq), .second, .val (.ref b289), .val (.int (1 : Int32)), .val (.int (0 : Int32)), .val (.long (((cB + cC) + cD) + cE)), .second, .val (.long tB), .second, .unset] [(.ref b289)])) rfl rfl (hb hby at_471)
      refine own_st (fun zw zk => st304 zw zk) ?_
      refine own_st (fun zw zk => XS.iconst X304.here hx rfl (hb hby at_474) zk) ?_
      refine own_st (fun zw zk => XS.iload X304.here hx rfl (hb hby at_475) rfl zk) ?_
      refine own_st (fun zw zk => XS.iadd X304.here hx rfl (hb hby at_477) rfl zk) ?_
      show own_Go p e below G (T304.setTop (mkF m 478 #[.val (.long q0), .second, .val (.long q1), .second, .val (.long q2), .second, .val (.long q3), .second, .val (.int p4), .val (.long tA), .second, .val (.long g0), .second, .val (.long tB), .second, .val (.long tC), .second, .val (.long tD), .second, .val (.long tE), .second, .val (.long pp), .second, .val (.long cA), .second, .val (.long cB), .second, .val (.long cC), .second, .val (.long cD), .second, .val (.long cE), .second, .val (.long qq), .second, .val (.ref b289), .val (.int (1 : Int32)), .val (.int (0 : Int32)), .val (.long (((cB + cC) + cD) + cE)), .second, .val (.long tB), .second, .unset] [(.int (1 : Int32)), (.int (1 : Int32))]))
      refine own_st (fun zw zk => XS.iconst X304.here hx rfl (hb hby at_478) zk) ?_
      refine own_st (fun zw zk => XS.iand X304.here hx rfl (hb hby at_479) rfl zk) ?_
      refine own_st (fun zw zk => XS.icmpNo X304.here hx rfl (hb hby at_480) rfl (teq (by decide : (1 : Int32) = (1 : Int32))).2 zk) ?_
      refine own_st (fun zw zk => XS.aload X304.here hx rfl (hb hby at_483) rfl rfl zk) ?_
      obtain ⟨T305, X305, e305, st305⟩ := getF X304 hx hZ hown (host := "") (Or.inl (hw _ (List.mem_of_getElem? (i := 55) rfl))) Via.refl e304 O301_1 (g := (mkF m 485 #[.val (.long q0), .second, .val (.long q1), .second, .val (.long q2), .second, .val (.long q3), .second, .val (.int p4), .val (.long tA), .second, .val (.long g0), .second, .val (.long tB), .second, .val (.long tC), .second, .val (.long tD), .second, .val (.long tE), .second, .val (.long pp), .second, .val (.long cA), .second, .val (.long cB), .second, .val (.long cC), .second, .val (.long cD), .second, .val (.long cE), .second, .val (.long qq), .second, .val (.ref b289), .val (.int (1 : Int32)), .val (.int (0 : Int32)), .val (.long (((cB + cC) + cD) + cE)), .second, .val (.long tB), .second, .unset] [(.ref b289)])) rfl rfl (hb hby at_485)
      refine own_st (fun zw zk => st305 zw zk) ?_
      refine own_st (fun zw zk => own_len X305 hx hZ e305 Ott293L_301 (z := (8 : Int32)) (rfl) (g := (mkF m 488 #[.val (.long q0), .second, .val (.long q1), .second, .val (.long q2), .second, .val (.long q3), .second, .val (.int p4), .val (.long tA), .second, .val (.long g0), .second, .val (.long tB), .second, .val (.long tC), .second, .val (.long tD), .second, .val (.long tE), .second, .val (.long pp), .second, .val (.long cA), .second, .val (.long cB), .second, .val (.long cC), .second, .val (.long cD), .second, .val (.long cE), .second, .val (.long qq), .second, .val (.ref b289), .val (.int (1 : Int32)), .val (.int (0 : Int32)), .val (.long (((cB + cC) + cD) + cE)), .second, .val (.long tB), .second, .unset] [(.ref tt293)])) rfl rfl (hb hby at_488) _ zk) ?_
      refine own_st (fun zw zk => XS.bipush X305.here hx rfl (hb hby at_489) zk) ?_
      refine own_st (fun zw zk => XS.icmpNo X305.here hx rfl (hb hby at_491) rfl (teq (by decide : (8 : Int32) = (8 : Int32))).2 zk) ?_
      show own_Go p e below G (T305.setTop (mkF m 494 #[.val (.long q0), .second, .val (.long q1), .second, .val (.long q2), .second, .val (.long q3), .second, .val (.int p4), .val (.long tA), .second, .val (.long g0), .second, .val (.long tB), .second, .val (.long tC), .second, .val (.long tD), .second, .val (.long tE), .second, .val (.long pp), .second, .val (.long cA), .second, .val (.long cB), .second, .val (.long cC), .second, .val (.long cD), .second, .val (.long cE), .second, .val (.long qq), .second, .val (.ref b289), .val (.int (1 : Int32)), .val (.int (0 : Int32)), .val (.long (((cB + cC) + cD) + cE)), .second, .val (.long tB), .second, .unset] []))
      refine own_st (fun zw zk => XS.iconst X305.here hx rfl (hb hby at_494) zk) ?_
      refine own_st (fun zw zk => XS.goto X305.here hx rfl (pc0 := 495) (pc' := 499) rfl (hb hby at_495) (by decide) (by decide) zk) ?_
      show own_Go p e below G (T305.setTop (mkF m 499 #[.val (.long q0), .second, .val (.long q1), .second, .val (.long q2), .second, .val (.long q3), .second, .val (.int p4), .val (.long tA), .second, .val (.long g0), .second, .val (.long tB), .second, .val (.long tC), .second, .val (.long tD), .second, .val (.long tE), .second, .val (.long pp), .second, .val (.long cA), .second, .val (.long cB), .second, .val (.long cC), .second, .val (.long cD), .second, .val (.long cE), .second, .val (.long qq), .second, .val (.ref b289), .val (.int (1 : Int32)), .val (.int (0 : Int32)), .val (.long (((cB + cC) + cD) + cE)), .second, .val (.long tB), .second, .unset] [(.int (1 : Int32))]))
      refine own_st (fun zw zk => XS.istore X305.here hx rfl (hb hby at_499) rfl rfl zk) ?_
      show own_Go p e below G (T305.setTop (mkF m 501 #[.val (.long q0), .second, .val (.long q1), .second, .val (.long q2), .second, .val (.long q3), .second, .val (.int p4), .val (.long tA), .second, .val (.long g0), .second, .val (.long tB), .second, .val (.long tC), .second, .val (.long tD), .second, .val (.long tE), .second, .val (.long pp), .second, .val (.long cA), .second, .val (.long cB), .second, .val (.long cC), .second, .val (.long cD), .second, .val (.long cE), .second, .val (.long qq), .second, .val (.ref b289), .val (.int (1 : Int32)), .val (.int (0 : Int32)), .val (.long (((cB + cC) + cD) + cE)), .second, .val (.long tB), .second, .val (.int (1 : Int32))] []))
      refine own_st (fun zw zk => XS.iload X305.here hx rfl (hb hby at_501) rfl zk) ?_
      refine own_st (fun zw zk => XS.ifNo X305.here hx rfl (hb hby at_503) rfl ((if0 _ _).trans (feq (by decide : ¬ ((1 : Int32) = (0 : Int32)))).1) zk) ?_
      refine own_st (fun zw zk => XS.iload X305.here hx rfl (hb hby at_506) rfl zk) ?_
      refine own_st (fun zw zk => XS.ifYes X305.here hx rfl (pc0 := 508) (pc' := 513) rfl (hb hby at_508) rfl ((if0 _ _).trans (feq (by decide : ¬ ((1 : Int32) = (0 : Int32)))).2) (by decide) (by decide) zk) ?_
      refine own_st (fun zw zk => XS.iconst X305.here hx rfl (hb hby at_513) zk) ?_
      refine own_st (fun zw zk => XS.iload X305.here hx rfl (hb hby at_514) rfl zk) ?_
      refine own_st (fun zw zk => XS.isub X305.here hx rfl (hb hby at_516) rfl zk) ?_
      refine own_st (fun zw zk => XS.ifNo X305.here hx rfl (hb hby at_517) rfl ((if0 _ _).trans (tlt (by decide : (0 : Int32) < (4 : Int32))).2.2.2) zk) ?_
      show own_Go p e below G (T305.setTop (mkF m 520 #[.val (.long q0), .second, .val (.long q1), .second, .val (.long q2), .second, .val (.long q3), .second, .val (.int p4), .val (.long tA), .second, .val (.long g0), .second, .val (.long tB), .second, .val (.long tC), .second, .val (.long tD), .second, .val (.long tE), .second, .val (.long pp), .second, .val (.long cA), .second, .val (.long cB), .second, .val (.long cC), .second, .val (.long cD), .second, .val (.long cE), .second, .val (.long qq), .second, .val (.ref b289), .val (.int (1 : Int32)), .val (.int (0 : Int32)), .val (.long (((cB + cC) + cD) + cE)), .second, .val (.long tB), .second, .val (.int (1 : Int32))] []))
      refine own_st (fun zw zk => XS.aload X305.here hx rfl (hb hby at_520) rfl rfl zk) ?_
      refine own_st (fun zw zk => XS.lconst X305.here hx rfl (hb hby at_522) zk) ?_
      obtain ⟨cq306, kq306, q306a, q306b, q306c⟩ := isOf hZ e305 O301_0
      obtain ⟨_, _, ⟨T306, L306, k306, n306⟩, -, X306, ⟨Lc306, hQ306, l306, y306, z306⟩, st306⟩ := X305.virtualBack hx (y := (⟨"com/example/headroom/headroom/SlidingLog$Log", "timeReaching", "(J)J"⟩ : MethodName)) (z := (⟨"com/example/headroom/headroom/SlidingLog$Log", "timeReaching", "(J)J"⟩ : MethodName)) hown (mvT hZ (hw _ (List.mem_of_getElem? (i := 56) rfl))) (mvT hZ (hw _ (List.mem_of_getElem? (i := 57) rfl))) (notFace_of_selects (args := #[]) (mvT hZ (hw _ (List.mem_of_getElem? (i := 59) rfl)))) (mvT hZ (hw _ (List.mem_of_getElem? (i := 59) rfl))) (mvT hZ (hw _ (List.mem_of_getElem? (i := 58) rfl))) (by decide) (backOf (W := 0) (rm_timeReaching_1_4_8 l Z a0 hw [] b289 (1 : Int64) tt293 (((((((0 : Int64) + cA) + cB) + cC) - cA) + cD) + cE) tE cE tB cB tC cC tD cD T301.heap n0 Z301 (O301_0) (O301_1) (O301_2) (O301_3) (O301_4) (Ott293L_301) (h1_cB)) hZ (hw _ (List.mem_of_getElem? (i := 60) rfl)) (hw _ (List.mem_of_getElem? (i := 4) rfl)) (by decide) (by decide)) q306a q306c (g := (mkF m 523 #[.val (.long q0), .second, .val (.long q1), .second, .val (.long q2), .second, .val (.long q3), .second, .val (.int p4), .val (.long tA), .second, .val (.long g0), .second, .val (.long tB), .second, .val (.long tC), .second, .val (.long tD), .second, .val (.long tE), .second, .val (.long pp), .second, .val (.long cA), .second, .val (.long cB), .second, .val (.long cC), .second, .val (.long cD), .second, .val (.long cE), .second, .val (.long qq), .second, .val (.ref b289), .val (.int (1 : Int32)), .val (.int (0 : Int32)), .val (.long (((cB + cC) + cD) + cE)), .second, .val (.long tB), .second, .val (.int (1 : Int32))] [(.long (1 : Int64)), (.ref b289)])) rfl (by rw [hml]; rfl) (Steps.refl _) (argsL := [(.long (1 : Int64))]) (rest := []) (lenOf pd_5 rfl) rfl (by show 2 * 0 + _ ≤ _; exact Nat.le_of_eq rfl) (hb hby at_523) (fun _ _ => ⟨rfl, e305, (by decide : 4 + 0 ≤ _), (by decide : 19 + 0 ≤ _)⟩)
      dsimp only [Pt.U, Pt.locs, Pt.cells, Pt.slots] at X306 l306 y306 z306 st306 hQ306
      subst l306 y306 z306
      obtain ⟨rfl, N306q, e306⟩ := hQ306
      have N306 := Fr.app N301 N306q
      refine own_jp st306 ?_
      refine own_st (fun zw zk => XS.lload X306.here hx rfl (hb hby at_526) rfl zk) ?_
      refine own_st (fun zw zk => XS.lcmp X306.here hx rfl (hb hby at_528) rfl zk) ?_
      refine own_st (fun zw zk => XS.ifNo X306.here hx rfl (hb hby at_529) rfl ((if0 _ _).trans (teq (own_tle (rfl : tB = tB))).2) zk) ?_
      refine own_st (fun zw zk => XS.aload X306.here hx rfl (hb hby at_532) rfl rfl zk) ?_
      obtain ⟨cq307, kq307, q307a, q307b, q307c⟩ := isOf hZ e306 O301_0
      obtain ⟨_, _, ⟨T307, L307, k307, n307⟩, -, X307, ⟨Lc307, hQ307, l307, y307, z307⟩, st307⟩ := X306.virtualBack hx (y := (⟨"com/example/headroom/headroom/SlidingLog$Log", "latest", "()J"⟩ : MethodName)) (z := (⟨"com/example/headroom/headroom/SlidingLog$Log", "latest", "()J"⟩ : MethodName)) hown (mvT hZ (hw _ (List.mem_of_getElem? (i := 61) rfl))) (mvT hZ (hw _ (List.mem_of_getElem? (i := 35) rfl))) (notFace_of_selects (args := #[]) (mvT hZ (hw _ (List.mem_of_getElem? (i := 37) rfl)))) (mvT hZ (hw _ (List.mem_of_getElem? (i := 37) rfl))) (mvT hZ (hw _ (List.mem_of_getElem? (i := 36) rfl))) (by decide) (backOf (W := 0) (rm_latest_1_4_8 l Z a0 hw [] b289 tt293 (((((((0 : Int64) + cA) + cB) + cC) - cA) + cD) + cE) tE cE tB cB tC cC tD cD T301.heap n0 Z301 (O301_0) (O301_1) (O301_2) (O301_3) (O301_4) (Ott293L_301)) hZ (hw _ (List.mem_of_getElem? (i := 38) rfl)) (hw _ (List.mem_of_getElem? (i := 4) rfl)) (by decide) (by decide)) q307a q307c (g := (mkF m 534 #[.val (.long q0), .second, .val (.long q1), .second, .val (.long q2), .second, .val (.long q3), .second, .val (.int p4), .val (.long tA), .second, .val (.long g0), .second, .val (.long tB), .second, .val (.long tC), .second, .val (.long tD), .second, .val (.long tE), .second, .val (.long pp), .second, .val (.long cA), .second, .val (.long cB), .second, .val (.long cC), .second, .val (.long cD), .second, .val (.long cE), .second, .val (.long qq), .second, .val (.ref b289), .val (.int (1 : Int32)), .val (.int (0 : Int32)), .val (.long (((cB + cC) + cD) + cE)), .second, .val (.long tB), .second, .val (.int (1 : Int32))] [(.ref b289)])) rfl (by rw [hml]; rfl) (Steps.refl _) (argsL := []) (rest := []) (lenOf pd_2 rfl) rfl (by show 2 * 0 + _ ≤ _; exact Nat.le_of_eq rfl) (hb hby at_534) (fun _ _ => ⟨rfl, e306, (by decide : 4 + 0 ≤ _), (by decide : 19 + 0 ≤ _)⟩)
      dsimp only [Pt.U, Pt.locs, Pt.cells, Pt.slots] at X307 l307 y307 z307 st307 hQ307
      subst l307 y307 z307
      obtain ⟨rfl, N307q, e307⟩ := hQ307
      have N307 := Fr.app N306 N307q
      refine own_jp st307 ?_
      show own_Go p e below G (T307.setTop (mkF m 537 #[.val (.long q0), .second, .val (.long q1), .second, .val (.long q2), .second, .val (.long q3), .second, .val (.int p4), .val (.long tA), .second, .val (.long g0), .second, .val (.long tB), .second, .val (.long tC), .second, .val (.long tD), .second, .val (.long tE), .second, .val (.long pp), .second, .val (.long cA), .second, .val (.long cB), .second, .val (.long cC), .second, .val (.long cD), .second, .val (.long cE), .second, .val (.long qq), .second, .val (.ref b289), .val (.int (1 : Int32)), .val (.int (0 : Int32)), .val (.long (((cB + cC) + cD) + cE)), .second, .val (.long tB), .second, .val (.int (1 : Int32))] [(.long tE)]))
      refine own_st (fun zw zk => XS.lload X307.here hx rfl (hb hby at_537) rfl zk) ?_
      refine own_st (fun zw zk => XS.lcmp X307.here hx rfl (hb hby at_539) rfl zk) ?_
      refine own_st (fun zw zk => XS.ifNo X307.here hx rfl (hb hby at_540) rfl ((if0 _ _).trans (teq (own_tle (rfl : tE = tE))).2) zk) ?_
      refine own_st (fun zw zk => XS.iconst X307.here hx rfl (hb hby at_543) zk) ?_
      refine own_st (fun zw zk => XS.goto X307.here hx rfl (pc0 := 544) (pc' := 548) rfl (hb hby at_544) (by decide) (by decide) zk) ?_
      show own_Go p e below G (T307.setTop (mkF m 548 #[.val (.long q0), .second, .val (.long q1), .second, .val (.long q2), .second, .val (.long q3), .second, .val (.int p4), .val (.long tA), .second, .val (.long g0), .second, .val (.long tB), .second, .val (.long tC), .second, .val (.long tD), .second, .val (.long tE), .second, .val (.long pp), .second, .val (.long cA), .second, .val (.long cB), .second, .val (.long cC), .second, .val (.long cD), .second, .val (.long cE), .second, .val (.long qq), .second, .val (.ref b289), .val (.int (1 : Int32)), .val (.int (0 : Int32)), .val (.long (((cB + cC) + cD) + cE)), .second, .val (.long tB), .second, .val (.int (1 : Int32))] [(.int (1 : Int32))]))
      subst hG
      obtain ⟨fs, hr, hrun, hended, hW, hsame⟩ := X307.leave (v := some (.int (1 : Int32))) (hlocks := Bd.notSynchronized) (fun h => by rw [Bd.returns] at h; cases h)
      refine ⟨_, retN X307 hx (t := .boolean) Bd.returns (by simp) (hb hby at_548) hr, _, hrun, hended, _, _, rfl, ?_, ⟨_, rfl⟩, hW, hsame.mono (by decide) (by decide)⟩
      show Q0 Z q0 q1 q2 q3 p4 h0 n0 _ T307.heap _
      rw [e307]
      exact ⟨rfl, N307⟩
    · show own_Go p e below G (T300.setTop (mkF m 278 #[.val (.long q0), .second, .val (.long q1), .second, .val (.long q2), .second, .val (.long q3), .second, .val (.int p4), .val (.long tA), .second, .val (.long g0), .second, .val (.long tB), .second, .val (.long tC), .second, .val (.long tD), .second, .val (.long tE), .second, .val (.long pp), .second, .val (.long cA), .second, .val (.long cB), .second, .val (.long cC), .second, .val (.long cD), .second, .val (.long cE), .second, .val (.long qq), .second, .val (.ref b289), .val (.int (1 : Int32)), .unset, .unset, .unset, .unset, .unset, .unset] []))
      refine own_st (fun zw zk => XS.aload X300.here hx rfl (hb hby at_278) rfl rfl zk) ?_
      refine own_st (fun zw zk => XS.lload X300.here hx rfl (hb hby at_280) rfl zk) ?_
      obtain ⟨cq308, kq308, q308a, q308b, q308c⟩ := isOf hZ rfl O300_0
      obtain ⟨_, _, ⟨T308, L308, k308, n308⟩, -, X308, ⟨Lc308, hQ308, l308, y308, z308⟩, st308⟩ := X300.virtualBack hx (y := (⟨"com/example/headroom/headroom/SlidingLog$Log", "forgetUpTo", "(J)V"⟩ : MethodName)) (z := (⟨"com/example/headroom/headroom/SlidingLog$Log", "forgetUpTo", "(J)V"⟩ : MethodName)) hown (mvT hZ (hw _ (List.mem_of_getElem? (i := 47) rfl))) (mvT hZ (hw _ (List.mem_of_getElem? (i := 48) rfl))) (notFace_of_selects (args := #[]) (mvT hZ (hw _ (List.mem_of_getElem? (i := 50) rfl)))) (mvT hZ (hw _ (List.mem_of_getElem? (i := 50) rfl))) (mvT hZ (hw _ (List.mem_of_getElem? (i := 49) rfl))) (by decide) (backOf (W := 0) (rm_forgetUpTo_1_4_8_1 l Z a0 hw [] b289 qq tt293 (((((((0 : Int64) + cA) + cB) + cC) - cA) + cD) + cE) tE cE tB cB tC cC tD cD T300.heap n0 Z300 (O300_0) (O300_1) (O300_2) (O300_3) (O300_4) (O300_5) (G289) (ne_b289_tt293) (k1) (k2)) hZ (hw _ (List.mem_of_getElem? (i := 51) rfl)) (hw _ (List.mem_of_getElem? (i := 4) rfl)) (by decide) (by decide)) q308a q308c (g := (mkF m 282 #[.val (.long q0), .second, .val (.long q1), .second, .val (.long q2), .second, .val (.long q3), .second, .val (.int p4), .val (.long tA), .second, .val (.long g0), .second, .val (.long tB), .second, .val (.long tC), .second, .val (.long tD), .second, .val (.long tE), .second, .val (.long pp), .second, .val (.long cA), .second, .val (.long cB), .second, .val (.long cC), .second, .val (.long cD), .second, .val (.long cE), .second, .val (.long qq), .second, .val (.ref b289), .val (.int (1 : Int32)), .unset, .unset, .unset, .unset, .unset, .unset] [(.long qq), (.ref b289)])) rfl (by rw [hml]; rfl) (Steps.refl _) (argsL := [(.long qq)]) (rest := []) (lenOf pd_4 rfl) rfl (by show 2 * 0 + _ ≤ _; exact Nat.le_of_eq rfl) (hb hby at_282) (fun _ _ => ⟨rfl, rfl, (by decide : 4 + 0 ≤ _), (by decide : 19 + 0 ≤ _)⟩)
      dsimp only [Pt.U, Pt.locs, Pt.cells, Pt.slots] at X308 l308 y308 z308 st308 hQ308
      subst l308 y308 z308
      obtain ⟨rfl, N308q, K308, O308_0, O308_1, O308_2, O308_3, O308_4⟩ := hQ308
      have Ob289E_308 := O300_0.keep K308
      have Ott290L_308 := Ott290L_300.keep K308 (ninS (Ne.symm ne_b289_tt290) nin0)
      have Ott292L_308 := Ott292L_300.keep K308 (ninS (Ne.symm ne_b289_tt292) nin0)
      have Ott293L_308 := O300_5.keep K308 (ninS (Ne.symm ne_b289_tt293) nin0)
      have Z308 : n0 ≤ T308.heap.size := Nat.le_trans Z300 K308.1
      have N308 := Fr.app N300 N308q
      refine own_jp st308 ?_
      refine own_st (fun zw zk => XS.lload X308.here hx rfl (hb hby at_285) rfl zk) ?_
      refine own_st (fun zw zk => XS.lload X308.here hx rfl (hb hby at_287) rfl zk) ?_
      refine own_st (fun zw zk => XS.lcmp X308.here hx rfl (hb hby at_289) rfl zk) ?_
      refine own_st (fun zw zk => XS.ifNo X308.here hx rfl (hb hby at_290) rfl ((if0 _ _).trans (flt (own_flg k1)).2.2.1) zk) ?_
      refine own_st (fun zw zk => XS.iconst X308.here hx rfl (hb hby at_293) zk) ?_
      show own_Go p e below G (T308.setTop (mkF m 294 #[.val (.long q0), .second, .val (.long q1), .second, .val (.long q2), .second, .val (.long q3), .second, .val (.int p4), .val (.long tA), .second, .val (.long g0), .second, .val (.long tB), .second, .val (.long tC), .second, .val (.long tD), .second, .val (.long tE), .second, .val (.long pp), .second, .val (.long cA), .second, .val (.long cB), .second, .val (.long cC), .second, .val (.long cD), .second, .val (.long cE), .second, .val (.long qq), .second, .val (.ref b289), .val (.int (1 : Int32)), .unset, .unset, .unset, .unset, .unset, .unset] [(.int (1 : Int32))]))
      refine own_st (fun zw zk => XS.goto X308.here hx rfl (pc0 := 294) (pc' := 298) rfl (hb hby at_294) (by decide) (by decide) zk) ?_
      show own_Go p e below G (T308.setTop (mkF m 298 #[.val (.long q0), .second, .val (.long q1), .second, .val (.long q2), .second, .val (.long q3), .second, .val (.int p4), .val (.long tA), .second, .val (.long g0), .second, .val (.long tB), .second, .val (.long tC), .second, .val (.long tD), .second, .val (.long tE), .second, .val (.long pp), .second, .val (.long cA), .second, .val (.long cB), .second, .val (.long cC), .second, .val (.long cD), .second, .val (.long cE), .second, .val (.long qq), .second, .val (.ref b289), .val (.int (1 : Int32)), .unset, .unset, .unset, .unset, .unset, .unset] [(.int (1 : Int32))]))
      refine own_st (fun zw zk => XS.lload X308.here hx rfl (hb hby at_298) rfl zk) ?_
      refine own_st (fun zw zk => XS.lload X308.here hx rfl (hb hby at_300) rfl zk) ?_
      refine own_st (fun zw zk => XS.lcmp X308.here hx rfl (hb hby at_302) rfl zk) ?_
      refine own_st (fun zw zk => XS.ifYes X308.here hx rfl (pc0 := 303) (pc' := 310) rfl (hb hby at_303) rfl ((if0 _ _).trans (tlt (own_tlg k2)).2.2.1) (by decide) (by decide) zk) ?_
      refine own_st (fun zw zk => XS.iconst X308.here hx rfl (hb hby at_310) zk) ?_
      refine own_st (fun zw zk => XS.iadd X308.here hx rfl (hb hby at_311) rfl zk) ?_
      refine own_st (fun zw zk => XS.lload X308.here hx rfl (hb hby at_312) rfl zk) ?_
      refine own_st (fun zw zk => XS.lload X308.here hx rfl (hb hby at_314) rfl zk) ?_
      show own_Go p e below G (T308.setTop (mkF m 316 #[.val (.long q0), .second, .val (.long q1), .second, .val (.long q2), .second, .val (.long q3), .second, .val (.int p4), .val (.long tA), .second, .val (.long g0), .second, .val (.long tB), .second, .val (.long tC), .second, .val (.long tD), .second, .val (.long tE), .second, .val (.long pp), .second, .val (.long cA), .second, .val (.long cB), .second, .val (.long cC), .second, .val (.long cD), .second, .val (.long cE), .second, .val (.long qq), .second, .val (.ref b289), .val (.int (1 : Int32)), .unset, .unset, .unset, .unset, .unset, .unset] [(.long qq), (.long tD), (.int (1 : Int32))]))
      refine own_st (fun zw zk => XS.lcmp X308.here hx rfl (hb hby at_316) rfl zk) ?_
      refine own_st (fun zw zk => XS.ifYes X308.here hx rfl (pc0 := 317) (pc' := 324) rfl (hb hby at_317) rfl ((if0 _ _).trans (tlt (own_tlg k3)).2.2.1) (by decide) (by decide) zk) ?_
      refine own_st (fun zw zk => XS.iconst X308.here hx rfl (hb hby at_324) zk) ?_
      refine own_st (fun zw zk => XS.iadd X308.here hx rfl (hb hby at_325) rfl zk) ?_
      refine own_st (fun zw zk => XS.lload X308.here hx rfl (hb hby at_326) rfl zk) ?_
      refine own_st (fun zw zk => XS.lload X308.here hx rfl (hb hby at_328) rfl zk) ?_
      refine own_st (fun zw zk => XS.lcmp X308.here hx rfl (hb hby at_330) rfl zk) ?_
      refine own_st (fun zw zk => XS.ifYes X308.here hx rfl (pc0 := 331) (pc' := 338) rfl (hb hby at_331) rfl ((if0 _ _).trans (tlt (own_tlg k4)).2.2.1) (by decide) (by decide) zk) ?_
      show own_Go p e below G (T308.setTop (mkF m 338 #[.val (.long q0), .second, .val (.long q1), .second, .val (.long q2), .second, .val (.long q3), .second, .val (.int p4), .val (.long tA), .second, .val (.long g0), .second, .val (.long tB), .second, .val (.long tC), .second, .val (.long tD), .second, .val (.long tE), .second, .val (.long pp), .second, .val (.long cA), .second, .val (.long cB), .second, .val (.long cC), .second, .val (.long cD), .second, .val (.long cE), .second, .val (.long qq), .second, .val (.ref b289), .val (.int (1 : Int32)), .unset, .unset, .unset, .unset, .unset, .unset] [(.int (1 : Int32))]))
      refine own_st (fun zw zk => XS.iconst X308.here hx rfl (hb hby at_338) zk) ?_
      refine own_st (fun zw zk => XS.iadd X308.here hx rfl (hb hby at_339) rfl zk) ?_
      refine own_st (fun zw zk => XS.istore X308.here hx rfl (hb hby at_340) rfl rfl zk) ?_
      show own_Go p e below G (T308.setTop (mkF m 342 #[.val (.long q0), .second, .val (.long q1), .second, .val (.long q2), .second, .val (.long q3), .second, .val (.int p4), .val (.long tA), .second, .val (.long g0), .second, .val (.long tB), .second, .val (.long tC), .second, .val (.long tD), .second, .val (.long tE), .second, .val (.long pp), .second, .val (.long cA), .second, .val (.long cB), .second, .val (.long cC), .second, .val (.long cD), .second, .val (.long cE), .second, .val (.long qq), .second, .val (.ref b289), .val (.int (1 : Int32)), .val (.int (1 : Int32)), .unset, .unset, .unset, .unset, .unset] []))
      refine own_st (fun zw zk => XS.lload X308.here hx rfl (hb hby at_342) rfl zk) ?_
      refine own_st (fun zw zk => XS.lload X308.here hx rfl (hb hby at_344) rfl zk) ?_
      refine own_st (fun zw zk => XS.lcmp X308.here hx rfl (hb hby at_346) rfl zk) ?_
      refine own_st (fun zw zk => XS.ifYes X308.here hx rfl (pc0 := 347) (pc' := 355) rfl (hb hby at_347) rfl ((if0 _ _).trans (flt (own_flg k1)).2.2.2) (by decide) (by decide) zk) ?_
      refine own_st (fun zw zk => XS.lconst X308.here hx rfl (hb hby at_355) zk) ?_
      refine own_st (fun zw zk => XS.lload X308.here hx rfl (hb hby at_356) rfl zk) ?_
      refine own_st (fun zw zk => XS.lload X308.here hx rfl (hb hby at_358) rfl zk) ?_
      refine own_st (fun zw zk => XS.lcmp X308.here hx rfl (hb hby at_360) rfl zk) ?_
      show own_Go p e below G (T308.setTop (mkF m 361 #[.val (.long q0), .second, .val (.long q1), .second, .val (.long q2), .second, .val (.long q3), .second, .val (.int p4), .val (.long tA), .second, .val (.long g0), .second, .val (.long tB), .second, .val (.long tC), .second, .val (.long tD), .second, .val (.long tE), .second, .val (.long pp), .second, .val (.long cA), .second, .val (.long cB), .second, .val (.long cC), .second, .val (.long cD), .second, .val (.long cE), .second, .val (.long qq), .second, .val (.ref b289), .val (.int (1 : Int32)), .val (.int (1 : Int32)), .unset, .unset, .unset, .unset, .unset] [(.int (lcmpW tC qq)), (.long (0 : Int64))]))
      refine own_st (fun zw zk => XS.ifNo X308.here hx rfl (hb hby at_361) rfl ((if0 _ _).trans (tlt (own_tlg k2)).2.2.2) zk) ?_
      refine own_st (fun zw zk => XS.lload X308.here hx rfl (hb hby at_364) rfl zk) ?_
      refine own_st (fun zw zk => XS.goto X308.here hx rfl (pc0 := 366) (pc' := 370) rfl (hb hby at_366) (by decide) (by decide) zk) ?_
      show own_Go p e below G (T308.setTop (mkF m 370 #[.val (.long q0), .second, .val (.long q1), .second, .val (.long q2), .second, .val (.long q3), .second, .val (.int p4), .val (.long tA), .second, .val (.long g0), .second, .val (.long tB), .second, .val (.long tC), .second, .val (.long tD), .second, .val (.long tE), .second, .val (.long pp), .second, .val (.long cA), .second, .val (.long cB), .second, .val (.long cC), .second, .val (.long cD), .second, .val (.long cE), .second, .val (.long qq), .second, .val (.ref b289), .val (.int (1 : Int32)), .val (.int (1 : Int32)), .unset, .unset, .unset, .unset, .unset] [(.long cC), (.long (0 : Int64))]))
      refine own_st (fun zw zk => XS.ladd X308.here hx rfl (hb hby at_370) rfl zk) ?_
      refine own_st (fun zw zk => XS.lload X308.here hx rfl (hb hby at_371) rfl zk) ?_
      refine own_st (fun zw zk => XS.lload X308.here hx rfl (hb hby at_373) rfl zk) ?_
      refine own_st (fun zw zk => XS.lcmp X308.here hx rfl (hb hby at_375) rfl zk) ?_
      refine own_st (fun zw zk => XS.ifNo X308.here hx rfl (hb hby at_376) rfl ((if0 _ _).trans (tlt (own_tlg k3)).2.2.2) zk) ?_
      refine own_st (fun zw zk => XS.lload X308.here hx rfl (hb hby at_379) rfl zk) ?_
      refine own_st (fun zw zk => XS.goto X308.here hx rfl (pc0 := 381) (pc' := 385) rfl (hb hby at_381) (by decide) (by decide) zk) ?_
      show own_Go p e below G (T308.setTop (mkF m 385 #[.val (.long q0), .second, .val (.long q1), .second, .val (.long q2), .second, .val (.long q3), .second, .val (.int p4), .val (.long tA), .second, .val (.long g0), .second, .val (.long tB), .second, .val (.long tC), .second, .val (.long tD), .second, .val (.long tE), .second, .val (.long pp), .second, .val (.long cA), .second, .val (.long cB), .second, .val (.long cC), .second, .val (.long cD), .second, .val (.long cE), .second, .val (.long qq), .second, .val (.ref b289), .val (.int (1 : Int32)), .val (.int (1 : Int32)), .unset, .unset, .unset, .unset, .unset] [(.long cD), (.long ((0 : Int64) + cC))]))
      refine own_st (fun zw zk => XS.ladd X308.here hx rfl (hb hby at_385) rfl zk) ?_
      refine own_st (fun zw zk => XS.lload X308.here hx rfl (hb hby at_386) rfl zk) ?_
      refine own_st (fun zw zk => XS.lload X308.here hx rfl (hb hby at_388) rfl zk) ?_
      refine own_st (fun zw zk => XS.lcmp X308.here hx rfl (hb hby at_390) rfl zk) ?_
      refine own_st (fun zw zk => XS.ifNo X308.here hx rfl (hb hby at_391) rfl ((if0 _ _).trans (tlt (own_tlg k4)).2.2.2) zk) ?_
      refine own_st (fun zw zk => XS.lload X308.here hx rfl (hb hby at_394) rfl zk) ?_
      refine own_st (fun zw zk => XS.goto X308.here hx rfl (pc0 := 396) (pc' := 400) rfl (hb hby at_396) (by decide) (by decide) zk) ?_
      show own_Go p e below G (T308.setTop (mkF m 400 #[.val (.long q0), .second, .val (.long q1), .second, .val (.long q2), .second, .val (.long q3), .second, .val (.int p4), .val (.long tA), .second, .val (.long g0), .second, .val (.long tB), .second, .val (.long tC), .second, .val (.long tD), .second, .val (.long tE), .second, .val (.long pp), .second, .val (.long cA), .second, .val (.long cB), .second, .val (.long cC), .second, .val (.long cD), .second, .val (.long cE), .second, .val (.long qq), .second, .val (.ref b289), .val (.int (1 : Int32)), .val (.int (1 : Int32)), .unset, .unset, .unset, .unset, .unset] [(.long cE), (.long (((0 : Int64) + cC) + cD))]))
      refine own_st (fun zw zk => XS.ladd X308.here hx rfl (hb hby at_400) rfl zk) ?_
      refine own_st (fun zw zk => XS.lstore X308.here hx rfl (hb hby at_401) rfl rfl zk) ?_
      show own_Go p e below G (T308.setTop (mkF m 403 #[.val (.long q0), .second, .val (.long q1), .second, .val (.long q2), .second, .val (.long q3), .second, .val (.int p4), .val (.long tA), .second, .val (.long g0), .second, .val (.long tB), .second, .val (.long tC), .second, .val (.long tD), .second, .val (.long tE), .second, .val (.long pp), .second, .val (.long cA), .second, .val (.long cB), .second, .val (.long cC), .second, .val (.long cD), .second, .val (.long cE), .second, .val (.long qq), .second, .val (.ref b289), .val (.int (1 : Int32)), .val (.int (1 : Int32)), .val (.long ((((0 : Int64) + cC) + cD) + cE)), .second, .unset, .unset, .unset] []))
      refine own_st (fun zw zk => XS.lload X308.here hx rfl (hb hby at_403) rfl zk) ?_
      refine own_st (fun zw zk => XS.lload X308.here hx rfl (hb hby at_405) rfl zk) ?_
      refine own_st (fun zw zk => XS.lcmp X308.here hx rfl (hb hby at_407) rfl zk) ?_
      refine own_st (fun zw zk => XS.ifYes X308.here hx rfl (pc0 := 408) (pc' := 416) rfl (hb hby at_408) rfl ((if0 _ _).trans (flt (own_flg k1)).2.2.2) (by decide) (by decide) zk) ?_
      refine own_st (fun zw zk => XS.lload X308.here hx rfl (hb hby at_416) rfl zk) ?_
      refine own_st (fun zw zk => XS.lload X308.here hx rfl (hb hby at_418) rfl zk) ?_
      refine own_st (fun zw zk => XS.lcmp X308.here hx rfl (hb hby at_420) rfl zk) ?_
      refine own_st (fun zw zk => XS.ifNo X308.here hx rfl (hb hby at_421) rfl ((if0 _ _).trans (tlt (own_tlg k2)).2.2.2) zk) ?_
      show own_Go p e below G (T308.setTop (mkF m 424 #[.val (.long q0), .second, .val (.long q1), .second, .val (.long q2), .second, .val (.long q3), .second, .val (.int p4), .val (.long tA), .second, .val (.long g0), .second, .val (.long tB), .second, .val (.long tC), .second, .val (.long tD), .second, .val (.long tE), .second, .val (.long pp), .second, .val (.long cA), .second, .val (.long cB), .second, .val (.long cC), .second, .val (.long cD), .second, .val (.long cE), .second, .val (.long qq), .second, .val (.ref b289), .val (.int (1 : Int32)), .val (.int (1 : Int32)), .val (.long ((((0 : Int64) + cC) + cD) + cE)), .second, .unset, .unset, .unset] []))
      refine own_st (fun zw zk => XS.lload X308.here hx rfl (hb hby at_424) rfl zk) ?_
      refine own_st (fun zw zk => XS.goto X308.here hx rfl (pc0 := 426) (pc' := 444) rfl (hb hby at_426) (by decide) (by decide) zk) ?_
      show own_Go p e below G (T308.setTop (mkF m 444 #[.val (.long q0), .second, .val (.long q1), .second, .val (.long q2), .second, .val (.long q3), .second, .val (.int p4), .val (.long tA), .second, .val (.long g0), .second, .val (.long tB), .second, .val (.long tC), .second, .val (.long tD), .second, .val (.long tE), .second, .val (.long pp), .second, .val (.long cA), .second, .val (.long cB), .second, .val (.long cC), .second, .val (.long cD), .second, .val (.long cE), .second, .val (.long qq), .second, .val (.ref b289), .val (.int (1 : Int32)), .val (.int (1 : Int32)), .val (.long ((((0 : Int64) + cC) + cD) + cE)), .second, .unset, .unset, .unset] [(.long tC)]))
      refine own_st (fun zw zk => XS.lstore X308.here hx rfl (hb hby at_444) rfl rfl zk) ?_
      show own_Go p e below G (T308.setTop (mkF m 446 #[.val (.long q0), .second, .val (.long q1), .second, .val (.long q2), .second, .val (.long q3), .second, .val (.int p4), .val (.long tA), .second, .val (.long g0), .second, .val (.long tB), .second, .val (.long tC), .second, .val (.long tD), .second, .val (.long tE), .second, .val (.long pp), .second, .val (.long cA), .second, .val (.long cB), .second, .val (.long cC), .second, .val (.long cD), .second, .val (.long cE), .second, .val (.long qq), .second, .val (.ref b289), .val (.int (1 : Int32)), .val (.int (1 : Int32)), .val (.long ((((0 : Int64) + cC) + cD) + cE)), .second, .val (.long tC), .second, .unset] []))
      refine own_st (fun zw zk => XS.aload X308.here hx rfl (hb hby at_446) rfl rfl zk) ?_
      obtain ⟨T309, X309, e309, st309⟩ := getF X308 hx hZ hown (host := "") (Or.inl (hw _ (List.mem_of_getElem? (i := 52) rfl))) Via.refl rfl O308_3 (g := (mkF m 448 #[.val (.long q0), .second, .val (.long q1), .second, .val (.long q2), .second, .val (.long q3), .second, .val (.int p4), .val (.long tA), .second, .val (.long g0), .second, .val (.long tB), .second, .val (.long tC), .second, .val (.long tD), .second, .val (.long tE), .second, .val (.long pp), .second, .val (.long cA), .second, .val (.long cB), .second, .val (.long cC), .second, .val (.long cD), .second, .val (.long cE), .second, .val (.long qq), .second, .val (.ref b289), .val (.int (1 : Int32)), .val (.int (1 : Int32)), .val (.long ((((0 : Int64) + cC) + cD) + cE)), .second, .val (.long tC), .second, .unset] [(.ref b289)])) rfl rfl (hb hby at_448)
      refine own_st (fun zw zk => st309 zw zk) ?_
      refine own_st (fun zw zk => XS.iconst X309.here hx rfl (hb hby at_451) zk) ?_
      refine own_st (fun zw zk => XS.iload X309.here hx rfl (hb hby at_452) rfl zk) ?_
      refine own_st (fun zw zk => XS.isub X309.here hx rfl (hb hby at_454) rfl zk) ?_
      refine own_st (fun zw zk => XS.icmpNo X309.here hx rfl (hb hby at_455) rfl (teq (by decide : (3 : Int32) = (3 : Int32))).2 zk) ?_
      refine own_st (fun zw zk => XS.aload X309.here hx rfl (hb hby at_458) rfl rfl zk) ?_
      obtain ⟨T310, X310, e310, st310⟩ := getF X309 hx hZ hown (host := "") (Or.inl (hw _ (List.mem_of_getElem? (i := 53) rfl))) Via.refl e309 O308_4 (g := (mkF m 460 #[.val (.long q0), .second, .val (.long q1), .second, .val (.long q2), .second, .val (.long q3), .second, .val (.int p4), .val (.long tA), .second, .val (.long g0), .second, .val (.long tB), .second, .val (.long tC), .second, .val (.long tD), .second, .val (.long tE), .second, .val (.long pp), .second, .val (.long cA), .second, .val (.long cB), .second, .val (.long cC), .second, .val (.long cD), .second, .val (.long cE), .second, .val (.long qq), .second, .val (.ref b289), .val (.int (1 : Int32)), .val (.int (1 : Int32)), .val (.long ((((0 : Int64) + cC) + cD) + cE)), .second, .val (.long tC), .second, .unset] [(.ref b289)])) rfl rfl (hb hby at_460)
      refine own_st (fun zw zk => st310 zw zk) ?_
      show own_Go p e below G (T310.setTop (mkF m 463 #[.val (.long q0), .second, .val (.long q1), .second, .val (.long q2), .second, .val (.long q3), .second, .val (.int p4), .val (.long tA), .second, .val (.long g0), .second, .val (.long tB), .second, .val (.long tC), .second, .val (.long tD), .second, .val (.long tE), .second, .val (.long pp), .second, .val (.long cA), .second, .val (.long cB), .second, .val (.long cC), .second, .val (.long cD), .second, .val (.long cE), .second, .val (.long qq), .second, .val (.ref b289), .val (.int (1 : Int32)), .val (.int (1 : Int32)), .val (.long ((((0 : Int64) + cC) + cD) + cE)), .second, .val (.long tC), .second, .unset] [(.long ((((((((0 : Int64) + cA) + cB) + cC) - cA) + cD) + cE) - cB))]))
      refine own_st (fun zw zk => XS.lload X310.here hx rfl (hb hby at_463) rfl zk) ?_
      refine own_st (fun zw zk => XS.lcmp X310.here hx rfl (hb hby at_465) rfl zk) ?_
      have hc466 : ((((((((0 : Int64) + cA) + cB) + cC) - cA) + cD) + cE) - cB) = ((((0 : Int64) + cC) + cD) + cE) := by first | (rw [own_adm1]; done) | (rw [own_adm1]; grind) | grind
      refine own_st (fun zw zk => XS.ifNo X310.here hx rfl (hb hby at_466) rfl ((if0 _ _).trans (teq (own_tle hc466)).2) zk) ?_
      refine own_st (fun zw zk => XS.aload X310.here hx rfl (hb hby at_469) rfl rfl zk) ?_
      obtain ⟨T311, X311, e311, st311⟩ := getF X310 hx hZ hown (host := "") (Or.inl (hw _ (List.mem_of_getElem? (i := 54) rfl))) Via.refl e310 O308_2 (g := (mkF m 471 #[.val (.long q0), .second, .val (.long q1), .second, .val (.long q2), .second, .val (.long q3), .second, .val (.int p4), .val (.long tA), .second, .val (.long g0), .second, .val (.long tB), .second, .val (.long tC), .second, .val (.long tD), .second, .val (.long tE), .second, .val (.long pp), .second, .val (.long cA), .second, .val (.long cB), .second, .val (.long cC), .second, .val (.long cD), .second, .val (.long cE), .second, .val (.long qq), .second, .val (.ref b289), .val (.int (1 : Int32)), .val (.int (1 : Int32)), .val (.long ((((0 : Int64) + cC) + cD) + cE)), .second, .val (.long tC), .second, .unset] [(.ref b289)])) rfl rfl (hb hby at_471)
      refine own_st (fun zw zk => st311 zw zk) ?_
      refine own_st (fun zw zk => XS.iconst X311.here hx rfl (hb hby at_474) zk) ?_
      refine own_st (fun zw zk => XS.iload X311.here hx rfl (hb hby at_475) rfl zk) ?_
      refine own_st (fun zw zk => XS.iadd X311.here hx rfl (hb hby at_477) rfl zk) ?_
      show own_Go p e below G (T311.setTop (mkF m 478 #[.val (.long q0), .second, .val (.long q1), .second, .val (.long q2), .second, .val (.long q3), .second, .val (.int p4), .val (.long tA), .second, .val (.long g0), .second, .val (.long tB), .second, .val (.long tC), .second, .val (.long tD), .second, .val (.long tE), .second, .val (.long pp), .second, .val (.long cA), .second, .val (.long cB), .second, .val (.long cC), .second, .val (.long cD), .second, .val (.long cE), .second, .val (.long qq), .second, .val (.ref b289), .val (.int (1 : Int32)), .val (.int (1 : Int32)), .val (.long ((((0 : Int64) + cC) + cD) + cE)), .second, .val (.long tC), .second, .unset] [(.int (2 : Int32)), (.int (2 : Int32))]))
      refine own_st (fun zw zk => XS.iconst X311.here hx rfl (hb hby at_478) zk) ?_
      refine own_st (fun zw zk => XS.iand X311.here hx rfl (hb hby at_479) rfl zk) ?_
      refine own_st (fun zw zk => XS.icmpNo X311.here hx rfl (hb hby at_480) rfl (teq (by decide : (2 : Int32) = (2 : Int32))).2 zk) ?_
      refine own_st (fun zw zk => XS.aload X311.here hx rfl (hb hby at_483) rfl rfl zk) ?_
      obtain ⟨T312, X312, e312, st312⟩ := getF X311 hx hZ hown (host := "") (Or.inl (hw _ (List.mem_of_getElem? (i := 55) rfl))) Via.refl e311 O308_1 (g := (mkF m 485 #[.val (.long q0), .second, .val (.long q1), .second, .val (.long q2), .second, .val (.long q3), .second, .val (.int p4), .val (.long tA), .second, .val (.long g0), .second, .val (.long tB), .second, .val (.long tC), .second, .val (.long tD), .second, .val (.long tE), .second, .val (.long pp), .second, .val (.long cA), .second, .val (.long cB), .second, .val (.long cC), .second, .val (.long cD), .second, .val (.long cE), .second, .val (.long qq), .second, .val (.ref b289), .val (.int (1 : Int32)), .val (.int (1 : Int32)), .val (.long ((((0 : Int64) + cC) + cD) + cE)), .second, .val (.long tC), .second, .unset] [(.ref b289)])) rfl rfl (hb hby at_485)
      refine own_st (fun zw zk => st312 zw zk) ?_
      refine own_st (fun zw zk => own_len X312 hx hZ e312 Ott293L_308 (z := (8 : Int32)) (rfl) (g := (mkF m 488 #[.val (.long q0), .second, .val (.long q1), .second, .val (.long q2), .second, .val (.long q3), .second, .val (.int p4), .val (.long tA), .second, .val (.long g0), .second, .val (.long tB), .second, .val (.long tC), .second, .val (.long tD), .second, .val (.long tE), .second, .val (.long pp), .second, .val (.long cA), .second, .val (.long cB), .second, .val (.long cC), .second, .val (.long cD), .second, .val (.long cE), .second, .val (.long qq), .second, .val (.ref b289), .val (.int (1 : Int32)), .val (.int (1 : Int32)), .val (.long ((((0 : Int64) + cC) + cD) + cE)), .second, .val (.long tC), .second, .unset] [(.ref tt293)])) rfl rfl (hb hby at_488) _ zk) ?_
      refine own_st (fun zw zk => XS.bipush X312.here hx rfl (hb hby at_489) zk) ?_
      refine own_st (fun zw zk => XS.icmpNo X312.here hx rfl (hb hby at_491) rfl (teq (by decide : (8 : Int32) = (8 : Int32))).2 zk) ?_
      show own_Go p e below G (T312.setTop (mkF m 494 #[.val (.long q0), .second, .val (.long q1), .second, .val (.long q2), .second, .val (.long q3), .second, .val (.int p4), .val (.long tA), .second, .val (.long g0), .second, .val (.long tB), .second, .val (.long tC), .second, .val (.long tD), .second, .val (.long tE), .second, .val (.long pp), .second, .val (.long cA), .second, .val (.long cB), .second, .val (.long cC), .second, .val (.long cD), .second, .val (.long cE), .second, .val (.long qq), .second, .val (.ref b289), .val (.int (1 : Int32)), .val (.int (1 : Int32)), .val (.long ((((0 : Int64) + cC) + cD) + cE)), .second, .val (.long tC), .second, .unset] []))
      refine own_st (fun zw zk => XS.iconst X312.here hx rfl (hb hby at_494) zk) ?_
      refine own_st (fun zw zk => XS.goto X312.here hx rfl (pc0 := 495) (pc' := 499) rfl (hb hby at_495) (by decide) (by decide) zk) ?_
      show own_Go p e below G (T312.setTop (mkF m 499 #[.val (.long q0), .second, .val (.long q1), .second, .val (.long q2), .second, .val (.long q3), .second, .val (.int p4), .val (.long tA), .second, .val (.long g0), .second, .val (.long tB), .second, .val (.long tC), .second, .val (.long tD), .second, .val (.long tE), .second, .val (.long pp), .second, .val (.long cA), .second, .val (.long cB), .second, .val (.long cC), .second, .val (.long cD), .second, .val (.long cE), .second, .val (.long qq), .second, .val (.ref b289), .val (.int (1 : Int32)), .val (.int (1 : Int32)), .val (.long ((((0 : Int64) + cC) + cD) + cE)), .second, .val (.long tC), .second, .unset] [(.int (1 : Int32))]))
      refine own_st (fun zw zk => XS.istore X312.here hx rfl (hb hby at_499) rfl rfl zk) ?_
      show own_Go p e below G (T312.setTop (mkF m 501 #[.val (.long q0), .second, .val (.long q1), .second, .val (.long q2), .second, .val (.long q3), .second, .val (.int p4), .val (.long tA), .second, .val (.long g0), .second, .val (.long tB), .second, .val (.long tC), .second, .val (.long tD), .second, .val (.long tE), .second, .val (.long pp), .second, .val (.long cA), .second, .val (.long cB), .second, .val (.long cC), .second, .val (.long cD), .second, .val (.long cE), .second, .val (.long qq), .second, .val (.ref b289), .val (.int (1 : Int32)), .val (.int (1 : Int32)), .val (.long ((((0 : Int64) + cC) + cD) + cE)), .second, .val (.long tC), .second, .val (.int (1 : Int32))] []))
      refine own_st (fun zw zk => XS.iload X312.here hx rfl (hb hby at_501) rfl zk) ?_
      refine own_st (fun zw zk => XS.ifNo X312.here hx rfl (hb hby at_503) rfl ((if0 _ _).trans (feq (by decide : ¬ ((1 : Int32) = (0 : Int32)))).1) zk) ?_
      refine own_st (fun zw zk => XS.iload X312.here hx rfl (hb hby at_506) rfl zk) ?_
      refine own_st (fun zw zk => XS.ifYes X312.here hx rfl (pc0 := 508) (pc' := 513) rfl (hb hby at_508) rfl ((if0 _ _).trans (feq (by decide : ¬ ((1 : Int32) = (0 : Int32)))).2) (by decide) (by decide) zk) ?_
      refine own_st (fun zw zk => XS.iconst X312.here hx rfl (hb hby at_513) zk) ?_
      refine own_st (fun zw zk => XS.iload X312.here hx rfl (hb hby at_514) rfl zk) ?_
      refine own_st (fun zw zk => XS.isub X312.here hx rfl (hb hby at_516) rfl zk) ?_
      refine own_st (fun zw zk => XS.ifNo X312.here hx rfl (hb hby at_517) rfl ((if0 _ _).trans (tlt (by decide : (0 : Int32) < (3 : Int32))).2.2.2) zk) ?_
      show own_Go p e below G (T312.setTop (mkF m 520 #[.val (.long q0), .second, .val (.long q1), .second, .val (.long q2), .second, .val (.long q3), .second, .val (.int p4), .val (.long tA), .second, .val (.long g0), .second, .val (.long tB), .second, .val (.long tC), .second, .val (.long tD), .second, .val (.long tE), .second, .val (.long pp), .second, .val (.long cA), .second, .val (.long cB), .second, .val (.long cC), .second, .val (.long cD), .second, .val (.long cE), .second, .val (.long qq), .second, .val (.ref b289), .val (.int (1 : Int32)), .val (.int (1 : Int32)), .val (.long ((((0 : Int64) + cC) + cD) + cE)), .second, .val (.long tC), .second, .val (.int (1 : Int32))] []))
      refine own_st (fun zw zk => XS.aload X312.here hx rfl (hb hby at_520) rfl rfl zk) ?_
      refine own_st (fun zw zk => XS.lconst X312.here hx rfl (hb hby at_522) zk) ?_
      obtain ⟨cq313, kq313, q313a, q313b, q313c⟩ := isOf hZ e312 O308_0
      obtain ⟨_, _, ⟨T313, L313, k313, n313⟩, -, X313, ⟨Lc313, hQ313, l313, y313, z313⟩, st313⟩ := X312.virtualBack hx (y := (⟨"com/example/headroom/headroom/SlidingLog$Log", "timeReaching", "(J)J"⟩ : MethodName)) (z := (⟨"com/example/headroom/headroom/SlidingLog$Log", "timeReaching", "(J)J"⟩ : MethodName)) hown (mvT hZ (hw _ (List.mem_of_getElem? (i := 56) rfl))) (mvT hZ (hw _ (List.mem_of_getElem? (i := 57) rfl))) (notFace_of_selects (args := #[]) (mvT hZ (hw _ (List.mem_of_getElem? (i := 59) rfl)))) (mvT hZ (hw _ (List.mem_of_getElem? (i := 59) rfl))) (mvT hZ (hw _ (List.mem_of_getElem? (i := 58) rfl))) (by decide) (backOf (W := 0) (rm_timeReaching_2_3_8 l Z a0 hw [] b289 (1 : Int64) tt293 ((((((((0 : Int64) + cA) + cB) + cC) - cA) + cD) + cE) - cB) tE cE tB cB tC cC tD cD T308.heap n0 Z308 (O308_0) (O308_1) (O308_2) (O308_3) (O308_4) (Ott293L_308) (h1_cC)) hZ (hw _ (List.mem_of_getElem? (i := 60) rfl)) (hw _ (List.mem_of_getElem? (i := 4) rfl)) (by decide) (by decide)) q313a q313c (g := (mkF m 523 #[.val (.long q0), .second, .val (.long q1), .second, .val (.long q2), .second, .val (.long q3), .second, .val (.int p4), .val (.long tA), .second, .val (.long g0), .second, .val (.long tB), .second, .val (.long tC), .second, .val (.long tD), .second, .val (.long tE), .second, .val (.long pp), .second, .val (.long cA), .second, .val (.long cB), .second, .val (.long cC), .second, .val (.long cD), .second, .val (.long cE), .second, .val (.long qq), .second, .val (.ref b289), .val (.int (1 : Int32)), .val (.int (1 : Int32)), .val (.long ((((0 : Int64) + cC) + cD) + cE)), .second, .val (.long tC), .second, .val (.int (1 : Int32))] [(.long (1 : Int64)), (.ref b289)])) rfl (by rw [hml]; rfl) (Steps.refl _) (argsL := [(.long (1 : Int64))]) (rest := []) (lenOf pd_5 rfl) rfl (by show 2 * 0 + _ ≤ _; exact Nat.le_of_eq rfl) (hb hby at_523) (fun _ _ => ⟨rfl, e312, (by decide : 4 + 0 ≤ _), (by decide : 19 + 0 ≤ _)⟩)
      dsimp only [Pt.U, Pt.locs, Pt.cells, Pt.slots] at X313 l313 y313 z313 st313 hQ313
      subst l313 y313 z313
      obtain ⟨rfl, N313q, e313⟩ := hQ313
      have N313 := Fr.app N308 N313q
      refine own_jp st313 ?_
      refine own_st (fun zw zk => XS.lload X313.here hx rfl (hb hby at_526) rfl zk) ?_
      refine own_st (fun zw zk => XS.lcmp X313.here hx rfl (hb hby at_528) rfl zk) ?_
      refine own_st (fun zw zk => XS.ifNo X313.here hx rfl (hb hby at_529) rfl ((if0 _ _).trans (teq (own_tle (rfl : tC = tC))).2) zk) ?_
      refine own_st (fun zw zk => XS.aload X313.here hx rfl (hb hby at_532) rfl rfl zk) ?_
      obtain ⟨cq314, kq314, q314a, q314b, q314c⟩ := isOf hZ e313 O308_0
      obtain ⟨_, _, ⟨T314, L314, k314, n314⟩, -, X314, ⟨Lc314, hQ314, l314, y314, z314⟩, st314⟩ := X313.virtualBack hx (y := (⟨"com/example/headroom/headroom/SlidingLog$Log", "latest", "()J"⟩ : MethodName)) (z := (⟨"com/example/headroom/headroom/SlidingLog$Log", "latest", "()J"⟩ : MethodName)) hown (mvT hZ (hw _ (List.mem_of_getElem? (i := 61) rfl))) (mvT hZ (hw _ (List.mem_of_getElem? (i := 35) rfl))) (notFace_of_selects (args := #[]) (mvT hZ (hw _ (List.mem_of_getElem? (i := 37) rfl)))) (mvT hZ (hw _ (List.mem_of_getElem? (i := 37) rfl))) (mvT hZ (hw _ (List.mem_of_getElem? (i := 36) rfl))) (by decide) (backOf (W := 0) (rm_latest_2_3_8 l Z a0 hw [] b289 tt293 ((((((((0 : Int64) + cA) + cB) + cC) - cA) + cD) + cE) - cB) tE cE tB cB tC cC tD cD T308.heap n0 Z308 (O308_0) (O308_1) (O308_2) (O308_3) (O308_4) (Ott293L_308)) hZ (hw _ (List.mem_of_getElem? (i := 38) rfl)) (hw _ (List.mem_of_getElem? (i := 4) rfl)) (by decide) (by decide)) q314a q314c (g := (mkF m 534 #[.val (.long q0), .second, .val (.long q1), .second, .val (.long q2), .second, .val (.long q3), .second, .val (.int p4), .val (.long tA), .second, .val (.long g0), .second, .val (.long tB), .second, .val (.long tC), .second, .val (.long tD), .second, .val (.long tE), .second, .val (.long pp), .second, .val (.long cA), .second, .val (.long cB), .second, .val (.long cC), .second, .val (.long cD), .second, .val (.long cE), .second, .val (.long qq), .second, .val (.ref b289), .val (.int (1 : Int32)), .val (.int (1 : Int32)), .val (.long ((((0 : Int64) + cC) + cD) + cE)), .second, .val (.long tC), .second, .val (.int (1 : Int32))] [(.ref b289)])) rfl (by rw [hml]; rfl) (Steps.refl _) (argsL := []) (rest := []) (lenOf pd_2 rfl) rfl (by show 2 * 0 + _ ≤ _; exact Nat.le_of_eq rfl) (hb hby at_534) (fun _ _ => ⟨rfl, e313, (by decide : 4 + 0 ≤ _), (by decide : 19 + 0 ≤ _)⟩)
      dsimp only [Pt.U, Pt.locs, Pt.cells, Pt.slots] at X314 l314 y314 z314 st314 hQ314
      subst l314 y314 z314
      obtain ⟨rfl, N314q, e314⟩ := hQ314
      have N314 := Fr.app N313 N314q
      refine own_jp st314 ?_
      show own_Go p e below G (T314.setTop (mkF m 537 #[.val (.long q0), .second, .val (.long q1), .second, .val (.long q2), .second, .val (.long q3), .second, .val (.int p4), .val (.long tA), .second, .val (.long g0), .second, .val (.long tB), .second, .val (.long tC), .second, .val (.long tD), .second, .val (.long tE), .second, .val (.long pp), .second, .val (.long cA), .second, .val (.long cB), .second, .val (.long cC), .second, .val (.long cD), .second, .val (.long cE), .second, .val (.long qq), .second, .val (.ref b289), .val (.int (1 : Int32)), .val (.int (1 : Int32)), .val (.long ((((0 : Int64) + cC) + cD) + cE)), .second, .val (.long tC), .second, .val (.int (1 : Int32))] [(.long tE)]))
      refine own_st (fun zw zk => XS.lload X314.here hx rfl (hb hby at_537) rfl zk) ?_
      refine own_st (fun zw zk => XS.lcmp X314.here hx rfl (hb hby at_539) rfl zk) ?_
      refine own_st (fun zw zk => XS.ifNo X314.here hx rfl (hb hby at_540) rfl ((if0 _ _).trans (teq (own_tle (rfl : tE = tE))).2) zk) ?_
      refine own_st (fun zw zk => XS.iconst X314.here hx rfl (hb hby at_543) zk) ?_
      refine own_st (fun zw zk => XS.goto X314.here hx rfl (pc0 := 544) (pc' := 548) rfl (hb hby at_544) (by decide) (by decide) zk) ?_
      show own_Go p e below G (T314.setTop (mkF m 548 #[.val (.long q0), .second, .val (.long q1), .second, .val (.long q2), .second, .val (.long q3), .second, .val (.int p4), .val (.long tA), .second, .val (.long g0), .second, .val (.long tB), .second, .val (.long tC), .second, .val (.long tD), .second, .val (.long tE), .second, .val (.long pp), .second, .val (.long cA), .second, .val (.long cB), .second, .val (.long cC), .second, .val (.long cD), .second, .val (.long cE), .second, .val (.long qq), .second, .val (.ref b289), .val (.int (1 : Int32)), .val (.int (1 : Int32)), .val (.long ((((0 : Int64) + cC) + cD) + cE)), .second, .val (.long tC), .second, .val (.int (1 : Int32))] [(.int (1 : Int32))]))
      subst hG
      obtain ⟨fs, hr, hrun, hended, hW, hsame⟩ := X314.leave (v := some (.int (1 : Int32))) (hlocks := Bd.notSynchronized) (fun h => by rw [Bd.returns] at h; cases h)
      refine ⟨_, retN X314 hx (t := .boolean) Bd.returns (by simp) (hb hby at_548) hr, _, hrun, hended, _, _, rfl, ?_, ⟨_, rfl⟩, hW, hsame.mono (by decide) (by decide)⟩
      show Q0 Z q0 q1 q2 q3 p4 h0 n0 _ T314.heap _
      rw [e314]
      exact ⟨rfl, N314⟩
    · show own_Go p e below G (T300.setTop (mkF m 278 #[.val (.long q0), .second, .val (.long q1), .second, .val (.long q2), .second, .val (.long q3), .second, .val (.int p4), .val (.long tA), .second, .val (.long g0), .second, .val (.long tB), .second, .val (.long tC), .second, .val (.long tD), .second, .val (.long tE), .second, .val (.long pp), .second, .val (.long cA), .second, .val (.long cB), .second, .val (.long cC), .second, .val (.long cD), .second, .val (.long cE), .second, .val (.long qq), .second, .val (.ref b289), .val (.int (1 : Int32)), .unset, .unset, .unset, .unset, .unset, .unset] []))
      refine own_st (fun zw zk => XS.aload X300.here hx rfl (hb hby at_278) rfl rfl zk) ?_
      refine own_st (fun zw zk => XS.lload X300.here hx rfl (hb hby at_280) rfl zk) ?_
      obtain ⟨cq315, kq315, q315a, q315b, q315c⟩ := isOf hZ rfl O300_0
      obtain ⟨_, _, ⟨T315, L315, k315, n315⟩, -, X315, ⟨Lc315, hQ315, l315, y315, z315⟩, st315⟩ := X300.virtualBack hx (y := (⟨"com/example/headroom/headroom/SlidingLog$Log", "forgetUpTo", "(J)V"⟩ : MethodName)) (z := (⟨"com/example/headroom/headroom/SlidingLog$Log", "forgetUpTo", "(J)V"⟩ : MethodName)) hown (mvT hZ (hw _ (List.mem_of_getElem? (i := 47) rfl))) (mvT hZ (hw _ (List.mem_of_getElem? (i := 48) rfl))) (notFace_of_selects (args := #[]) (mvT hZ (hw _ (List.mem_of_getElem? (i := 50) rfl)))) (mvT hZ (hw _ (List.mem_of_getElem? (i := 50) rfl))) (mvT hZ (hw _ (List.mem_of_getElem? (i := 49) rfl))) (by decide) (backOf (W := 0) (rm_forgetUpTo_1_4_8_2 l Z a0 hw [] b289 qq tt293 (((((((0 : Int64) + cA) + cB) + cC) - cA) + cD) + cE) tE cE tB cB tC cC tD cD T300.heap n0 Z300 (O300_0) (O300_1) (O300_2) (O300_3) (O300_4) (O300_5) (G289) (ne_b289_tt293) (k1) (k2) (k3)) hZ (hw _ (List.mem_of_getElem? (i := 51) rfl)) (hw _ (List.mem_of_getElem? (i := 4) rfl)) (by decide) (by decide)) q315a q315c (g := (mkF m 282 #[.val (.long q0), .second, .val (.long q1), .second, .val (.long q2), .second, .val (.long q3), .second, .val (.int p4), .val (.long tA), .second, .val (.long g0), .second, .val (.long tB), .second, .val (.long tC), .second, .val (.long tD), .second, .val (.long tE), .second, .val (.long pp), .second, .val (.long cA), .second, .val (.long cB), .second, .val (.long cC), .second, .val (.long cD), .second, .val (.long cE), .second, .val (.long qq), .second, .val (.ref b289), .val (.int (1 : Int32)), .unset, .unset, .unset, .unset, .unset, .unset] [(.long qq), (.ref b289)])) rfl (by rw [hml]; rfl) (Steps.refl _) (argsL := [(.long qq)]) (rest := []) (lenOf pd_4 rfl) rfl (by show 2 * 0 + _ ≤ _; exact Nat.le_of_eq rfl) (hb hby at_282) (fun _ _ => ⟨rfl, rfl, (by decide : 4 + 0 ≤ _), (by decide : 19 + 0 ≤ _)⟩)
      dsimp only [Pt.U, Pt.locs, Pt.cells, Pt.slots] at X315 l315 y315 z315 st315 hQ315
      subst l315 y315 z315
      obtain ⟨rfl, N315q, K315, O315_0, O315_1, O315_2, O315_3, O315_4⟩ := hQ315
      have Ob289E_315 := O300_0.keep K315
      have Ott290L_315 := Ott290L_300.keep K315 (ninS (Ne.symm ne_b289_tt290) nin0)
      have Ott292L_315 := Ott292L_300.keep K315 (ninS (Ne.symm ne_b289_tt292) nin0)
      have Ott293L_315 := O300_5.keep K315 (ninS (Ne.symm ne_b289_tt293) nin0)
      have Z315 : n0 ≤ T315.heap.size := Nat.le_trans Z300 K315.1
      have N315 := Fr.app N300 N315q
      refine own_jp st315 ?_
      refine own_st (fun zw zk => XS.lload X315.here hx rfl (hb hby at_285) rfl zk) ?_
      refine own_st (fun zw zk => XS.lload X315.here hx rfl (hb hby at_287) rfl zk) ?_
      refine own_st (fun zw zk => XS.lcmp X315.here hx rfl (hb hby at_289) rfl zk) ?_
      refine own_st (fun zw zk => XS.ifNo X315.here hx rfl (hb hby at_290) rfl ((if0 _ _).trans (flt (own_flg k1)).2.2.1) zk) ?_
      refine own_st (fun zw zk => XS.iconst X315.here hx rfl (hb hby at_293) zk) ?_
      show own_Go p e below G (T315.setTop (mkF m 294 #[.val (.long q0), .second, .val (.long q1), .second, .val (.long q2), .second, .val (.long q3), .second, .val (.int p4), .val (.long tA), .second, .val (.long g0), .second, .val (.long tB), .second, .val (.long tC), .second, .val (.long tD), .second, .val (.long tE), .second, .val (.long pp), .second, .val (.long cA), .second, .val (.long cB), .second, .val (.long cC), .second, .val (.long cD), .second, .val (.long cE), .second, .val (.long qq), .second, .val (.ref b289), .val (.int (1 : Int32)), .unset, .unset, .unset, .unset, .unset, .unset] [(.int (1 : Int32))]))
      refine own_st (fun zw zk => XS.goto X315.here hx rfl (pc0 := 294) (pc' := 298) rfl (hb hby at_294) (by decide) (by decide) zk) ?_
      show own_Go p e below G (T315.setTop (mkF m 298 #[.val (.long q0), .second, .val (.long q1), .second, .val (.long q2), .second, .val (.long q3), .second, .val (.int p4), .val (.long tA), .second, .val (.long g0), .second, .val (.long tB), .second, .val (.long tC), .second, .val (.long tD), .second, .val (.long tE), .second, .val (.long pp), .second, .val (.long cA), .second, .val (.long cB), .second, .val (.long cC), .second, .val (.long cD), .second, .val (.long cE), .second, .val (.long qq), .second, .val (.ref b289), .val (.int (1 : Int32)), .unset, .unset, .unset, .unset, .unset, .unset] [(.int (1 : Int32))]))
      refine own_st (fun zw zk => XS.lload X315.here hx rfl (hb hby at_298) rfl zk) ?_
      refine own_st (fun zw zk => XS.lload X315.here hx rfl (hb hby at_300) rfl zk) ?_
      refine own_st (fun zw zk => XS.lcmp X315.here hx rfl (hb hby at_302) rfl zk) ?_
      refine own_st (fun zw zk => XS.ifNo X315.here hx rfl (hb hby at_303) rfl ((if0 _ _).trans (flt (own_flg k2)).2.2.1) zk) ?_
      refine own_st (fun zw zk => XS.iconst X315.here hx rfl (hb hby at_306) zk) ?_
      refine own_st (fun zw zk => XS.goto X315.here hx rfl (pc0 := 307) (pc' := 311) rfl (hb hby at_307) (by decide) (by decide) zk) ?_
      show own_Go p e below G (T315.setTop (mkF m 311 #[.val (.long q0), .second, .val (.long q1), .second, .val (.long q2), .second, .val (.long q3), .second, .val (.int p4), .val (.long tA), .second, .val (.long g0), .second, .val (.long tB), .second, .val (.long tC), .second, .val (.long tD), .second, .val (.long tE), .second, .val (.long pp), .second, .val (.long cA), .second, .val (.long cB), .second, .val (.long cC), .second, .val (.long cD), .second, .val (.long cE), .second, .val (.long qq), .second, .val (.ref b289), .val (.int (1 : Int32)), .unset, .unset, .unset, .unset, .unset, .unset] [(.int (1 : Int32)), (.int (1 : Int32))]))
      refine own_st (fun zw zk => XS.iadd X315.here hx rfl (hb hby at_311) rfl zk) ?_
      refine own_st (fun zw zk => XS.lload X315.here hx rfl (hb hby at_312) rfl zk) ?_
      refine own_st (fun zw zk => XS.lload X315.here hx rfl (hb hby at_314) rfl zk) ?_
      refine own_st (fun zw zk => XS.lcmp X315.here hx rfl (hb hby at_316) rfl zk) ?_
      refine own_st (fun zw zk => XS.ifYes X315.here hx rfl (pc0 := 317) (pc' := 324) rfl (hb hby at_317) rfl ((if0 _ _).trans (tlt (own_tlg k3)).2.2.1) (by decide) (by decide) zk) ?_
      refine own_st (fun zw zk => XS.iconst X315.here hx rfl (hb hby at_324) zk) ?_
      refine own_st (fun zw zk => XS.iadd X315.here hx rfl (hb hby at_325) rfl zk) ?_
      refine own_st (fun zw zk => XS.lload X315.here hx rfl (hb hby at_326) rfl zk) ?_
      show own_Go p e below G (T315.setTop (mkF m 328 #[.val (.long q0), .second, .val (.long q1), .second, .val (.long q2), .second, .val (.long q3), .second, .val (.int p4), .val (.long tA), .second, .val (.long g0), .second, .val (.long tB), .second, .val (.long tC), .second, .val (.long tD), .second, .val (.long tE), .second, .val (.long pp), .second, .val (.long cA), .second, .val (.long cB), .second, .val (.long cC), .second, .val (.long cD), .second, .val (.long cE), .second, .val (.long qq), .second, .val (.ref b289), .val (.int (1 : Int32)), .unset, .unset, .unset, .unset, .unset, .unset] [(.long tE), (.int (2 : Int32))]))
      refine own_st (fun zw zk => XS.lload X315.here hx rfl (hb hby at_328) rfl zk) ?_
      refine own_st (fun zw zk => XS.lcmp X315.here hx rfl (hb hby at_330) rfl zk) ?_
      refine own_st (fun zw zk => XS.ifYes X315.here hx rfl (pc0 := 331) (pc' := 338) rfl (hb hby at_331) rfl ((if0 _ _).trans (tlt (own_tlg k4)).2.2.1) (by decide) (by decide) zk) ?_
      refine own_st (fun zw zk => XS.iconst X315.here hx rfl (hb hby at_338) zk) ?_
      refine own_st (fun zw zk => XS.iadd X315.here hx rfl (hb hby at_339) rfl zk) ?_
      refine own_st (fun zw zk => XS.istore X315.here hx rfl (hb hby at_340) rfl rfl zk) ?_
      show own_Go p e below G (T315.setTop (mkF m 342 #[.val (.long q0), .second, .val (.long q1), .second, .val (.long q2), .second, .val (.long q3), .second, .val (.int p4), .val (.long tA), .second, .val (.long g0), .second, .val (.long tB), .second, .val (.long tC), .second, .val (.long tD), .second, .val (.long tE), .second, .val (.long pp), .second, .val (.long cA), .second, .val (.long cB), .second, .val (.long cC), .second, .val (.long cD), .second, .val (.long cE), .second, .val (.long qq), .second, .val (.ref b289), .val (.int (1 : Int32)), .val (.int (2 : Int32)), .unset, .unset, .unset, .unset, .unset] []))
      refine own_st (fun zw zk => XS.lload X315.here hx rfl (hb hby at_342) rfl zk) ?_
      refine own_st (fun zw zk => XS.lload X315.here hx rfl (hb hby at_344) rfl zk) ?_
      refine own_st (fun zw zk => XS.lcmp X315.here hx rfl (hb hby at_346) rfl zk) ?_
      refine own_st (fun zw zk => XS.ifYes X315.here hx rfl (pc0 := 347) (pc' := 355) rfl (hb hby at_347) rfl ((if0 _ _).trans (flt (own_flg k1)).2.2.2) (by decide) (by decide) zk) ?_
      refine own_st (fun zw zk => XS.lconst X315.here hx rfl (hb hby at_355) zk) ?_
      refine own_st (fun zw zk => XS.lload X315.here hx rfl (hb hby at_356) rfl zk) ?_
      refine own_st (fun zw zk => XS.lload X315.here hx rfl (hb hby at_358) rfl zk) ?_
      refine own_st (fun zw zk => XS.lcmp X315.here hx rfl (hb hby at_360) rfl zk) ?_
      show own_Go p e below G (T315.setTop (mkF m 361 #[.val (.long q0), .second, .val (.long q1), .second, .val (.long q2), .second, .val (.long q3), .second, .val (.int p4), .val (.long tA), .second, .val (.long g0), .second, .val (.long tB), .second, .val (.long tC), .second, .val (.long tD), .second, .val (.long tE), .second, .val (.long pp), .second, .val (.long cA), .second, .val (.long cB), .second, .val (.long cC), .second, .val (.long cD), .second, .val (.long cE), .second, .val (.long qq), .second, .val (.ref b289), .val (.int (1 : Int32)), .val (.int (2 : Int32)), .unset, .unset, .unset, .unset, .unset] [(.int (lcmpW tC qq)), (.long (0 : Int64))]))
      refine own_st (fun zw zk => XS.ifYes X315.here hx rfl (pc0 := 361) (pc' := 369) rfl (hb hby at_361) rfl ((if0 _ _).trans (flt (own_flg k2)).2.2.2) (by decide) (by decide) zk) ?_
      refine own_st (fun zw zk => XS.lconst X315.here hx rfl (hb hby at_369) zk) ?_
      refine own_st (fun zw zk => XS.ladd X315.here hx rfl (hb hby at_370) rfl zk) ?_
      refine own_st (fun zw zk => XS.lload X315.here hx rfl (hb hby at_371) rfl zk) ?_
      refine own_st (fun zw zk => XS.lload X315.here hx rfl (hb hby at_373) rfl zk) ?_
      refine own_st (fun zw zk => XS.lcmp X315.here hx rfl (hb hby at_375) rfl zk) ?_
      refine own_st (fun zw zk => XS.ifNo X315.here hx rfl (hb hby at_376) rfl ((if0 _ _).trans (tlt (own_tlg k3)).2.2.2) zk) ?_
      refine own_st (fun zw zk => XS.lload X315.here hx rfl (hb hby at_379) rfl zk) ?_
      show own_Go p e below G (T315.setTop (mkF m 381 #[.val (.long q0), .second, .val (.long q1), .second, .val (.long q2), .second, .val (.long q3), .second, .val (.int p4), .val (.long tA), .second, .val (.long g0), .second, .val (.long tB), .second, .val (.long tC), .second, .val (.long tD), .second, .val (.long tE), .second, .val (.long pp), .second, .val (.long cA), .second, .val (.long cB), .second, .val (.long cC), .second, .val (.long cD), .second, .val (.long cE), .second, .val (.long qq), .second, .val (.ref b289), .val (.int (1 : Int32)), .val (.int (2 : Int32)), .unset, .unset, .unset, .unset, .unset] [(.long cD), (.long (0 : Int64))]))
      refine own_st (fun zw zk => XS.goto X315.here hx rfl (pc0 := 381) (pc' := 385) rfl (hb hby at_381) (by decide) (by decide) zk) ?_
      show own_Go p e below G (T315.setTop (mkF m 385 #[.val (.long q0), .second, .val (.long q1), .second, .val (.long q2), .second, .val (.long q3), .second, .val (.int p4), .val (.long tA), .second, .val (.long g0), .second, .val (.long tB), .second, .val (.long tC), .second, .val (.long tD), .second, .val (.long tE), .second, .val (.long pp), .second, .val (.long cA), .second, .val (.long cB), .second, .val (.long cC), .second, .val (.long cD), .second, .val (.long cE), .second, .val (.long qq), .second, .val (.ref b289), .val (.int (1 : Int32)), .val (.int (2 : Int32)), .unset, .unset, .unset, .unset, .unset] [(.long cD), (.long (0 : Int64))]))
      refine own_st (fun zw zk => XS.ladd X315.here hx rfl (hb hby at_385) rfl zk) ?_
      refine own_st (fun zw zk => XS.lload X315.here hx rfl (hb hby at_386) rfl zk) ?_
      refine own_st (fun zw zk => XS.lload X315.here hx rfl (hb hby at_388) rfl zk) ?_
      refine own_st (fun zw zk => XS.lcmp X315.here hx rfl (hb hby at_390) rfl zk) ?_
      refine own_st (fun zw zk => XS.ifNo X315.here hx rfl (hb hby at_391) rfl ((if0 _ _).trans (tlt (own_tlg k4)).2.2.2) zk) ?_
      refine own_st (fun zw zk => XS.lload X315.here hx rfl (hb hby at_394) rfl zk) ?_
      refine own_st (fun zw zk => XS.goto X315.here hx rfl (pc0 := 396) (pc' := 400) rfl (hb hby at_396) (by decide) (by decide) zk) ?_
      show own_Go p e below G (T315.setTop (mkF m 400 #[.val (.long q0), .second, .val (.long q1), .second, .val (.long q2), .second, .val (.long q3), .second, .val (.int p4), .val (.long tA), .second, .val (.long g0), .second, .val (.long tB), .second, .val (.long tC), .second, .val (.long tD), .second, .val (.long tE), .second, .val (.long pp), .second, .val (.long cA), .second, .val (.long cB), .second, .val (.long cC), .second, .val (.long cD), .second, .val (.long cE), .second, .val (.long qq), .second, .val (.ref b289), .val (.int (1 : Int32)), .val (.int (2 : Int32)), .unset, .unset, .unset, .unset, .unset] [(.long cE), (.long ((0 : Int64) + cD))]))
      refine own_st (fun zw zk => XS.ladd X315.here hx rfl (hb hby at_400) rfl zk) ?_
      refine own_st (fun zw zk => XS.lstore X315.here hx rfl (hb hby at_401) rfl rfl zk) ?_
      show own_Go p e below G (T315.setTop (mkF m 403 #[.val (.long q0), .second, .val (.long q1), .second, .val (.long q2), .second, .val (.long q3), .second, .val (.int p4), .val (.long tA), .second, .val (.long g0), .second, .val (.long tB), .second, .val (.long tC), .second, .val (.long tD), .second, .val (.long tE), .second, .val (.long pp), .second, .val (.long cA), .second, .val (.long cB), .second, .val (.long cC), .second, .val (.long cD), .second, .val (.long cE), .second, .val (.long qq), .second, .val (.ref b289), .val (.int (1 : Int32)), .val (.int (2 : Int32)), .val (.long (((0 : Int64) + cD) + cE)), .second, .unset, .unset, .unset] []))
      refine own_st (fun zw zk => XS.lload X315.here hx rfl (hb hby at_403) rfl zk) ?_
      refine own_st (fun zw zk => XS.lload X315.here hx rfl (hb hby at_405) rfl zk) ?_
      refine own_st (fun zw zk => XS.lcmp X315.here hx rfl (hb hby at_407) rfl zk) ?_
      refine own_st (fun zw zk => XS.ifYes X315.here hx rfl (pc0 := 408) (pc' := 416) rfl (hb hby at_408) rfl ((if0 _ _).trans (flt (own_flg k1)).2.2.2) (by decide) (by decide) zk) ?_
      refine own_st (fun zw zk => XS.lload X315.here hx rfl (hb hby at_416) rfl zk) ?_
      refine own_st (fun zw zk => XS.lload X315.here hx rfl (hb hby at_418) rfl zk) ?_
      refine own_st (fun zw zk => XS.lcmp X315.here hx rfl (hb hby at_420) rfl zk) ?_
      refine own_st (fun zw zk => XS.ifYes X315.here hx rfl (pc0 := 421) (pc' := 429) rfl (hb hby at_421) rfl ((if0 _ _).trans (flt (own_flg k2)).2.2.2) (by decide) (by decide) zk) ?_
      show own_Go p e below G (T315.setTop (mkF m 429 #[.val (.long q0), .second, .val (.long q1), .second, .val (.long q2), .second, .val (.long q3), .second, .val (.int p4), .val (.long tA), .second, .val (.long g0), .second, .val (.long tB), .second, .val (.long tC), .second, .val (.long tD), .second, .val (.long tE), .second, .val (.long pp), .second, .val (.long cA), .second, .val (.long cB), .second, .val (.long cC), .second, .val (.long cD), .second, .val (.long cE), .second, .val (.long qq), .second, .val (.ref b289), .val (.int (1 : Int32)), .val (.int (2 : Int32)), .val (.long (((0 : Int64) + cD) + cE)), .second, .unset, .unset, .unset] []))
      refine own_st (fun zw zk => XS.lload X315.here hx rfl (hb hby at_429) rfl zk) ?_
      refine own_st (fun zw zk => XS.lload X315.here hx rfl (hb hby at_431) rfl zk) ?_
      refine own_st (fun zw zk => XS.lcmp X315.here hx rfl (hb hby at_433) rfl zk) ?_
      refine own_st (fun zw zk => XS.ifNo X315.here hx rfl (hb hby at_434) rfl ((if0 _ _).trans (tlt (own_tlg k3)).2.2.2) zk) ?_
      refine own_st (fun zw zk => XS.lload X315.here hx rfl (hb hby at_437) rfl zk) ?_
      refine own_st (fun zw zk => XS.goto X315.here hx rfl (pc0 := 439) (pc' := 444) rfl (hb hby at_439) (by decide) (by decide) zk) ?_
      show own_Go p e below G (T315.setTop (mkF m 444 #[.val (.long q0), .second, .val (.long q1), .second, .val (.long q2), .second, .val (.long q3), .second, .val (.int p4), .val (.long tA), .second, .val (.long g0), .second, .val (.long tB), .second, .val (.long tC), .second, .val (.long tD), .second, .val (.long tE), .second, .val (.long pp), .second, .val (.long cA), .second, .val (.long cB), .second, .val (.long cC), .second, .val (.long cD), .second, .val (.long cE), .second, .val (.long qq), .second, .val (.ref b289), .val (.int (1 : Int32)), .val (.int (2 : Int32)), .val (.long (((0 : Int64) + cD) + cE)), .second, .unset, .unset, .unset] [(.long tD)]))
      refine own_st (fun zw zk => XS.lstore X315.here hx rfl (hb hby at_444) rfl rfl zk) ?_
      show own_Go p e below G (T315.setTop (mkF m 446 #[.val (.long q0), .second, .val (.long q1), .second, .val (.long q2), .second, .val (.long q3), .second, .val (.int p4), .val (.long tA), .second, .val (.long g0), .second, .val (.long tB), .second, .val (.long tC), .second, .val (.long tD), .second, .val (.long tE), .second, .val (.long pp), .second, .val (.long cA), .second, .val (.long cB), .second, .val (.long cC), .second, .val (.long cD), .second, .val (.long cE), .second, .val (.long qq), .second, .val (.ref b289), .val (.int (1 : Int32)), .val (.int (2 : Int32)), .val (.long (((0 : Int64) + cD) + cE)), .second, .val (.long tD), .second, .unset] []))
      refine own_st (fun zw zk => XS.aload X315.here hx rfl (hb hby at_446) rfl rfl zk) ?_
      obtain ⟨T316, X316, e316, st316⟩ := getF X315 hx hZ hown (host := "") (Or.inl (hw _ (List.mem_of_getElem? (i := 52) rfl))) Via.refl rfl O315_3 (g := (mkF m 448 #[.val (.long q0), .second, .val (.long q1), .second, .val (.long q2), .second, .val (.long q3), .second, .val (.int p4), .val (.long tA), .second, .val (.long g0), .second, .val (.long tB), .second, .val (.long tC), .second, .val (.long tD), .second, .val (.long tE), .second, .val (.long pp), .second, .val (.long cA), .second, .val (.long cB), .second, .val (.long cC), .second, .val (.long cD), .second, .val (.long cE), .second, .val (.long qq), .second, .val (.ref b289), .val (.int (1 : Int32)), .val (.int (2 : Int32)), .val (.long (((0 : Int64) + cD) + cE)), .second, .val (.long tD), .second, .unset] [(.ref b289)])) rfl rfl (hb hby at_448)
      refine own_st (fun zw zk => st316 zw zk) ?_
      refine own_st (fun zw zk => XS.iconst X316.here hx rfl (hb hby at_451) zk) ?_
      refine own_st (fun zw zk => XS.iload X316.here hx rfl (hb hby at_452) rfl zk) ?_
      refine own_st (fun zw zk => XS.isub X316.here hx rfl (hb hby at_454) rfl zk) ?_
      refine own_st (fun zw zk => XS.icmpNo X316.here hx rfl (hb hby at_455) rfl (teq (by decide : (2 : Int32) = (2 : Int32))).2 zk) ?_
      refine own_st (fun zw zk => XS.aload X316.here hx rfl (hb hby at_458) rfl rfl zk) ?_
      obtain ⟨T317, X317, e317, st317⟩ := getF X316 hx hZ hown (host := "") (Or.inl (hw _ (List.mem_of_getElem? (i := 53) rfl))) Via.refl e316 O315_4 (g := (mkF m 460 #[.val (.long q0), .second, .val (.long q1), .second, .val (.long q2), .second, .val (.long q3), .second, .val (.int p4), .val (.long tA), .second, .val (.long g0), .second, .val (.long tB), .second, .val (.long tC), .second, .val (.long tD), .second, .val (.long tE), .second, .val (.long pp), .second, .val (.long cA), .second, .val (.long cB), .second, .val (.long cC), .second, .val (.long cD), .second, .val (.long cE), .second, .val (.long qq), .second, .val (.ref b289), .val (.int (1 : Int32)), .val (.int (2 : Int32)), .val (.long (((0 : Int64) + cD) + cE)), .second, .val (.long tD), .second, .unset] [(.ref b289)])) rfl rfl (hb hby at_460)
      refine own_st (fun zw zk => st317 zw zk) ?_
      show own_Go p e below G (T317.setTop (mkF m 463 #[.val (.long q0), .second, .val (.long q1), .second, .val (.long q2), .second, .val (.long q3), .second, .val (.int p4), .val (.long tA), .second, .val (.long g0), .second, .val (.long tB), .second, .val (.long tC), .second, .val (.long tD), .second, .val (.long tE), .second, .val (.long pp), .second, .val (.long cA), .second, .val (.long cB), .second, .val (.long cC), .second, .val (.long cD), .second, .val (.long cE), .second, .val (.long qq), .second, .val (.ref b289), .val (.int (1 : Int32)), .val (.int (2 : Int32)), .val (.long (((0 : Int64) + cD) + cE)), .second, .val (.long tD), .second, .unset] [(.long (((((((((0 : Int64) + cA) + cB) + cC) - cA) + cD) + cE) - cB) - cC))]))
      refine own_st (fun zw zk => XS.lload X317.here hx rfl (hb hby at_463) rfl zk) ?_
      refine own_st (fun zw zk => XS.lcmp X317.here hx rfl (hb hby at_465) rfl zk) ?_
      have hc466 : (((((((((0 : Int64) + cA) + cB) + cC) - cA) + cD) + cE) - cB) - cC) = (((0 : Int64) + cD) + cE) := by first | (rw [own_adm1]; done) | (rw [own_adm1]; grind) | grind
      refine own_st (fun zw zk => XS.ifNo X317.here hx rfl (hb hby at_466) rfl ((if0 _ _).trans (teq (own_tle hc466)).2) zk) ?_
      refine own_st (fun zw zk => XS.aload X317.here hx rfl (hb hby at_469) rfl rfl zk) ?_
      obtain ⟨T318, X318, e318, st318⟩ := getF X317 hx hZ hown (host := "") (Or.inl (hw _ (List.mem_of_getElem? (i := 54) rfl))) Via.refl e317 O315_2 (g := (mkF m 471 #[.val (.long q0), .second, .val (.long q1), .second, .val (.long q2), .second, .val (.long q3), .second, .val (.int p4), .val (.long tA), .second, .val (.long g0), .second, .val (.long tB), .second, .val (.long tC), .second, .val (.long tD), .second, .val (.long tE), .second, .val (.long pp), .second, .val (.long cA), .second, .val (.long cB), .second, .val (.long cC), .second, .val (.long cD), .second, .val (.long cE), .second, .val (.long qq), .second, .val (.ref b289), .val (.int (1 : Int32)), .val (.int (2 : Int32)), .val (.long (((0 : Int64) + cD) + cE)), .second, .val (.long tD), .second, .unset] [(.ref b289)])) rfl rfl (hb hby at_471)
      refine own_st (fun zw zk => st318 zw zk) ?_
      refine own_st (fun zw zk => XS.iconst X318.here hx rfl (hb hby at_474) zk) ?_
      refine own_st (fun zw zk => XS.iload X318.here hx rfl (hb hby at_475) rfl zk) ?_
      refine own_st (fun zw zk => XS.iadd X318.here hx rfl (hb hby at_477) rfl zk) ?_
      show own_Go p e below G (T318.setTop (mkF m 478 #[.val (.long q0), .second, .val (.long q1), .second, .val (.long q2), .second, .val (.long q3), .second, .val (.int p4), .val (.long tA), .second, .val (.long g0), .second, .val (.long tB), .second, .val (.long tC), .second, .val (.long tD), .second, .val (.long tE), .second, .val (.long pp), .second, .val (.long cA), .second, .val (.long cB), .second, .val (.long cC), .second, .val (.long cD), .second, .val (.long cE), .second, .val (.long qq), .second, .val (.ref b289), .val (.int (1 : Int32)), .val (.int (2 : Int32)), .val (.long (((0 : Int64) + cD) + cE)), .second, .val (.long tD), .second, .unset] [(.int (3 : Int32)), (.int (3 : Int32))]))
      refine own_st (fun zw zk => XS.iconst X318.here hx rfl (hb hby at_478) zk) ?_
      refine own_st (fun zw zk => XS.iand X318.here hx rfl (hb hby at_479) rfl zk) ?_
      refine own_st (fun zw zk => XS.icmpNo X318.here hx rfl (hb hby at_480) rfl (teq (by decide : (3 : Int32) = (3 : Int32))).2 zk) ?_
      refine own_st (fun zw zk => XS.aload X318.here hx rfl (hb hby at_483) rfl rfl zk) ?_
      obtain ⟨T319, X319, e319, st319⟩ := getF X318 hx hZ hown (host := "") (Or.inl (hw _ (List.mem_of_getElem? (i := 55) rfl))) Via.refl e318 O315_1 (g := (mkF m 485 #[.val (.long q0), .second, .val (.long q1), .second, .val (.long q2), .second, .val (.long q3), .second, .val (.int p4), .val (.long tA), .second, .val (.long g0), .second, .val (.long tB), .second, .val (.long tC), .second, .val (.long tD), .second, .val (.long tE), .second, .val (.long pp), .second, .val (.long cA), .second, .val (.long cB), .second, .val (.long cC), .second, .val (.long cD), .second, .val (.long cE), .second, .val (.long qq), .second, .val (.ref b289), .val (.int (1 : Int32)), .val (.int (2 : Int32)), .val (.long (((0 : Int64) + cD) + cE)), .second, .val (.long tD), .second, .unset] [(.ref b289)])) rfl rfl (hb hby at_485)
      refine own_st (fun zw zk => st319 zw zk) ?_
      refine own_st (fun zw zk => own_len X319 hx hZ e319 Ott293L_315 (z := (8 : Int32)) (rfl) (g := (mkF m 488 #[.val (.long q0), .second, .val (.long q1), .second, .val (.long q2), .second, .val (.long q3), .second, .val (.int p4), .val (.long tA), .second, .val (.long g0), .second, .val (.long tB), .second, .val (.long tC), .second, .val (.long tD), .second, .val (.long tE), .second, .val (.long pp), .second, .val (.long cA), .second, .val (.long cB), .second, .val (.long cC), .second, .val (.long cD), .second, .val (.long cE), .second, .val (.long qq), .second, .val (.ref b289), .val (.int (1 : Int32)), .val (.int (2 : Int32)), .val (.long (((0 : Int64) + cD) + cE)), .second, .val (.long tD), .second, .unset] [(.ref tt293)])) rfl rfl (hb hby at_488) _ zk) ?_
      refine own_st (fun zw zk => XS.bipush X319.here hx rfl (hb hby at_489) zk) ?_
      refine own_st (fun zw zk => XS.icmpNo X319.here hx rfl (hb hby at_491) rfl (teq (by decide : (8 : Int32) = (8 : Int32))).2 zk) ?_
      show own_Go p e below G (T319.setTop (mkF m 494 #[.val (.long q0), .second, .val (.long q1), .second, .val (.long q2), .second, .val (.long q3), .second, .val (.int p4), .val (.long tA), .second, .val (.long g0), .second, .val (.long tB), .second, .val (.long tC), .second, .val (.long tD), .second, .val (.long tE), .second, .val (.long pp), .second, .val (.long cA), .second, .val (.long cB), .second, .val (.long cC), .second, .val (.long cD), .second, .val (.long cE), .second, .val (.long qq), .second, .val (.ref b289), .val (.int (1 : Int32)), .val (.int (2 : Int32)), .val (.long (((0 : Int64) + cD) + cE)), .second, .val (.long tD), .second, .unset] []))
      refine own_st (fun zw zk => XS.iconst X319.here hx rfl (hb hby at_494) zk) ?_
      refine own_st (fun zw zk => XS.goto X319.here hx rfl (pc0 := 495) (pc' := 499) rfl (hb hby at_495) (by decide) (by decide) zk) ?_
      show own_Go p e below G (T319.setTop (mkF m 499 #[.val (.long q0), .second, .val (.long q1), .second, .val (.long q2), .second, .val (.long q3), .second, .val (.int p4), .val (.long tA), .second, .val (.long g0), .second, .val (.long tB), .second, .val (.long tC), .second, .val (.long tD), .second, .val (.long tE), .second, .val (.long pp), .second, .val (.long cA), .second, .val (.long cB), .second, .val (.long cC), .second, .val (.long cD), .second, .val (.long cE), .second, .val (.long qq), .second, .val (.ref b289), .val (.int (1 : Int32)), .val (.int (2 : Int32)), .val (.long (((0 : Int64) + cD) + cE)), .second, .val (.long tD), .second, .unset] [(.int (1 : Int32))]))
      refine own_st (fun zw zk => XS.istore X319.here hx rfl (hb hby at_499) rfl rfl zk) ?_
      show own_Go p e below G (T319.setTop (mkF m 501 #[.val (.long q0), .second, .val (.long q1), .second, .val (.long q2), .second, .val (.long q3), .second, .val (.int p4), .val (.long tA), .second, .val (.long g0), .second, .val (.long tB), .second, .val (.long tC), .second, .val (.long tD), .second, .val (.long tE), .second, .val (.long pp), .second, .val (.long cA), .second, .val (.long cB), .second, .val (.long cC), .second, .val (.long cD), .second, .val (.long cE), .second, .val (.long qq), .second, .val (.ref b289), .val (.int (1 : Int32)), .val (.int (2 : Int32)), .val (.long (((0 : Int64) + cD) + cE)), .second, .val (.long tD), .second, .val (.int (1 : Int32))] []))
      refine own_st (fun zw zk => XS.iload X319.here hx rfl (hb hby at_501) rfl zk) ?_
      refine own_st (fun zw zk => XS.ifNo X319.here hx rfl (hb hby at_503) rfl ((if0 _ _).trans (feq (by decide : ¬ ((1 : Int32) = (0 : Int32)))).1) zk) ?_
      refine own_st (fun zw zk => XS.iload X319.here hx rfl (hb hby at_506) rfl zk) ?_
      refine own_st (fun zw zk => XS.ifYes X319.here hx rfl (pc0 := 508) (pc' := 513) rfl (hb hby at_508) rfl ((if0 _ _).trans (feq (by decide : ¬ ((1 : Int32) = (0 : Int32)))).2) (by decide) (by decide) zk) ?_
      refine own_st (fun zw zk => XS.iconst X319.here hx rfl (hb hby at_513) zk) ?_
      refine own_st (fun zw zk => XS.iload X319.here hx rfl (hb hby at_514) rfl zk) ?_
      refine own_st (fun zw zk => XS.isub X319.here hx rfl (hb hby at_516) rfl zk) ?_
      refine own_st (fun zw zk => XS.ifNo X319.here hx rfl (hb hby at_517) rfl ((if0 _ _).trans (tlt (by decide : (0 : Int32) < (2 : Int32))).2.2.2) zk) ?_
      show own_Go p e below G (T319.setTop (mkF m 520 #[.val (.long q0), .second, .val (.long q1), .second, .val (.long q2), .second, .val (.long q3), .second, .val (.int p4), .val (.long tA), .second, .val (.long g0), .second, .val (.long tB), .second, .val (.long tC), .second, .val (.long tD), .second, .val (.long tE), .second, .val (.long pp), .second, .val (.long cA), .second, .val (.long cB), .second, .val (.long cC), .second, .val (.long cD), .second, .val (.long cE), .second, .val (.long qq), .second, .val (.ref b289), .val (.int (1 : Int32)), .val (.int (2 : Int32)), .val (.long (((0 : Int64) + cD) + cE)), .second, .val (.long tD), .second, .val (.int (1 : Int32))] []))
      refine own_st (fun zw zk => XS.aload X319.here hx rfl (hb hby at_520) rfl rfl zk) ?_
      refine own_st (fun zw zk => XS.lconst X319.here hx rfl (hb hby at_522) zk) ?_
      obtain ⟨cq320, kq320, q320a, q320b, q320c⟩ := isOf hZ e319 O315_0
      obtain ⟨_, _, ⟨T320, L320, k320, n320⟩, -, X320, ⟨Lc320, hQ320, l320, y320, z320⟩, st320⟩ := X319.virtualBack hx (y := (⟨"com/example/headroom/headroom/SlidingLog$Log", "timeReaching", "(J)J"⟩ : MethodName)) (z := (⟨"com/example/headroom/headroom/SlidingLog$Log", "timeReaching", "(J)J"⟩ : MethodName)) hown (mvT hZ (hw _ (List.mem_of_getElem? (i := 56) rfl))) (mvT hZ (hw _ (List.mem_of_getElem? (i := 57) rfl))) (notFace_of_selects (args := #[]) (mvT hZ (hw _ (List.mem_of_getElem? (i := 59) rfl)))) (mvT hZ (hw _ (List.mem_of_getElem? (i := 59) rfl))) (mvT hZ (hw _ (List.mem_of_getElem? (i := 58) rfl))) (by decide) (backOf (W := 0) (rm_timeReaching_3_2_8 l Z a0 hw [] b289 (1 : Int64) tt293 (((((((((0 : Int64) + cA) + cB) + cC) - cA) + cD) + cE) - cB) - cC) tE cE tB cB tC cC tD cD T315.heap n0 Z315 (O315_0) (O315_1) (O315_2) (O315_3) (O315_4) (Ott293L_315) (h1_cD)) hZ (hw _ (List.mem_of_getElem? (i := 60) rfl)) (hw _ (List.mem_of_getElem? (i := 4) rfl)) (by decide) (by decide)) q320a q320c (g := (mkF m 523 #[.val (.long q0), .second, .val (.long q1), .second, .val (.long q2), .second, .val (.long q3), .second, .val (.int p4), .val (.long tA), .second, .val (.long g0), .second, .val (.long tB), .second, .val (.long tC), .second, .val (.long tD), .second, .val (.long tE), .second, .val (.long pp), .second, .val (.long cA), .second, .val (.long cB), .second, .val (.long cC), .second, .val (.long cD), .second, .val (.long cE), .second, .val (.long qq), .second, .val (.ref b289), .val (.int (1 : Int32)), .val (.int (2 : Int32)), .val (.long (((0 : Int64) + cD) + cE)), .second, .val (.long tD), .second, .val (.int (1 : Int32))] [(.long (1 : Int64)), (.ref b289)])) rfl (by rw [hml]; rfl) (Steps.refl _) (argsL := [(.long (1 : Int64))]) (rest := []) (lenOf pd_5 rfl) rfl (by show 2 * 0 + _ ≤ _; exact Nat.le_of_eq rfl) (hb hby at_523) (fun _ _ => ⟨rfl, e319, (by decide : 4 + 0 ≤ _), (by decide : 19 + 0 ≤ _)⟩)
      dsimp only [Pt.U, Pt.locs, Pt.cells, Pt.slots] at X320 l320 y320 z320 st320 hQ320
      subst l320 y320 z320
      obtain ⟨rfl, N320q, e320⟩ := hQ320
      have N320 := Fr.app N315 N320q
      refine own_jp st320 ?_
      refine own_st (fun zw zk => XS.lload X320.here hx rfl (hb hby at_526) rfl zk) ?_
      refine own_st (fun zw zk => XS.lcmp X320.here hx rfl (hb hby at_528) rfl zk) ?_
      refine own_st (fun zw zk => XS.ifNo X320.here hx rfl (hb hby at_529) rfl ((if0 _ _).trans (teq (own_tle (rfl : tD = tD))).2) zk) ?_
      refine own_st (fun zw zk => XS.aload X320.here hx rfl (hb hby at_532) rfl rfl zk) ?_
      obtain ⟨cq321, kq321, q321a, q321b, q321c⟩ := isOf hZ e320 O315_0
      obtain ⟨_, _, ⟨T321, L321, k321, n321⟩, -, X321, ⟨Lc321, hQ321, l321, y321, z321⟩, st321⟩ := X320.virtualBack hx (y := (⟨"com/example/headroom/headroom/SlidingLog$Log", "latest", "()J"⟩ : MethodName)) (z := (⟨"com/example/headroom/headroom/SlidingLog$Log", "latest", "()J"⟩ : MethodName)) hown (mvT hZ (hw _ (List.mem_of_getElem? (i := 61) rfl))) (mvT hZ (hw _ (List.mem_of_getElem? (i := 35) rfl))) (notFace_of_selects (args := #[]) (mvT hZ (hw _ (List.mem_of_getElem? (i := 37) rfl)))) (mvT hZ (hw _ (List.mem_of_getElem? (i := 37) rfl))) (mvT hZ (hw _ (List.mem_of_getElem? (i := 36) rfl))) (by decide) (backOf (W := 0) (rm_latest_3_2_8 l Z a0 hw [] b289 tt293 (((((((((0 : Int64) + cA) + cB) + cC) - cA) + cD) + cE) - cB) - cC) tE cE tB cB tC cC tD cD T315.heap n0 Z315 (O315_0) (O315_1) (O315_2) (O315_3) (O315_4) (Ott293L_315)) hZ (hw _ (List.mem_of_getElem? (i := 38) rfl)) (hw _ (List.mem_of_getElem? (i := 4) rfl)) (by decide) (by decide)) q321a q321c (g := (mkF m 534 #[.val (.long q0), .second, .val (.long q1), .second, .val (.long q2), .second, .val (.long q3), .second, .val (.int p4), .val (.long tA), .second, .val (.long g0), .second, .val (.long tB), .second, .val (.long tC), .second, .val (.long tD), .second, .val (.long tE), .second, .val (.long pp), .second, .val (.long cA), .second, .val (.long cB), .second, .val (.long cC), .second, .val (.long cD), .second, .val (.long cE), .second, .val (.long qq), .second, .val (.ref b289), .val (.int (1 : Int32)), .val (.int (2 : Int32)), .val (.long (((0 : Int64) + cD) + cE)), .second, .val (.long tD), .second, .val (.int (1 : Int32))] [(.ref b289)])) rfl (by rw [hml]; rfl) (Steps.refl _) (argsL := []) (rest := []) (lenOf pd_2 rfl) rfl (by show 2 * 0 + _ ≤ _; exact Nat.le_of_eq rfl) (hb hby at_534) (fun _ _ => ⟨rfl, e320, (by decide : 4 + 0 ≤ _), (by decide : 19 + 0 ≤ _)⟩)
      dsimp only [Pt.U, Pt.locs, Pt.cells, Pt.slots] at X321 l321 y321 z321 st321 hQ321
      subst l321 y321 z321
      obtain ⟨rfl, N321q, e321⟩ := hQ321
      have N321 := Fr.app N320 N321q
      refine own_jp st321 ?_
      show own_Go p e below G (T321.setTop (mkF m 537 #[.val (.long q0), .second, .val (.long q1), .second, .val (.long q2), .second, .val (.long q3), .second, .val (.int p4), .val (.long tA), .second, .val (.long g0), .second, .val (.long tB), .second, .val (.long tC), .second, .val (.long tD), .second, .val (.long tE), .second, .val (.long pp), .second, .val (.long cA), .second, .val (.long cB), .second, .val (.long cC), .second, .val (.long cD), .second, .val (.long cE), .second, .val (.long qq), .second, .val (.ref b289), .val (.int (1 : Int32)), .val (.int (2 : Int32)), .val (.long (((0 : Int64) + cD) + cE)), .second, .val (.long tD), .second, .val (.int (1 : Int32))] [(.long tE)]))
      refine own_st (fun zw zk => XS.lload X321.here hx rfl (hb hby at_537) rfl zk) ?_
      refine own_st (fun zw zk => XS.lcmp X321.here hx rfl (hb hby at_539) rfl zk) ?_
      refine own_st (fun zw zk => XS.ifNo X321.here hx rfl (hb hby at_540) rfl ((if0 _ _).trans (teq (own_tle (rfl : tE = tE))).2) zk) ?_
      refine own_st (fun zw zk => XS.iconst X321.here hx rfl (hb hby at_543) zk) ?_
      refine own_st (fun zw zk => XS.goto X321.here hx rfl (pc0 := 544) (pc' := 548) rfl (hb hby at_544) (by decide) (by decide) zk) ?_
      show own_Go p e below G (T321.setTop (mkF m 548 #[.val (.long q0), .second, .val (.long q1), .second, .val (.long q2), .second, .val (.long q3), .second, .val (.int p4), .val (.long tA), .second, .val (.long g0), .second, .val (.long tB), .second, .val (.long tC), .second, .val (.long tD), .second, .val (.long tE), .second, .val (.long pp), .second, .val (.long cA), .second, .val (.long cB), .second, .val (.long cC), .second, .val (.long cD), .second, .val (.long cE), .second, .val (.long qq), .second, .val (.ref b289), .val (.int (1 : Int32)), .val (.int (2 : Int32)), .val (.long (((0 : Int64) + cD) + cE)), .second, .val (.long tD), .second, .val (.int (1 : Int32))] [(.int (1 : Int32))]))
      subst hG
      obtain ⟨fs, hr, hrun, hended, hW, hsame⟩ := X321.leave (v := some (.int (1 : Int32))) (hlocks := Bd.notSynchronized) (fun h => by rw [Bd.returns] at h; cases h)
      refine ⟨_, retN X321 hx (t := .boolean) Bd.returns (by simp) (hb hby at_548) hr, _, hrun, hended, _, _, rfl, ?_, ⟨_, rfl⟩, hW, hsame.mono (by decide) (by decide)⟩
      show Q0 Z q0 q1 q2 q3 p4 h0 n0 _ T321.heap _
      rw [e321]
      exact ⟨rfl, N321⟩
    · show own_Go p e below G (T300.setTop (mkF m 278 #[.val (.long q0), .second, .val (.long q1), .second, .val (.long q2), .second, .val (.long q3), .second, .val (.int p4), .val (.long tA), .second, .val (.long g0), .second, .val (.long tB), .second, .val (.long tC), .second, .val (.long tD), .second, .val (.long tE), .second, .val (.long pp), .second, .val (.long cA), .second, .val (.long cB), .second, .val (.long cC), .second, .val (.long cD), .second, .val (.long cE), .second, .val (.long qq), .second, .val (.ref b289), .val (.int (1 : Int32)), .unset, .unset, .unset, .unset, .unset, .unset] []))
      refine own_st (fun zw zk => XS.aload X300.here hx rfl (hb hby at_278) rfl rfl zk) ?_
      refine own_st (fun zw zk => XS.lload X300.here hx rfl (hb hby at_280) rfl zk) ?_
      obtain ⟨cq322, kq322, q322a, q322b, q322c⟩ := isOf hZ rfl O300_0
      obtain ⟨_, _, ⟨T322, L322, k322, n322⟩, -, X322, ⟨Lc322, hQ322, l322, y322, z322⟩, st322⟩ := X300.virtualBack hx (y := (⟨"com/example/headroom/headroom/SlidingLog$Log", "forgetUpTo", "(J)V"⟩ : MethodName)) (z := (⟨"com/example/headroom/headroom/SlidingLog$Log", "forgetUpTo", "(J)V"⟩ : MethodName)) hown (mvT hZ (hw _ (List.mem_of_getElem? (i := 47) rfl))) (mvT hZ (hw _ (List.mem_of_getElem? (i := 48) rfl))) (notFace_of_selects (args := #[]) (mvT hZ (hw _ (List.mem_of_getElem? (i := 50) rfl)))) (mvT hZ (hw _ (List.mem_of_getElem? (i := 50) rfl))) (mvT hZ (hw _ (List.mem_of_getElem? (i := 49) rfl))) (by decide) (backOf (W := 0) (rm_forgetUpTo_1_4_8_3 l Z a0 hw [] b289 qq tt293 (((((((0 : Int64) + cA) + cB) + cC) - cA) + cD) + cE) tE cE tB cB tC cC tD cD T300.heap n0 Z300 (O300_0) (O300_1) (O300_2) (O300_3) (O300_4) (O300_5) (G289) (ne_b289_tt293) (k1) (k2) (k3) (k4)) hZ (hw _ (List.mem_of_getElem? (i := 51) rfl)) (hw _ (List.mem_of_getElem? (i := 4) rfl)) (by decide) (by decide)) q322a q322c (g := (mkF m 282 #[.val (.long q0), .second, .val (.long q1), .second, .val (.long q2), .second, .val (.long q3), .second, .val (.int p4), .val (.long tA), .second, .val (.long g0), .second, .val (.long tB), .second, .val (.long tC), .second, .val (.long tD), .second, .val (.long tE), .second, .val (.long pp), .second, .val (.long cA), .second, .val (.long cB), .second, .val (.long cC), .second, .val (.long cD), .second, .val (.long cE), .second, .val (.long qq), .second, .val (.ref b289), .val (.int (1 : Int32)), .unset, .unset, .unset, .unset, .unset, .unset] [(.long qq), (.ref b289)])) rfl (by rw [hml]; rfl) (Steps.refl _) (argsL := [(.long qq)]) (rest := []) (lenOf pd_4 rfl) rfl (by show 2 * 0 + _ ≤ _; exact Nat.le_of_eq rfl) (hb hby at_282) (fun _ _ => ⟨rfl, rfl, (by decide : 4 + 0 ≤ _), (by decide : 19 + 0 ≤ _)⟩)
      dsimp only [Pt.U, Pt.locs, Pt.cells, Pt.slots] at X322 l322 y322 z322 st322 hQ322
      subst l322 y322 z322
      obtain ⟨rfl, N322q, K322, O322_0, O322_1, O322_2, O322_3, O322_4⟩ := hQ322
      have Ob289E_322 := O300_0.keep K322
      have Ott290L_322 := Ott290L_300.keep K322 (ninS (Ne.symm ne_b289_tt290) nin0)
      have Ott292L_322 := Ott292L_300.keep K322 (ninS (Ne.symm ne_b289_tt292) nin0)
      have Ott293L_322 := O300_5.keep K322 (ninS (Ne.symm ne_b289_tt293) nin0)
      have Z322 : n0 ≤ T322.heap.size := Nat.le_trans Z300 K322.1
      have N322 := Fr.app N300 N322q
      refine own_jp st322 ?_
      refine own_st (fun zw zk => XS.lload X322.here hx rfl (hb hby at_285) rfl zk) ?_
      refine own_st (fun zw zk => XS.lload X322.here hx rfl (hb hby at_287) rfl zk) ?_
      refine own_st (fun zw zk => XS.lcmp X322.here hx rfl (hb hby at_289) rfl zk) ?_
      refine own_st (fun zw zk => XS.ifNo X322.here hx rfl (hb hby at_290) rfl ((if0 _ _).trans (flt (own_flg k1)).2.2.1) zk) ?_
      refine own_st (fun zw zk => XS.iconst X322.here hx rfl (hb hby at_293) zk) ?_
      show own_Go p e below G (T322.setTop (mkF m 294 #[.val (.long q0), .second, .val (.long q1), .second, .val (.long q2), .second, .val (.long q3), .second, .val (.int p4), .val (.long tA), .second, .val (.long g0), .second, .val (.long tB), .second, .val (.long tC), .second, .val (.long tD), .second, .val (.long tE), .second, .val (.long pp), .second, .val (.long cA), .second, .val (.long cB), .second, .val (.long cC), .second, .val (.long cD), .second, .val (.long cE), .second, .val (.long qq), .second, .val (.ref b289), .val (.int (1 : Int32)), .unset, .unset, .unset, .unset, .unset, .unset] [(.int (1 : Int32))]))
      refine own_st (fun zw zk => XS.goto X322.here hx rfl (pc0 := 294) (pc' := 298) rfl (hb hby at_294) (by decide) (by decide) zk) ?_
      show own_Go p e below G (T322.setTop (mkF m 298 #[.val (.long q0), .second, .val (.long q1), .second, .val (.long q2), .second, .val (.long q3), .second, .val (.int p4), .val (.long tA), .second, .val (.long g0), .second, .val (.long tB), .second, .val (.long tC), .second, .val (.long tD), .second, .val (.long tE), .second, .val (.long pp), .second, .val (.long cA), .second, .val (.long cB), .second, .val (.long cC), .second, .val (.long cD), .second, .val (.long cE), .second, .val (.long qq), .second, .val (.ref b289), .val (.int (1 : Int32)), .unset, .unset, .unset, .unset, .unset, .unset] [(.int (1 : Int32))]))
      refine own_st (fun zw zk => XS.lload X322.here hx rfl (hb hby at_298) rfl zk) ?_
      refine own_st (fun zw zk => XS.lload X322.here hx rfl (hb hby at_300) rfl zk) ?_
      refine own_st (fun zw zk => XS.lcmp X322.here hx rfl (hb hby at_302) rfl zk) ?_
      refine own_st (fun zw zk => XS.ifNo X322.here hx rfl (hb hby at_303) rfl ((if0 _ _).trans (flt (own_flg k2)).2.2.1) zk) ?_
      refine own_st (fun zw zk => XS.iconst X322.here hx rfl (hb hby at_306) zk) ?_
      refine own_st (fun zw zk => XS.goto X322.here hx rfl (pc0 := 307) (pc' := 311) rfl (hb hby at_307) (by decide) (by decide) zk) ?_
      show own_Go p e below G (T322.setTop (mkF m 311 #[.val (.long q0), .second, .val (.long q1), .second, .val (.long q2), .second, .val (.long q3), .second, .val (.int p4), .val (.long tA), .second, .val (.long g0), .second, .val (.long tB), .second, .val (.long tC), .second, .val (.long tD), .second, .val (.long tE), .second, .val (.long pp), .second, .val (.long cA), .second, .val (.long cB), .second, .val (.long cC), .second, .val (.long cD), .second, .val (.long cE), .second, .val (.long qq), .second, .val (.ref b289), .val (.int (1 : Int32)), .unset, .unset, .unset, .unset, .unset, .unset] [(.int (1 : Int32)), (.int (1 : Int32))]))
      refine own_st (fun zw zk => XS.iadd X322.here hx rfl (hb hby at_311) rfl zk) ?_
      refine own_st (fun zw zk => XS.lload X322.here hx rfl (hb hby at_312) rfl zk) ?_
      refine own_st (fun zw zk => XS.lload X322.here hx rfl (hb hby at_314) rfl zk) ?_
      refine own_st (fun zw zk => XS.lcmp X322.here hx rfl (hb hby at_316) rfl zk) ?_
      refine own_st (fun zw zk => XS.ifNo X322.here hx rfl (hb hby at_317) rfl ((if0 _ _).trans (flt (own_flg k3)).2.2.1) zk) ?_
      refine own_st (fun zw zk => XS.iconst X322.here hx rfl (hb hby at_320) zk) ?_
      refine own_st (fun zw zk => XS.goto X322.here hx rfl (pc0 := 321) (pc' := 325) rfl (hb hby at_321) (by decide) (by decide) zk) ?_
      show own_Go p e below G (T322.setTop (mkF m 325 #[.val (.long q0), .second, .val (.long q1), .second, .val (.long q2), .second, .val (.long q3), .second, .val (.int p4), .val (.long tA), .second, .val (.long g0), .second, .val (.long tB), .second, .val (.long tC), .second, .val (.long tD), .second, .val (.long tE), .second, .val (.long pp), .second, .val (.long cA), .second, .val (.long cB), .second, .val (.long cC), .second, .val (.long cD), .second, .val (.long cE), .second, .val (.long qq), .second, .val (.ref b289), .val (.int (1 : Int32)), .unset, .unset, .unset, .unset, .unset, .unset] [(.int (1 : Int32)), (.int (2 : Int32))]))
      refine own_st (fun zw zk => XS.iadd X322.here hx rfl (hb hby at_325) rfl zk) ?_
      refine own_st (fun zw zk => XS.lload X322.here hx rfl (hb hby at_326) rfl zk) ?_
      refine own_st (fun zw zk => XS.lload X322.here hx rfl (hb hby at_328) rfl zk) ?_
      refine own_st (fun zw zk => XS.lcmp X322.here hx rfl (hb hby at_330) rfl zk) ?_
      refine own_st (fun zw zk => XS.ifYes X322.here hx rfl (pc0 := 331) (pc' := 338) rfl (hb hby at_331) rfl ((if0 _ _).trans (tlt (own_tlg k4)).2.2.1) (by decide) (by decide) zk) ?_
      refine own_st (fun zw zk => XS.iconst X322.here hx rfl (hb hby at_338) zk) ?_
      refine own_st (fun zw zk => XS.iadd X322.here hx rfl (hb hby at_339) rfl zk) ?_
      refine own_st (fun zw zk => XS.istore X322.here hx rfl (hb hby at_340) rfl rfl zk) ?_
      show own_Go p e below G (T322.setTop (mkF m 342 #[.val (.long q0), .second, .val (.long q1), .second, .val (.long q2), .second, .val (.long q3), .second, .val (.int p4), .val (.long tA), .second, .val (.long g0), .second, .val (.long tB), .second, .val (.long tC), .second, .val (.long tD), .second, .val (.long tE), .second, .val (.long pp), .second, .val (.long cA), .second, .val (.long cB), .second, .val (.long cC), .second, .val (.long cD), .second, .val (.long cE), .second, .val (.long qq), .second, .val (.ref b289), .val (.int (1 : Int32)), .val (.int (3 : Int32)), .unset, .unset, .unset, .unset, .unset] []))
      refine own_st (fun zw zk => XS.lload X322.here hx rfl (hb hby at_342) rfl zk) ?_
      refine own_st (fun zw zk => XS.lload X322.here hx rfl (hb hby at_344) rfl zk) ?_
      refine own_st (fun zw zk => XS.lcmp X322.here hx rfl (hb hby at_346) rfl zk) ?_
      refine own_st (fun zw zk => XS.ifYes X322.here hx rfl (pc0 := 347) (pc' := 355) rfl (hb hby at_347) rfl ((if0 _ _).trans (flt (own_flg k1)).2.2.2) (by decide) (by decide) zk) ?_
      refine own_st (fun zw zk => XS.lconst X322.here hx rfl (hb hby at_355) zk) ?_
      refine own_st (fun zw zk => XS.lload X322.here hx rfl (hb hby at_356) rfl zk) ?_
      refine own_st (fun zw zk => XS.lload X322.here hx rfl (hb hby at_358) rfl zk) ?_
      refine own_st (fun zw zk => XS.lcmp X322.here hx rfl (hb hby at_360) rfl zk) ?_
      show own_Go p e below G (T322.setTop (mkF m 361 #[.val (.long q0), .second, .val (.long q1), .second, .val (.long q2), .second, .val (.long q3), .second, .val (.int p4), .val (.long tA), .second, .val (.long g0), .second, .val (.long tB), .second, .val (.long tC), .second, .val (.long tD), .second, .val (.long tE), .second, .val (.long pp), .second, .val (.long cA), .second, .val (.long cB), .second, .val (.long cC), .second, .val (.long cD), .second, .val (.long cE), .second, .val (.long qq), .second, .val (.ref b289), .val (.int (1 : Int32)), .val (.int (3 : Int32)), .unset, .unset, .unset, .unset, .unset] [(.int (lcmpW tC qq)), (.long (0 : Int64))]))
      refine own_st (fun zw zk => XS.ifYes X322.here hx rfl (pc0 := 361) (pc' := 369) rfl (hb hby at_361) rfl ((if0 _ _).trans (flt (own_flg k2)).2.2.2) (by decide) (by decide) zk) ?_
      refine own_st (fun zw zk => XS.lconst X322.here hx rfl (hb hby at_369) zk) ?_
      refine own_st (fun zw zk => XS.ladd X322.here hx rfl (hb hby at_370) rfl zk) ?_
      refine own_st (fun zw zk => XS.lload X322.here hx rfl (hb hby at_371) rfl zk) ?_
      refine own_st (fun zw zk => XS.lload X322.here hx rfl (hb hby at_373) rfl zk) ?_
      refine own_st (fun zw zk => XS.lcmp X322.here hx rfl (hb hby at_375) rfl zk) ?_
      refine own_st (fun zw zk => XS.ifYes X322.here hx rfl (pc0 := 376) (pc' := 384) rfl (hb hby at_376) rfl ((if0 _ _).trans (flt (own_flg k3)).2.2.2) (by decide) (by decide) zk) ?_
      refine own_st (fun zw zk => XS.lconst X322.here hx rfl (hb hby at_384) zk) ?_
      show own_Go p e below G (T322.setTop (mkF m 385 #[.val (.long q0), .second, .val (.long q1), .second, .val (.long q2), .second, .val (.long q3), .second, .val (.int p4), .val (.long tA), .second, .val (.long g0), .second, .val (.long tB), .second, .val (.long tC), .second, .val (.long tD), .second, .val (.long tE), .second, .val (.long pp), .second, .val (.long cA), .second, .val (.long cB), .second, .val (.long cC), .second, .val (.long cD), .second, .val (.long cE), .second, .val (.long qq), .second, .val (.ref b289), .val (.int (1 : Int32)), .val (.int (3 : Int32)), .unset, .unset, .unset, .unset, .unset] [(.long (0 : Int64)), (.long (0 : Int64))]))
      refine own_st (fun zw zk => XS.ladd X322.here hx rfl (hb hby at_385) rfl zk) ?_
      refine own_st (fun zw zk => XS.lload X322.here hx rfl (hb hby at_386) rfl zk) ?_
      refine own_st (fun zw zk => XS.lload X322.here hx rfl (hb hby at_388) rfl zk) ?_
      refine own_st (fun zw zk => XS.lcmp X322.here hx rfl (hb hby at_390) rfl zk) ?_
      refine own_st (fun zw zk => XS.ifNo X322.here hx rfl (hb hby at_391) rfl ((if0 _ _).trans (tlt (own_tlg k4)).2.2.2) zk) ?_
      refine own_st (fun zw zk => XS.lload X322.here hx rfl (hb hby at_394) rfl zk) ?_
      refine own_st (fun zw zk => XS.goto X322.here hx rfl (pc0 := 396) (pc' := 400) rfl (hb hby at_396) (by decide) (by decide) zk) ?_
      show own_Go p e below G (T322.setTop (mkF m 400 #[.val (.long q0), .second, .val (.long q1), .second, .val (.long q2), .second, .val (.long q3), .second, .val (.int p4), .val (.long tA), .second, .val (.long g0), .second, .val (.long tB), .second, .val (.long tC), .second, .val (.long tD), .second, .val (.long tE), .second, .val (.long pp), .second, .val (.long cA), .second, .val (.long cB), .second, .val (.long cC), .second, .val (.long cD), .second, .val (.long cE), .second, .val (.long qq), .second, .val (.ref b289), .val (.int (1 : Int32)), .val (.int (3 : Int32)), .unset, .unset, .unset, .unset, .unset] [(.long cE), (.long (0 : Int64))]))
      refine own_st (fun zw zk => XS.ladd X322.here hx rfl (hb hby at_400) rfl zk) ?_
      refine own_st (fun zw zk => XS.lstore X322.here hx rfl (hb hby at_401) rfl rfl zk) ?_
      show own_Go p e below G (T322.setTop (mkF m 403 #[.val (.long q0), .second, .val (.long q1), .second, .val (.long q2), .second, .val (.long q3), .second, .val (.int p4), .val (.long tA), .second, .val (.long g0), .second, .val (.long tB), .second, .val (.long tC), .second, .val (.long tD), .second, .val (.long tE), .second, .val (.long pp), .second, .val (.long cA), .second, .val (.long cB), .second, .val (.long cC), .second, .val (.long cD), .second, .val (.long cE), .second, .val (.long qq), .second, .val (.ref b289), .val (.int (1 : Int32)), .val (.int (3 : Int32)), .val (.long ((0 : Int64) + cE)), .second, .unset, .unset, .unset] []))
      refine own_st (fun zw zk => XS.lload X322.here hx rfl (hb hby at_403) rfl zk) ?_
      refine own_st (fun zw zk => XS.lload X322.here hx rfl (hb hby at_405) rfl zk) ?_
      refine own_st (fun zw zk => XS.lcmp X322.here hx rfl (hb hby at_407) rfl zk) ?_
      refine own_st (fun zw zk => XS.ifYes X322.here hx rfl (pc0 := 408) (pc' := 416) rfl (hb hby at_408) rfl ((if0 _ _).trans (flt (own_flg k1)).2.2.2) (by decide) (by decide) zk) ?_
      refine own_st (fun zw zk => XS.lload X322.here hx rfl (hb hby at_416) rfl zk) ?_
      refine own_st (fun zw zk => XS.lload X322.here hx rfl (hb hby at_418) rfl zk) ?_
      refine own_st (fun zw zk => XS.lcmp X322.here hx rfl (hb hby at_420) rfl zk) ?_
      refine own_st (fun zw zk => XS.ifYes X322.here hx rfl (pc0 := 421) (pc' := 429) rfl (hb hby at_421) rfl ((if0 _ _).trans (flt (own_flg k2)).2.2.2) (by decide) (by decide) zk) ?_
      show own_Go p e below G (T322.setTop (mkF m 429 #[.val (.long q0), .second, .val (.long q1), .second, .val (.long q2), .second, .val (.long q3), .second, .val (.int p4), .val (.long tA), .second, .val (.long g0), .second, .val (.long tB), .second, .val (.long tC), .second, .val (.long tD), .second, .val (.long tE), .second, .val (.long pp), .second, .val (.long cA), .second, .val (.long cB), .second, .val (.long cC), .second, .val (.long cD), .second, .val (.long cE), .second, .val (.long qq), .second, .val (.ref b289), .val (.int (1 : Int32)), .val (.int (3 : Int32)), .val (.long ((0 : Int64) + cE)), .second, .unset, .unset, .unset] []))
      refine own_st (fun zw zk => XS.lload X322.here hx rfl (hb hby at_429) rfl zk) ?_
      refine own_st (fun zw zk => XS.lload X322.here hx rfl (hb hby at_431) rfl zk) ?_
      refine own_st (fun zw zk => XS.lcmp X322.here hx rfl (hb hby at_433) rfl zk) ?_
      refine own_st (fun zw zk => XS.ifYes X322.here hx rfl (pc0 := 434) (pc' := 442) rfl (hb hby at_434) rfl ((if0 _ _).trans (flt (own_flg k3)).2.2.2) (by decide) (by decide) zk) ?_
      refine own_st (fun zw zk => XS.lload X322.here hx rfl (hb hby at_442) rfl zk) ?_
      refine own_st (fun zw zk => XS.lstore X322.here hx rfl (hb hby at_444) rfl rfl zk) ?_
      show own_Go p e below G (T322.setTop (mkF m 446 #[.val (.long q0), .second, .val (.long q1), .second, .val (.long q2), .second, .val (.long q3), .second, .val (.int p4), .val (.long tA), .second, .val (.long g0), .second, .val (.long tB), .second, .val (.long tC), .second, .val (.long tD), .second, .val (.long tE), .second, .val (.long pp), .second, .val (.long cA), .second, .val (.long cB), .second, .val (.long cC), .second, .val (.long cD), .second, .val (.long cE), .second, .val (.long qq), .second, .val (.ref b289), .val (.int (1 : Int32)), .val (.int (3 : Int32)), .val (.long ((0 : Int64) + cE)), .second, .val (.long tE), .second, .unset] []))
      refine own_st (fun zw zk => XS.aload X322.here hx rfl (hb hby at_446) rfl rfl zk) ?_
      obtain ⟨T323, X323, e323, st323⟩ := getF X322 hx hZ hown (host := "") (Or.inl (hw _ (List.mem_of_getElem? (i := 52) rfl))) Via.refl rfl O322_3 (g := (mkF m 448 #[.val (.long q0), .second, .val (.long q1), .second, .val (.long q2), .second, .val (.long q3), .second, .val (.int p4), .val (.long tA), .second, .val (.long g0), .second, .val (.long tB), .second, .val (.long tC), .second, .val (.long tD), .second, .val (.long tE), .second, .val (.long pp), .second, .val (.long cA), .second, .val (.long cB), .second, .val (.long cC), .second, .val (.long cD), .second, .val (.long cE), .second, .val (.long qq), .second, .val (.ref b289), .val (.int (1 : Int32)), .val (.int (3 : Int32)), .val (.long ((0 : Int64) + cE)), .second, .val (.long tE), .second, .unset] [(.ref b289)])) rfl rfl (hb hby at_448)
      refine own_st (fun zw zk => st323 zw zk) ?_
      refine own_st (fun zw zk => XS.iconst X323.here hx rfl (hb hby at_451) zk) ?_
      refine own_st (fun zw zk => XS.iload X323.here hx rfl (hb hby at_452) rfl zk) ?_
      refine own_st (fun zw zk => XS.isub X323.here hx rfl (hb hby at_454) rfl zk) ?_
      refine own_st (fun zw zk => XS.icmpNo X323.here hx rfl (hb hby at_455) rfl (teq (by decide : (1 : Int32) = (1 : Int32))).2 zk) ?_
      refine own_st (fun zw zk => XS.aload X323.here hx rfl (hb hby at_458) rfl rfl zk) ?_
      obtain ⟨T324, X324, e324, st324⟩ := getF X323 hx hZ hown (host := "") (Or.inl (hw _ (List.mem_of_getElem? (i := 53) rfl))) Via.refl e323 O322_4 (g := (mkF m 460 #[.val (.long q0), .second, .val (.long q1), .second, .val (.long q2), .second, .val (.long q3), .second, .val (.int p4), .val (.long tA), .second, .val (.long g0), .second, .val (.long tB), .second, .val (.long tC), .second, .val (.long tD), .second, .val (.long tE), .second, .val (.long pp), .second, .val (.long cA), .second, .val (.long cB), .second, .val (.long cC), .second, .val (.long cD), .second, .val (.long cE), .second, .val (.long qq), .second, .val (.ref b289), .val (.int (1 : Int32)), .val (.int (3 : Int32)), .val (.long ((0 : Int64) + cE)), .second, .val (.long tE), .second, .unset] [(.ref b289)])) rfl rfl (hb hby at_460)
      refine own_st (fun zw zk => st324 zw zk) ?_
      show own_Go p e below G (T324.setTop (mkF m 463 #[.val (.long q0), .second, .val (.long q1), .second, .val (.long q2), .second, .val (.long q3), .second, .val (.int p4), .val (.long tA), .second, .val (.long g0), .second, .val (.long tB), .second, .val (.long tC), .second, .val (.long tD), .second, .val (.long tE), .second, .val (.long pp), .second, .val (.long cA), .second, .val (.long cB), .second, .val (.long cC), .second, .val (.long cD), .second, .val (.long cE), .second, .val (.long qq), .second, .val (.ref b289), .val (.int (1 : Int32)), .val (.int (3 : Int32)), .val (.long ((0 : Int64) + cE)), .second, .val (.long tE), .second, .unset] [(.long ((((((((((0 : Int64) + cA) + cB) + cC) - cA) + cD) + cE) - cB) - cC) - cD))]))
      refine own_st (fun zw zk => XS.lload X324.here hx rfl (hb hby at_463) rfl zk) ?_
      refine own_st (fun zw zk => XS.lcmp X324.here hx rfl (hb hby at_465) rfl zk) ?_
      have hc466 : ((((((((((0 : Int64) + cA) + cB) + cC) - cA) + cD) + cE) - cB) - cC) - cD) = ((0 : Int64) + cE) := by first | (rw [own_adm1]; done) | (rw [own_adm1]; grind) | grind
      refine own_st (fun zw zk => XS.ifNo X324.here hx rfl (hb hby at_466) rfl ((if0 _ _).trans (teq (own_tle hc466)).2) zk) ?_
      refine own_st (fun zw zk => XS.aload X324.here hx rfl (hb hby at_469) rfl rfl zk) ?_
      obtain ⟨T325, X325, e325, st325⟩ := getF X324 hx hZ hown (host := "") (Or.inl (hw _ (List.mem_of_getElem? (i := 54) rfl))) Via.refl e324 O322_2 (g := (mkF m 471 #[.val (.long q0), .second, .val (.long q1), .second, .val (.long q2), .second, .val (.long q3), .second, .val (.int p4), .val (.long tA), .second, .val (.long g0), .second, .val (.long tB), .second, .val (.long tC), .second, .val (.long tD), .second, .val (.long tE), .second, .val (.long pp), .second, .val (.long cA), .second, .val (.long cB), .second, .val (.long cC), .second, .val (.long cD), .second, .val (.long cE), .second, .val (.long qq), .second, .val (.ref b289), .val (.int (1 : Int32)), .val (.int (3 : Int32)), .val (.long ((0 : Int64) + cE)), .second, .val (.long tE), .second, .unset] [(.ref b289)])) rfl rfl (hb hby at_471)
      refine own_st (fun zw zk => st325 zw zk) ?_
      refine own_st (fun zw zk => XS.iconst X325.here hx rfl (hb hby at_474) zk) ?_
      refine own_st (fun zw zk => XS.iload X325.here hx rfl (hb hby at_475) rfl zk) ?_
      refine own_st (fun zw zk => XS.iadd X325.here hx rfl (hb hby at_477) rfl zk) ?_
      show own_Go p e below G (T325.setTop (mkF m 478 #[.val (.long q0), .second, .val (.long q1), .second, .val (.long q2), .second, .val (.long q3), .second, .val (.int p4), .val (.long tA), .second, .val (.long g0), .second, .val (.long tB), .second, .val (.long tC), .second, .val (.long tD), .second, .val (.long tE), .second, .val (.long pp), .second, .val (.long cA), .second, .val (.long cB), .second, .val (.long cC), .second, .val (.long cD), .second, .val (.long cE), .second, .val (.long qq), .second, .val (.ref b289), .val (.int (1 : Int32)), .val (.int (3 : Int32)), .val (.long ((0 : Int64) + cE)), .second, .val (.long tE), .second, .unset] [(.int (4 : Int32)), (.int (0 : Int32))]))
      refine own_st (fun zw zk => XS.iconst X325.here hx rfl (hb hby at_478) zk) ?_
      refine own_st (fun zw zk => XS.iand X325.here hx rfl (hb hby at_479) rfl zk) ?_
      refine own_st (fun zw zk => XS.icmpNo X325.here hx rfl (hb hby at_480) rfl (teq (by decide : (0 : Int32) = (0 : Int32))).2 zk) ?_
      refine own_st (fun zw zk => XS.aload X325.here hx rfl (hb hby at_483) rfl rfl zk) ?_
      obtain ⟨T326, X326, e326, st326⟩ := getF X325 hx hZ hown (host := "") (Or.inl (hw _ (List.mem_of_getElem? (i := 55) rfl))) Via.refl e325 O322_1 (g := (mkF m 485 #[.val (.long q0), .second, .val (.long q1), .second, .val (.long q2), .second, .val (.long q3), .second, .val (.int p4), .val (.long tA), .second, .val (.long g0), .second, .val (.long tB), .second, .val (.long tC), .second, .val (.long tD), .second, .val (.long tE), .second, .val (.long pp), .second, .val (.long cA), .second, .val (.long cB), .second, .val (.long cC), .second, .val (.long cD), .second, .val (.long cE), .second, .val (.long qq), .second, .val (.ref b289), .val (.int (1 : Int32)), .val (.int (3 : Int32)), .val (.long ((0 : Int64) + cE)), .second, .val (.long tE), .second, .unset] [(.ref b289)])) rfl rfl (hb hby at_485)
      refine own_st (fun zw zk => st326 zw zk) ?_
      refine own_st (fun zw zk => own_len X326 hx hZ e326 Ott293L_322 (z := (8 : Int32)) (rfl) (g := (mkF m 488 #[.val (.long q0), .second, .val (.long q1), .second, .val (.long q2), .second, .val (.long q3), .second, .val (.int p4), .val (.long tA), .second, .val (.long g0), .second, .val (.long tB), .second, .val (.long tC), .second, .val (.long tD), .second, .val (.long tE), .second, .val (.long pp), .second, .val (.long cA), .second, .val (.long cB), .second, .val (.long cC), .second, .val (.long cD), .second, .val (.long cE), .second, .val (.long qq), .second, .val (.ref b289), .val (.int (1 : Int32)), .val (.int (3 : Int32)), .val (.long ((0 : Int64) + cE)), .second, .val (.long tE), .second, .unset] [(.ref tt293)])) rfl rfl (hb hby at_488) _ zk) ?_
      refine own_st (fun zw zk => XS.bipush X326.here hx rfl (hb hby at_489) zk) ?_
      refine own_st (fun zw zk => XS.icmpNo X326.here hx rfl (hb hby at_491) rfl (teq (by decide : (8 : Int32) = (8 : Int32))).2 zk) ?_
      show own_Go p e below G (T326.setTop (mkF m 494 #[.val (.long q0), .second, .val (.long q1), .second, .val (.long q2), .second, .val (.long q3), .second, .val (.int p4), .val (.long tA), .second, .val (.long g0), .second, .val (.long tB), .second, .val (.long tC), .second, .val (.long tD), .second, .val (.long tE), .second, .val (.long pp), .second, .val (.long cA), .second, .val (.long cB), .second, .val (.long cC), .second, .val (.long cD), .second, .val (.long cE), .second, .val (.long qq), .second, .val (.ref b289), .val (.int (1 : Int32)), .val (.int (3 : Int32)), .val (.long ((0 : Int64) + cE)), .second, .val (.long tE), .second, .unset] []))
      refine own_st (fun zw zk => XS.iconst X326.here hx rfl (hb hby at_494) zk) ?_
      refine own_st (fun zw zk => XS.goto X326.here hx rfl (pc0 := 495) (pc' := 499) rfl (hb hby at_495) (by decide) (by decide) zk) ?_
      show own_Go p e below G (T326.setTop (mkF m 499 #[.val (.long q0), .second, .val (.long q1), .second, .val (.long q2), .second, .val (.long q3), .second, .val (.int p4), .val (.long tA), .second, .val (.long g0), .second, .val (.long tB), .second, .val (.long tC), .second, .val (.long tD), .second, .val (.long tE), .second, .val (.long pp), .second, .val (.long cA), .second, .val (.long cB), .second, .val (.long cC), .second, .val (.long cD), .second, .val (.long cE), .second, .val (.long qq), .second, .val (.ref b289), .val (.int (1 : Int32)), .val (.int (3 : Int32)), .val (.long ((0 : Int64) + cE)), .second, .val (.long tE), .second, .unset] [(.int (1 : Int32))]))
      refine own_st (fun zw zk => XS.istore X326.here hx rfl (hb hby at_499) rfl rfl zk) ?_
      show own_Go p e below G (T326.setTop (mkF m 501 #[.val (.long q0), .second, .val (.long q1), .second, .val (.long q2), .second, .val (.long q3), .second, .val (.int p4), .val (.long tA), .second, .val (.long g0), .second, .val (.long tB), .second, .val (.long tC), .second, .val (.long tD), .second, .val (.long tE), .second, .val (.long pp), .second, .val (.long cA), .second, .val (.long cB), .second, .val (.long cC), .second, .val (.long cD), .second, .val (.long cE), .second, .val (.long qq), .second, .val (.ref b289), .val (.int (1 : Int32)), .val (.int (3 : Int32)), .val (.long ((0 : Int64) + cE)), .second, .val (.long tE), .second, .val (.int (1 : Int32))] []))
      refine own_st (fun zw zk => XS.iload X326.here hx rfl (hb hby at_501) rfl zk) ?_
      refine own_st (fun zw zk => XS.ifNo X326.here hx rfl (hb hby at_503) rfl ((if0 _ _).trans (feq (by decide : ¬ ((1 : Int32) = (0 : Int32)))).1) zk) ?_
      refine own_st (fun zw zk => XS.iload X326.here hx rfl (hb hby at_506) rfl zk) ?_
      refine own_st (fun zw zk => XS.ifYes X326.here hx rfl (pc0 := 508) (pc' := 513) rfl (hb hby at_508) rfl ((if0 _ _).trans (feq (by decide : ¬ ((1 : Int32) = (0 : Int32)))).2) (by decide) (by decide) zk) ?_
      refine own_st (fun zw zk => XS.iconst X326.here hx rfl (hb hby at_513) zk) ?_
      refine own_st (fun zw zk => XS.iload X326.here hx rfl (hb hby at_514) rfl zk) ?_
      refine own_st (fun zw zk => XS.isub X326.here hx rfl (hb hby at_516) rfl zk) ?_
      refine own_st (fun zw zk => XS.ifNo X326.here hx rfl (hb hby at_517) rfl ((if0 _ _).trans (tlt (by decide : (0 : Int32) < (1 : Int32))).2.2.2) zk) ?_
      show own_Go p e below G (T326.setTop (mkF m 520 #[.val (.long q0), .second, .val (.long q1), .second, .val (.long q2), .second, .val (.long q3), .second, .val (.int p4), .val (.long tA), .second, .val (.long g0), .second, .val (.long tB), .second, .val (.long tC), .second, .val (.long tD), .second, .val (.long tE), .second, .val (.long pp), .second, .val (.long cA), .second, .val (.long cB), .second, .val (.long cC), .second, .val (.long cD), .second, .val (.long cE), .second, .val (.long qq), .second, .val (.ref b289), .val (.int (1 : Int32)), .val (.int (3 : Int32)), .val (.long ((0 : Int64) + cE)), .second, .val (.long tE), .second, .val (.int (1 : Int32))] []))
      refine own_st (fun zw zk => XS.aload X326.here hx rfl (hb hby at_520) rfl rfl zk) ?_
      refine own_st (fun zw zk => XS.lconst X326.here hx rfl (hb hby at_522) zk) ?_
      obtain ⟨cq327, kq327, q327a, q327b, q327c⟩ := isOf hZ e326 O322_0
      obtain ⟨_, _, ⟨T327, L327, k327, n327⟩, -, X327, ⟨Lc327, hQ327, l327, y327, z327⟩, st327⟩ := X326.virtualBack hx (y := (⟨"com/example/headroom/headroom/SlidingLog$Log", "timeReaching", "(J)J"⟩ : MethodName)) (z := (⟨"com/example/headroom/headroom/SlidingLog$Log", "timeReaching", "(J)J"⟩ : MethodName)) hown (mvT hZ (hw _ (List.mem_of_getElem? (i := 56) rfl))) (mvT hZ (hw _ (List.mem_of_getElem? (i := 57) rfl))) (notFace_of_selects (args := #[]) (mvT hZ (hw _ (List.mem_of_getElem? (i := 59) rfl)))) (mvT hZ (hw _ (List.mem_of_getElem? (i := 59) rfl))) (mvT hZ (hw _ (List.mem_of_getElem? (i := 58) rfl))) (by decide) (backOf (W := 0) (rm_timeReaching_0_1_8 l Z a0 hw [] b289 (1 : Int64) tt293 ((((((((((0 : Int64) + cA) + cB) + cC) - cA) + cD) + cE) - cB) - cC) - cD) tE cE tB cB tC cC tD cD T322.heap n0 Z322 (O322_0) (O322_1) (O322_2) (O322_3) (O322_4) (Ott293L_322) (h1_cE)) hZ (hw _ (List.mem_of_getElem? (i := 60) rfl)) (hw _ (List.mem_of_getElem? (i := 4) rfl)) (by decide) (by decide)) q327a q327c (g := (mkF m 523 #[.val (.long q0), .second, .val (.long q1), .second, .val (.long q2), .second, .val (.long q3), .second, .val (.int p4), .val (.long tA), .second, .val (.long g0), .second, .val (.long tB), .second, .val (.long tC), .second, .val (.long tD), .second, .val (.long tE), .second, .val (.long pp), .second, .val (.long cA), .second, .val (.long cB), .second, .val (.long cC), .second, .val (.long cD), .second, .val (.long cE), .second, .val (.long qq), .second, .val (.ref b289), .val (.int (1 : Int32)), .val (.int (3 : Int32)), .val (.long ((0 : Int64) + cE)), .second, .val (.long tE), .second, .val (.int (1 : Int32))] [(.long (1 : Int64)), (.ref b289)])) rfl (by rw [hml]; rfl) (Steps.refl _) (argsL := [(.long (1 : Int64))]) (rest := []) (lenOf pd_5 rfl) rfl (by show 2 * 0 + _ ≤ _; exact Nat.le_of_eq rfl) (hb hby at_523) (fun _ _ => ⟨rfl, e326, (by decide : 4 + 0 ≤ _), (by decide : 19 + 0 ≤ _)⟩)
      dsimp only [Pt.U, Pt.locs, Pt.cells, Pt.slots] at X327 l327 y327 z327 st327 hQ327
      subst l327 y327 z327
      obtain ⟨rfl, N327q, e327⟩ := hQ327
      have N327 := Fr.app N322 N327q
      refine own_jp st327 ?_
      refine own_st (fun zw zk => XS.lload X327.here hx rfl (hb hby at_526) rfl zk) ?_
      refine own_st (fun zw zk => XS.lcmp X327.here hx rfl (hb hby at_528) rfl zk) ?_
      refine own_st (fun zw zk => XS.ifNo X327.here hx rfl (hb hby at_529) rfl ((if0 _ _).trans (teq (own_tle (rfl : tE = tE))).2) zk) ?_
      refine own_st (fun zw zk => XS.aload X327.here hx rfl (hb hby at_532) rfl rfl zk) ?_
      obtain ⟨cq328, kq328, q328a, q328b, q328c⟩ := isOf hZ e327 O322_0
      obtain ⟨_, _, ⟨T328, L328, k328, n328⟩, -, X328, ⟨Lc328, hQ328, l328, y328, z328⟩, st328⟩ := X327.virtualBack hx (y := (⟨"com/example/headroom/headroom/SlidingLog$Log", "latest", "()J"⟩ : MethodName)) (z := (⟨"com/example/headroom/headroom/SlidingLog$Log", "latest", "()J"⟩ : MethodName)) hown (mvT hZ (hw _ (List.mem_of_getElem? (i := 61) rfl))) (mvT hZ (hw _ (List.mem_of_getElem? (i := 35) rfl))) (notFace_of_selects (args := #[]) (mvT hZ (hw _ (List.mem_of_getElem? (i := 37) rfl)))) (mvT hZ (hw _ (List.mem_of_getElem? (i := 37) rfl))) (mvT hZ (hw _ (List.mem_of_getElem? (i := 36) rfl))) (by decide) (backOf (W := 0) (rm_latest_0_1_8 l Z a0 hw [] b289 tt293 ((((((((((0 : Int64) + cA) + cB) + cC) - cA) + cD) + cE) - cB) - cC) - cD) tE cE tB cB tC cC tD cD T322.heap n0 Z322 (O322_0) (O322_1) (O322_2) (O322_3) (O322_4) (Ott293L_322)) hZ (hw _ (List.mem_of_getElem? (i := 38) rfl)) (hw _ (List.mem_of_getElem? (i := 4) rfl)) (by decide) (by decide)) q328a q328c (g := (mkF m 534 #[.val (.long q0), .second, .val (.long q1), .second, .val (.long q2), .second, .val (.long q3), .second, .val (.int p4), .val (.long tA), .second, .val (.long g0), .second, .val (.long tB), .second, .val (.long tC), .second, .val (.long tD), .second, .val (.long tE), .second, .val (.long pp), .second, .val (.long cA), .second, .val (.long cB), .second, .val (.long cC), .second, .val (.long cD), .second, .val (.long cE), .second, .val (.long qq), .second, .val (.ref b289), .val (.int (1 : Int32)), .val (.int (3 : Int32)), .val (.long ((0 : Int64) + cE)), .second, .val (.long tE), .second, .val (.int (1 : Int32))] [(.ref b289)])) rfl (by rw [hml]; rfl) (Steps.refl _) (argsL := []) (rest := []) (lenOf pd_2 rfl) rfl (by show 2 * 0 + _ ≤ _; exact Nat.le_of_eq rfl) (hb hby at_534) (fun _ _ => ⟨rfl, e327, (by decide : 4 + 0 ≤ _), (by decide : 19 + 0 ≤ _)⟩)
      dsimp only [Pt.U, Pt.locs, Pt.cells, Pt.slots] at X328 l328 y328 z328 st328 hQ328
      subst l328 y328 z328
      obtain ⟨rfl, N328q, e328⟩ := hQ328
      have N328 := Fr.app N327 N328q
      refine own_jp st328 ?_
      show own_Go p e below G (T328.setTop (mkF m 537 #[.val (.long q0), .second, .val (.long q1), .second, .val (.long q2), .second, .val (.long q3), .second, .val (.int p4), .val (.long tA), .second, .val (.long g0), .second, .val (.long tB), .second, .val (.long tC), .second, .val (.long tD), .second, .val (.long tE), .second, .val (.long pp), .second, .val (.long cA), .second, .val (.long cB), .second, .val (.long cC), .second, .val (.long cD), .second, .val (.long cE), .second, .val (.long qq), .second, .val (.ref b289), .val (.int (1 : Int32)), .val (.int (3 : Int32)), .val (.long ((0 : Int64) + cE)), .second, .val (.long tE), .second, .val (.int (1 : Int32))] [(.long tE)]))
      refine own_st (fun zw zk => XS.lload X328.here hx rfl (hb hby at_537) rfl zk) ?_
      refine own_st (fun zw zk => XS.lcmp X328.here hx rfl (hb hby at_539) rfl zk) ?_
      refine own_st (fun zw zk => XS.ifNo X328.here hx rfl (hb hby at_540) rfl ((if0 _ _).trans (teq (own_tle (rfl : tE = tE))).2) zk) ?_
      refine own_st (fun zw zk => XS.iconst X328.here hx rfl (hb hby at_543) zk) ?_
      refine own_st (fun zw zk => XS.goto X328.here hx rfl (pc0 := 544) (pc' := 548) rfl (hb hby at_544) (by decide) (by decide) zk) ?_
      show own_Go p e below G (T328.setTop (mkF m 548 #[.val (.long q0), .second, .val (.long q1), .second, .val (.long q2), .second, .val (.long q3), .second, .val (.int p4), .val (.long tA), .second, .val (.long g0), .second, .val (.long tB), .second, .val (.long tC), .second, .val (.long tD), .second, .val (.long tE), .second, .val (.long pp), .second, .val (.long cA), .second, .val (.long cB), .second, .val (.long cC), .second, .val (.long cD), .second, .val (.long cE), .second, .val (.long qq), .second, .val (.ref b289), .val (.int (1 : Int32)), .val (.int (3 : Int32)), .val (.long ((0 : Int64) + cE)), .second, .val (.long tE), .second, .val (.int (1 : Int32))] [(.int (1 : Int32))]))
      subst hG
      obtain ⟨fs, hr, hrun, hended, hW, hsame⟩ := X328.leave (v := some (.int (1 : Int32))) (hlocks := Bd.notSynchronized) (fun h => by rw [Bd.returns] at h; cases h)
      refine ⟨_, retN X328 hx (t := .boolean) Bd.returns (by simp) (hb hby at_548) hr, _, hrun, hended, _, _, rfl, ?_, ⟨_, rfl⟩, hW, hsame.mono (by decide) (by decide)⟩
      show Q0 Z q0 q1 q2 q3 p4 h0 n0 _ T328.heap _
      rw [e328]
      exact ⟨rfl, N328⟩
    · show own_Go p e below G (T300.setTop (mkF m 278 #[.val (.long q0), .second, .val (.long q1), .second, .val (.long q2), .second, .val (.long q3), .second, .val (.int p4), .val (.long tA), .second, .val (.long g0), .second, .val (.long tB), .second, .val (.long tC), .second, .val (.long tD), .second, .val (.long tE), .second, .val (.long pp), .second, .val (.long cA), .second, .val (.long cB), .second, .val (.long cC), .second, .val (.long cD), .second, .val (.long cE), .second, .val (.long qq), .second, .val (.ref b289), .val (.int (1 : Int32)), .unset, .unset, .unset, .unset, .unset, .unset] []))
      refine own_st (fun zw zk => XS.aload X300.here hx rfl (hb hby at_278) rfl rfl zk) ?_
      refine own_st (fun zw zk => XS.lload X300.here hx rfl (hb hby at_280) rfl zk) ?_
      obtain ⟨cq329, kq329, q329a, q329b, q329c⟩ := isOf hZ rfl O300_0
      obtain ⟨_, _, ⟨T329, L329, k329, n329⟩, -, X329, ⟨Lc329, hQ329, l329, y329, z329⟩, st329⟩ := X300.virtualBack hx (y := (⟨"com/example/headroom/headroom/SlidingLog$Log", "forgetUpTo", "(J)V"⟩ : MethodName)) (z := (⟨"com/example/headroom/headroom/SlidingLog$Log", "forgetUpTo", "(J)V"⟩ : MethodName)) hown (mvT hZ (hw _ (List.mem_of_getElem? (i := 47) rfl))) (mvT hZ (hw _ (List.mem_of_getElem? (i := 48) rfl))) (notFace_of_selects (args := #[]) (mvT hZ (hw _ (List.mem_of_getElem? (i := 50) rfl)))) (mvT hZ (hw _ (List.mem_of_getElem? (i := 50) rfl))) (mvT hZ (hw _ (List.mem_of_getElem? (i := 49) rfl))) (by decide) (backOf (W := 0) (rm_forgetUpTo_1_4_8_4 l Z a0 hw [] b289 qq tt293 (((((((0 : Int64) + cA) + cB) + cC) - cA) + cD) + cE) tE cE tB cB tC cC tD cD T300.heap n0 Z300 (O300_0) (O300_1) (O300_2) (O300_3) (O300_4) (O300_5) (G289) (ne_b289_tt293) (k1) (k2) (k3) (k4)) hZ (hw _ (List.mem_of_getElem? (i := 51) rfl)) (hw _ (List.mem_of_getElem? (i := 4) rfl)) (by decide) (by decide)) q329a q329c (g := (mkF m 282 #[.val (.long q0), .second, .val (.long q1), .second, .val (.long q2), .second, .val (.long q3), .second, .val (.int p4), .val (.long tA), .second, .val (.long g0), .second, .val (.long tB), .second, .val (.long tC), .second, .val (.long tD), .second, .val (.long tE), .second, .val (.long pp), .second, .val (.long cA), .second, .val (.long cB), .second, .val (.long cC), .second, .val (.long cD), .second, .val (.long cE), .second, .val (.long qq), .second, .val (.ref b289), .val (.int (1 : Int32)), .unset, .unset, .unset, .unset, .unset, .unset] [(.long qq), (.ref b289)])) rfl (by rw [hml]; rfl) (Steps.refl _) (argsL := [(.long qq)]) (rest := []) (lenOf pd_4 rfl) rfl (by show 2 * 0 + _ ≤ _; exact Nat.le_of_eq rfl) (hb hby at_282) (fun _ _ => ⟨rfl, rfl, (by decide : 4 + 0 ≤ _), (by decide : 19 + 0 ≤ _)⟩)
      dsimp only [Pt.U, Pt.locs, Pt.cells, Pt.slots] at X329 l329 y329 z329 st329 hQ329
      subst l329 y329 z329
      obtain ⟨rfl, N329q, K329, O329_0, O329_1, O329_2, O329_3, O329_4⟩ := hQ329
      have Ob289E_329 := O300_0.keep K329
      have Ott290L_329 := Ott290L_300.keep K329 (ninS (Ne.symm ne_b289_tt290) nin0)
      have Ott292L_329 := Ott292L_300.keep K329 (ninS (Ne.symm ne_b289_tt292) nin0)
      have Ott293L_329 := O300_5.keep K329 (ninS (Ne.symm ne_b289_tt293) nin0)
      have Z329 : n0 ≤ T329.heap.size := Nat.le_trans Z300 K329.1
      have N329 := Fr.app N300 N329q
      refine own_jp st329 ?_
      refine own_st (fun zw zk => XS.lload X329.here hx rfl (hb hby at_285) rfl zk) ?_
      refine own_st (fun zw zk => XS.lload X329.here hx rfl (hb hby at_287) rfl zk) ?_
      refine own_st (fun zw zk => XS.lcmp X329.here hx rfl (hb hby at_289) rfl zk) ?_
      refine own_st (fun zw zk => XS.ifNo X329.here hx rfl (hb hby at_290) rfl ((if0 _ _).trans (flt (own_flg k1)).2.2.1) zk) ?_
      refine own_st (fun zw zk => XS.iconst X329.here hx rfl (hb hby at_293) zk) ?_
      show own_Go p e below G (T329.setTop (mkF m 294 #[.val (.long q0), .second, .val (.long q1), .second, .val (.long q2), .second, .val (.long q3), .second, .val (.int p4), .val (.long tA), .second, .val (.long g0), .second, .val (.long tB), .second, .val (.long tC), .second, .val (.long tD), .second, .val (.long tE), .second, .val (.long pp), .second, .val (.long cA), .second, .val (.long cB), .second, .val (.long cC), .second, .val (.long cD), .second, .val (.long cE), .second, .val (.long qq), .second, .val (.ref b289), .val (.int (1 : Int32)), .unset, .unset, .unset, .unset, .unset, .unset] [(.int (1 : Int32))]))
      refine own_st (fun zw zk => XS.goto X329.here hx rfl (pc0 := 294) (pc' := 298) rfl (hb hby at_294) (by decide) (by decide) zk) ?_
      show own_Go p e below G (T329.setTop (mkF m 298 #[.val (.long q0), .second, .val (.long q1), .second, .val (.long q2), .second, .val (.long q3), .second, .val (.int p4), .val (.long tA), .second, .val (.long g0), .second, .val (.long tB), .second, .val (.long tC), .second, .val (.long tD), .second, .val (.long tE), .second, .val (.long pp), .second, .val (.long cA), .second, .val (.long cB), .second, .val (.long cC), .second, .val (.long cD), .second, .val (.long cE), .second, .val (.long qq), .second, .val (.ref b289), .val (.int (1 : Int32)), .unset, .unset, .unset, .unset, .unset, .unset] [(.int (1 : Int32))]))
      refine own_st (fun zw zk => XS.lload X329.here hx rfl (hb hby at_298) rfl zk) ?_
      refine own_st (fun zw zk => XS.lload X329.here hx rfl (hb hby at_300) rfl zk) ?_
      refine own_st (fun zw zk => XS.lcmp X329.here hx rfl (hb hby at_302) rfl zk) ?_
      refine own_st (fun zw zk => XS.ifNo X329.here hx rfl (hb hby at_303) rfl ((if0 _ _).trans (flt (own_flg k2)).2.2.1) zk) ?_
      refine own_st (fun zw zk => XS.iconst X329.here hx rfl (hb hby at_306) zk) ?_
      refine own_st (fun zw zk => XS.goto X329.here hx rfl (pc0 := 307) (pc' := 311) rfl (hb hby at_307) (by decide) (by decide) zk) ?_
      show own_Go p e below G (T329.setTop (mkF m 311 #[.val (.long q0), .second, .val (.long q1), .second, .val (.long q2), .second, .val (.long q3), .second, .val (.int p4), .val (.long tA), .second, .val (.long g0), .second, .val (.long tB), .second, .val (.long tC), .second, .val (.long tD), .second, .val (.long tE), .second, .val (.long pp), .second, .val (.long cA), .second, .val (.long cB), .second, .val (.long cC), .second, .val (.long cD), .second, .val (.long cE), .second, .val (.long qq), .second, .val (.ref b289), .val (.int (1 : Int32)), .unset, .unset, .unset, .unset, .unset, .unset] [(.int (1 : Int32)), (.int (1 : Int32))]))
      refine own_st (fun zw zk => XS.iadd X329.here hx rfl (hb hby at_311) rfl zk) ?_
      refine own_st (fun zw zk => XS.lload X329.here hx rfl (hb hby at_312) rfl zk) ?_
      refine own_st (fun zw zk => XS.lload X329.here hx rfl (hb hby at_314) rfl zk) ?_
      refine own_st (fun zw zk => XS.lcmp X329.here hx rfl (hb hby at_316) rfl zk) ?_
      refine own_st (fun zw zk => XS.ifNo X329.here hx rfl (hb hby at_317) rfl ((if0 _ _).trans (flt (own_flg k3)).2.2.1) zk) ?_
      refine own_st (fun zw zk => XS.iconst X329.here hx rfl (hb hby at_320) zk) ?_
      refine own_st (fun zw zk => XS.goto X329.here hx rfl (pc0 := 321) (pc' := 325) rfl (hb hby at_321) (by decide) (by decide) zk) ?_
      show own_Go p e below G (T329.setTop (mkF m 325 #[.val (.long q0), .second, .val (.long q1), .second, .val (.long q2), .second, .val (.long q3), .second, .val (.int p4), .val (.long tA), .second, .val (.long g0), .second, .val (.long tB), .second, .val (.long tC), .second, .val (.long tD), .second, .val (.long tE), .second, .val (.long pp), .second, .val (.long cA), .second, .val (.long cB), .second, .val (.long cC), .second, .val (.long cD), .second, .val (.long cE), .second, .val (.long qq), .second, .val (.ref b289), .val (.int (1 : Int32)), .unset, .unset, .unset, .unset, .unset, .unset] [(.int (1 : Int32)), (.int (2 : Int32))]))
      refine own_st (fun zw zk => XS.iadd X329.here hx rfl (hb hby at_325) rfl zk) ?_
      refine own_st (fun zw zk => XS.lload X329.here hx rfl (hb hby at_326) rfl zk) ?_
      refine own_st (fun zw zk => XS.lload X329.here hx rfl (hb hby at_328) rfl zk) ?_
      refine own_st (fun zw zk => XS.lcmp X329.here hx rfl (hb hby at_330) rfl zk) ?_
      refine own_st (fun zw zk => XS.ifNo X329.here hx rfl (hb hby at_331) rfl ((if0 _ _).trans (flt (own_flg k4)).2.2.1) zk) ?_
      refine own_st (fun zw zk => XS.iconst X329.here hx rfl (hb hby at_334) zk) ?_
      refine own_st (fun zw zk => XS.goto X329.here hx rfl (pc0 := 335) (pc' := 339) rfl (hb hby at_335) (by decide) (by decide) zk) ?_
      show own_Go p e below G (T329.setTop (mkF m 339 #[.val (.long q0), .second, .val (.long q1), .second, .val (.long q2), .second, .val (.long q3), .second, .val (.int p4), .val (.long tA), .second, .val (.long g0), .second, .val (.long tB), .second, .val (.long tC), .second, .val (.long tD), .second, .val (.long tE), .second, .val (.long pp), .second, .val (.long cA), .second, .val (.long cB), .second, .val (.long cC), .second, .val (.long cD), .second, .val (.long cE), .second, .val (.long qq), .second, .val (.ref b289), .val (.int (1 : Int32)), .unset, .unset, .unset, .unset, .unset, .unset] [(.int (1 : Int32)), (.int (3 : Int32))]))
      refine own_st (fun zw zk => XS.iadd X329.here hx rfl (hb hby at_339) rfl zk) ?_
      refine own_st (fun zw zk => XS.istore X329.here hx rfl (hb hby at_340) rfl rfl zk) ?_
      show own_Go p e below G (T329.setTop (mkF m 342 #[.val (.long q0), .second, .val (.long q1), .second, .val (.long q2), .second, .val (.long q3), .second, .val (.int p4), .val (.long tA), .second, .val (.long g0), .second, .val (.long tB), .second, .val (.long tC), .second, .val (.long tD), .second, .val (.long tE), .second, .val (.long pp), .second, .val (.long cA), .second, .val (.long cB), .second, .val (.long cC), .second, .val (.long cD), .second, .val (.long cE), .second, .val (.long qq), .second, .val (.ref b289), .val (.int (1 : Int32)), .val (.int (4 : Int32)), .unset, .unset, .unset, .unset, .unset] []))
      refine own_st (fun zw zk => XS.lload X329.here hx rfl (hb hby at_342) rfl zk) ?_
      refine own_st (fun zw zk => XS.lload X329.here hx rfl (hb hby at_344) rfl zk) ?_
      refine own_st (fun zw zk => XS.lcmp X329.here hx rfl (hb hby at_346) rfl zk) ?_
      refine own_st (fun zw zk => XS.ifYes X329.here hx rfl (pc0 := 347) (pc' := 355) rfl (hb hby at_347) rfl ((if0 _ _).trans (flt (own_flg k1)).2.2.2) (by decide) (by decide) zk) ?_
      refine own_st (fun zw zk => XS.lconst X329.here hx rfl (hb hby at_355) zk) ?_
      refine own_st (fun zw zk => XS.lload X329.here hx rfl (hb hby at_356) rfl zk) ?_
      refine own_st (fun zw zk => XS.lload X329.here hx rfl (hb hby at_358) rfl zk) ?_
      refine own_st (fun zw zk => XS.lcmp X329.here hx rfl (hb hby at_360) rfl zk) ?_
      show own_Go p e below G (T329.setTop (mkF m 361 #[.val (.long q0), .second, .val (.long q1), .second, .val (.long q2), .second, .val (.long q3), .second, .val (.int p4), .val (.long tA), .second, .val (.long g0), .second, .val (.long tB), .second, .val (.long tC), .second, .val (.long tD), .second, .val (.long tE), .second, .val (.long pp), .second, .val (.long cA), .second, .val (.long cB), .second, .val (.long cC), .second, .val (.long cD), .second, .val (.long cE), .second, .val (.long qq), .second, .val (.ref b289), .val (.int (1 : Int32)), .val (.int (4 : Int32)), .unset, .unset, .unset, .unset, .unset] [(.int (lcmpW tC qq)), (.long (0 : Int64))]))
      refine own_st (fun zw zk => XS.ifYes X329.here hx rfl (pc0 := 361) (pc' := 369) rfl (hb hby at_361) rfl ((if0 _ _).trans (flt (own_flg k2)).2.2.2) (by decide) (by decide) zk) ?_
      refine own_st (fun zw zk => XS.lconst X329.here hx rfl (hb hby at_369) zk) ?_
      refine own_st (fun zw zk => XS.ladd X329.here hx rfl (hb hby at_370) rfl zk) ?_
      refine own_st (fun zw zk => XS.lload X329.here hx rfl (hb hby at_371) rfl zk) ?_
      refine own_st (fun zw zk => XS.lload X329.here hx rfl (hb hby at_373) rfl zk) ?_
      refine own_st (fun zw zk => XS.lcmp X329.here hx rfl (hb hby at_375) rfl zk) ?_
      refine own_st (fun zw zk => XS.ifYes X329.here hx rfl (pc0 := 376) (pc' := 384) rfl (hb hby at_376) rfl ((if0 _ _).trans (flt (own_flg k3)).2.2.2) (by decide) (by decide) zk) ?_
      refine own_st (fun zw zk => XS.lconst X329.here hx rfl (hb hby at_384) zk) ?_
      show own_Go p e below G (T329.setTop (mkF m 385 #[.val (.long q0), .second, .val (.long q1), .second, .val (.long q2), .second, .val (.long q3), .second, .val (.int p4), .val (.long tA), .second, .val (.long g0), .second, .val (.long tB), .second, .val (.long tC), .second, .val (.long tD), .second, .val (.long tE), .second, .val (.long pp), .second, .val (.long cA), .second, .val (.long cB), .second, .val (.long cC), .second, .val (.long cD), .second, .val (.long cE), .second, .val (.long qq), .second, .val (.ref b289), .val (.int (1 : Int32)), .val (.int (4 : Int32)), .unset, .unset, .unset, .unset, .unset] [(.long (0 : Int64)), (.long (0 : Int64))]))
      refine own_st (fun zw zk => XS.ladd X329.here hx rfl (hb hby at_385) rfl zk) ?_
      refine own_st (fun zw zk => XS.lload X329.here hx rfl (hb hby at_386) rfl zk) ?_
      refine own_st (fun zw zk => XS.lload X329.here hx rfl (hb hby at_388) rfl zk) ?_
      refine own_st (fun zw zk => XS.lcmp X329.here hx rfl (hb hby at_390) rfl zk) ?_
      refine own_st (fun zw zk => XS.ifYes X329.here hx rfl (pc0 := 391) (pc' := 399) rfl (hb hby at_391) rfl ((if0 _ _).trans (flt (own_flg k4)).2.2.2) (by decide) (by decide) zk) ?_
      refine own_st (fun zw zk => XS.lconst X329.here hx rfl (hb hby at_399) zk) ?_
      refine own_st (fun zw zk => XS.ladd X329.here hx rfl (hb hby at_400) rfl zk) ?_
      refine own_st (fun zw zk => XS.lstore X329.here hx rfl (hb hby at_401) rfl rfl zk) ?_
      show own_Go p e below G (T329.setTop (mkF m 403 #[.val (.long q0), .second, .val (.long q1), .second, .val (.long q2), .second, .val (.long q3), .second, .val (.int p4), .val (.long tA), .second, .val (.long g0), .second, .val (.long tB), .second, .val (.long tC), .second, .val (.long tD), .second, .val (.long tE), .second, .val (.long pp), .second, .val (.long cA), .second, .val (.long cB), .second, .val (.long cC), .second, .val (.long cD), .second, .val (.long cE), .second, .val (.long qq), .second, .val (.ref b289), .val (.int (1 : Int32)), .val (.int (4 : Int32)), .val (.long (0 : Int64)), .second, .unset, .unset, .unset] []))
      refine own_st (fun zw zk => XS.lload X329.here hx rfl (hb hby at_403) rfl zk) ?_
      refine own_st (fun zw zk => XS.lload X329.here hx rfl (hb hby at_405) rfl zk) ?_
      refine own_st (fun zw zk => XS.lcmp X329.here hx rfl (hb hby at_407) rfl zk) ?_
      refine own_st (fun zw zk => XS.ifYes X329.here hx rfl (pc0 := 408) (pc' := 416) rfl (hb hby at_408) rfl ((if0 _ _).trans (flt (own_flg k1)).2.2.2) (by decide) (by decide) zk) ?_
      refine own_st (fun zw zk => XS.lload X329.here hx rfl (hb hby at_416) rfl zk) ?_
      refine own_st (fun zw zk => XS.lload X329.here hx rfl (hb hby at_418) rfl zk) ?_
      refine own_st (fun zw zk => XS.lcmp X329.here hx rfl (hb hby at_420) rfl zk) ?_
      refine own_st (fun zw zk => XS.ifYes X329.here hx rfl (pc0 := 421) (pc' := 429) rfl (hb hby at_421) rfl ((if0 _ _).trans (flt (own_flg k2)).2.2.2) (by decide) (by decide) zk) ?_
      show own_Go p e below G (T329.setTop (mkF m 429 #[.val (.long q0), .second, .val (.long q1), .second, .val (.long q2), .second, .val (.long q3), .second, .val (.int p4), .val (.long tA), .second, .val (.long g0), .second, .val (.long tB), .second, .val (.long tC), .second, .val (.long tD), .second, .val (.long tE), .second, .val (.long pp), .second, .val (.long cA), .second, .val (.long cB), .second, .val (.long cC), .second, .val (.long cD), .second, .val (.long cE), .second, .val (.long qq), .second, .val (.ref b289), .val (.int (1 : Int32)), .val (.int (4 : Int32)), .val (.long (0 : Int64)), .second, .unset, .unset, .unset] []))
      refine own_st (fun zw zk => XS.lload X329.here hx rfl (hb hby at_429) rfl zk) ?_
      refine own_st (fun zw zk => XS.lload X329.here hx rfl (hb hby at_431) rfl zk) ?_
      refine own_st (fun zw zk => XS.lcmp X329.here hx rfl (hb hby at_433) rfl zk) ?_
      refine own_st (fun zw zk => XS.ifYes X329.here hx rfl (pc0 := 434) (pc' := 442) rfl (hb hby at_434) rfl ((if0 _ _).trans (flt (own_flg k3)).2.2.2) (by decide) (by decide) zk) ?_
      refine own_st (fun zw zk => XS.lload X329.here hx rfl (hb hby at_442) rfl zk) ?_
      refine own_st (fun zw zk => XS.lstore X329.here hx rfl (hb hby at_444) rfl rfl zk) ?_
      show own_Go p e below G (T329.setTop (mkF m 446 #[.val (.long q0), .second, .val (.long q1), .second, .val (.long q2), .second, .val (.long q3), .second, .val (.int p4), .val (.long tA), .second, .val (.long g0), .second, .val (.long tB), .second, .val (.long tC), .second, .val (.long tD), .second, .val (.long tE), .second, .val (.long pp), .second, .val (.long cA), .second, .val (.long cB), .second, .val (.long cC), .second, .val (.long cD), .second, .val (.long cE), .second, .val (.long qq), .second, .val (.ref b289), .val (.int (1 : Int32)), .val (.int (4 : Int32)), .val (.long (0 : Int64)), .second, .val (.long tE), .second, .unset] []))
      refine own_st (fun zw zk => XS.aload X329.here hx rfl (hb hby at_446) rfl rfl zk) ?_
      obtain ⟨T330, X330, e330, st330⟩ := getF X329 hx hZ hown (host := "") (Or.inl (hw _ (List.mem_of_getElem? (i := 52) rfl))) Via.refl rfl O329_3 (g := (mkF m 448 #[.val (.long q0), .second, .val (.long q1), .second, .val (.long q2), .second, .val (.long q3), .second, .val (.int p4), .val (.long tA), .second, .val (.long g0), .second, .val (.long tB), .second, .val (.long tC), .second, .val (.long tD), .second, .val (.long tE), .second, .val (.long pp), .second, .val (.long cA), .second, .val (.long cB), .second, .val (.long cC), .second, .val (.long cD), .second, .val (.long cE), .second, .val (.long qq), .second, .val (.ref b289), .val (.int (1 : Int32)), .val (.int (4 : Int32)), .val (.long (0 : Int64)), .second, .val (.long tE), .second, .unset] [(.ref b289)])) rfl rfl (hb hby at_448)
      refine own_st (fun zw zk => st330 zw zk) ?_
      refine own_st (fun zw zk => XS.iconst X330.here hx rfl (hb hby at_451) zk) ?_
      refine own_st (fun zw zk => XS.iload X330.here hx rfl (hb hby at_452) rfl zk) ?_
      refine own_st (fun zw zk => XS.isub X330.here hx rfl (hb hby at_454) rfl zk) ?_
      refine own_st (fun zw zk => XS.icmpNo X330.here hx rfl (hb hby at_455) rfl (teq (by decide : (0 : Int32) = (0 : Int32))).2 zk) ?_
      refine own_st (fun zw zk => XS.aload X330.here hx rfl (hb hby at_458) rfl rfl zk) ?_
      obtain ⟨T331, X331, e331, st331⟩ := getF X330 hx hZ hown (host := "") (Or.inl (hw _ (List.mem_of_getElem? (i := 53) rfl))) Via.refl e330 O329_4 (g := (mkF m 460 #[.val (.long q0), .second, .val (.long q1), .second, .val (.long q2), .second, .val (.long q3), .second, .val (.int p4), .val (.long tA), .second, .val (.long g0), .second, .val (.long tB), .second, .val (.long tC), .second, .val (.long tD), .second, .val (.long tE), .second, .val (.long pp), .second, .val (.long cA), .second, .val (.long cB), .second, .val (.long cC), .second, .val (.long cD), .second, .val (.long cE), .second, .val (.long qq), .second, .val (.ref b289), .val (.int (1 : Int32)), .val (.int (4 : Int32)), .val (.long (0 : Int64)), .second, .val (.long tE), .second, .unset] [(.ref b289)])) rfl rfl (hb hby at_460)
      refine own_st (fun zw zk => st331 zw zk) ?_
      show own_Go p e below G (T331.setTop (mkF m 463 #[.val (.long q0), .second, .val (.long q1), .second, .val (.long q2), .second, .val (.long q3), .second, .val (.int p4), .val (.long tA), .second, .val (.long g0), .second, .val (.long tB), .second, .val (.long tC), .second, .val (.long tD), .second, .val (.long tE), .second, .val (.long pp), .second, .val (.long cA), .second, .val (.long cB), .second, .val (.long cC), .second, .val (.long cD), .second, .val (.long cE), .second, .val (.long qq), .second, .val (.ref b289), .val (.int (1 : Int32)), .val (.int (4 : Int32)), .val (.long (0 : Int64)), .second, .val (.long tE), .second, .unset] [(.long (((((((((((0 : Int64) + cA) + cB) + cC) - cA) + cD) + cE) - cB) - cC) - cD) - cE))]))
      refine own_st (fun zw zk => XS.lload X331.here hx rfl (hb hby at_463) rfl zk) ?_
      refine own_st (fun zw zk => XS.lcmp X331.here hx rfl (hb hby at_465) rfl zk) ?_
      have hc466 : (((((((((((0 : Int64) + cA) + cB) + cC) - cA) + cD) + cE) - cB) - cC) - cD) - cE) = (0 : Int64) := by first | (rw [own_adm1]; done) | (rw [own_adm1]; grind) | grind
      refine own_st (fun zw zk => XS.ifNo X331.here hx rfl (hb hby at_466) rfl ((if0 _ _).trans (teq (own_tle hc466)).2) zk) ?_
      refine own_st (fun zw zk => XS.aload X331.here hx rfl (hb hby at_469) rfl rfl zk) ?_
      obtain ⟨T332, X332, e332, st332⟩ := getF X331 hx hZ hown (host := "") (Or.inl (hw _ (List.mem_of_getElem? (i := 54) rfl))) Via.refl e331 O329_2 (g := (mkF m 471 #[.val (.long q0), .second, .val (.long q1), .second, .val (.long q2), .second, .val (.long q3), .second, .val (.int p4), .val (.long tA), .second, .val (.long g0), .second, .val (.long tB), .second, .val (.long tC), .second, .val (.long tD), .second, .val (.long tE), .second, .val (.long pp), .second, .val (.long cA), .second, .val (.long cB), .second, .val (.long cC), .second, .val (.long cD), .second, .val (.long cE), .second, .val (.long qq), .second, .val (.ref b289), .val (.int (1 : Int32)), .val (.int (4 : Int32)), .val (.long (0 : Int64)), .second, .val (.long tE), .second, .unset] [(.ref b289)])) rfl rfl (hb hby at_471)
      refine own_st (fun zw zk => st332 zw zk) ?_
      refine own_st (fun zw zk => XS.iconst X332.here hx rfl (hb hby at_474) zk) ?_
      refine own_st (fun zw zk => XS.iload X332.here hx rfl (hb hby at_475) rfl zk) ?_
      refine own_st (fun zw zk => XS.iadd X332.here hx rfl (hb hby at_477) rfl zk) ?_
      show own_Go p e below G (T332.setTop (mkF m 478 #[.val (.long q0), .second, .val (.long q1), .second, .val (.long q2), .second, .val (.long q3), .second, .val (.int p4), .val (.long tA), .second, .val (.long g0), .second, .val (.long tB), .second, .val (.long tC), .second, .val (.long tD), .second, .val (.long tE), .second, .val (.long pp), .second, .val (.long cA), .second, .val (.long cB), .second, .val (.long cC), .second, .val (.long cD), .second, .val (.long cE), .second, .val (.long qq), .second, .val (.ref b289), .val (.int (1 : Int32)), .val (.int (4 : Int32)), .val (.long (0 : Int64)), .second, .val (.long tE), .second, .unset] [(.int (5 : Int32)), (.int (1 : Int32))]))
      refine own_st (fun zw zk => XS.iconst X332.here hx rfl (hb hby at_478) zk) ?_
      refine own_st (fun zw zk => XS.iand X332.here hx rfl (hb hby at_479) rfl zk) ?_
      refine own_st (fun zw zk => XS.icmpNo X332.here hx rfl (hb hby at_480) rfl (teq (by decide : (1 : Int32) = (1 : Int32))).2 zk) ?_
      refine own_st (fun zw zk => XS.aload X332.here hx rfl (hb hby at_483) rfl rfl zk) ?_
      obtain ⟨T333, X333, e333, st333⟩ := getF X332 hx hZ hown (host := "") (Or.inl (hw _ (List.mem_of_getElem? (i := 55) rfl))) Via.refl e332 O329_1 (g := (mkF m 485 #[.val (.long q0), .second, .val (.long q1), .second, .val (.long q2), .second, .val (.long q3), .second, .val (.int p4), .val (.long tA), .second, .val (.long g0), .second, .val (.long tB), .second, .val (.long tC), .second, .val (.long tD), .second, .val (.long tE), .second, .val (.long pp), .second, .val (.long cA), .second, .val (.long cB), .second, .val (.long cC), .second, .val (.long cD), .second, .val (.long cE), .second, .val (.long qq), .second, .val (.ref b289), .val (.int (1 : Int32)), .val (.int (4 : Int32)), .val (.long (0 : Int64)), .second, .val (.long tE), .second, .unset] [(.ref b289)])) rfl rfl (hb hby at_485)
      refine own_st (fun zw zk => st333 zw zk) ?_
      refine own_st (fun zw zk => own_len X333 hx hZ e333 Ott293L_329 (z := (8 : Int32)) (rfl) (g := (mkF m 488 #[.val (.long q0), .second, .val (.long q1), .second, .val (.long q2), .second, .val (.long q3), .second, .val (.int p4), .val (.long tA), .second, .val (.long g0), .second, .val (.long tB), .second, .val (.long tC), .second, .val (.long tD), .second, .val (.long tE), .second, .val (.long pp), .second, .val (.long cA), .second, .val (.long cB), .second, .val (.long cC), .second, .val (.long cD), .second, .val (.long cE), .second, .val (.long qq), .second, .val (.ref b289), .val (.int (1 : Int32)), .val (.int (4 : Int32)), .val (.long (0 : Int64)), .second, .val (.long tE), .second, .unset] [(.ref tt293)])) rfl rfl (hb hby at_488) _ zk) ?_
      refine own_st (fun zw zk => XS.bipush X333.here hx rfl (hb hby at_489) zk) ?_
      refine own_st (fun zw zk => XS.icmpNo X333.here hx rfl (hb hby at_491) rfl (teq (by decide : (8 : Int32) = (8 : Int32))).2 zk) ?_
      show own_Go p e below G (T333.setTop (mkF m 494 #[.val (.long q0), .second, .val (.long q1), .second, .val (.long q2), .second, .val (.long q3), .second, .val (.int p4), .val (.long tA), .second, .val (.long g0), .second, .val (.long tB), .second, .val (.long tC), .second, .val (.long tD), .second, .val (.long tE), .second, .val (.long pp), .second, .val (.long cA), .second, .val (.long cB), .second, .val (.long cC), .second, .val (.long cD), .second, .val (.long cE), .second, .val (.long qq), .second, .val (.ref b289), .val (.int (1 : Int32)), .val (.int (4 : Int32)), .val (.long (0 : Int64)), .second, .val (.long tE), .second, .unset] []))
      refine own_st (fun zw zk => XS.iconst X333.here hx rfl (hb hby at_494) zk) ?_
      refine own_st (fun zw zk => XS.goto X333.here hx rfl (pc0 := 495) (pc' := 499) rfl (hb hby at_495) (by decide) (by decide) zk) ?_
      show own_Go p e below G (T333.setTop (mkF m 499 #[.val (.long q0), .second, .val (.long q1), .second, .val (.long q2), .second, .val (.long q3), .second, .val (.int p4), .val (.long tA), .second, .val (.long g0), .second, .val (.long tB), .second, .val (.long tC), .second, .val (.long tD), .second, .val (.long tE), .second, .val (.long pp), .second, .val (.long cA), .second, .val (.long cB), .second, .val (.long cC), .second, .val (.long cD), .second, .val (.long cE), .second, .val (.long qq), .second, .val (.ref b289), .val (.int (1 : Int32)), .val (.int (4 : Int32)), .val (.long (0 : Int64)), .second, .val (.long tE), .second, .unset] [(.int (1 : Int32))]))
      refine own_st (fun zw zk => XS.istore X333.here hx rfl (hb hby at_499) rfl rfl zk) ?_
      show own_Go p e below G (T333.setTop (mkF m 501 #[.val (.long q0), .second, .val (.long q1), .second, .val (.long q2), .second, .val (.long q3), .second, .val (.int p4), .val (.long tA), .second, .val (.long g0), .second, .val (.long tB), .second, .val (.long tC), .second, .val (.long tD), .second, .val (.long tE), .second, .val (.long pp), .second, .val (.long cA), .second, .val (.long cB), .second, .val (.long cC), .second, .val (.long cD), .second, .val (.long cE), .second, .val (.long qq), .second, .val (.ref b289), .val (.int (1 : Int32)), .val (.int (4 : Int32)), .val (.long (0 : Int64)), .second, .val (.long tE), .second, .val (.int (1 : Int32))] []))
      refine own_st (fun zw zk => XS.iload X333.here hx rfl (hb hby at_501) rfl zk) ?_
      refine own_st (fun zw zk => XS.ifNo X333.here hx rfl (hb hby at_503) rfl ((if0 _ _).trans (feq (by decide : ¬ ((1 : Int32) = (0 : Int32)))).1) zk) ?_
      refine own_st (fun zw zk => XS.iload X333.here hx rfl (hb hby at_506) rfl zk) ?_
      refine own_st (fun zw zk => XS.ifYes X333.here hx rfl (pc0 := 508) (pc' := 513) rfl (hb hby at_508) rfl ((if0 _ _).trans (feq (by decide : ¬ ((1 : Int32) = (0 : Int32)))).2) (by decide) (by decide) zk) ?_
      refine own_st (fun zw zk => XS.iconst X333.here hx rfl (hb hby at_513) zk) ?_
      refine own_st (fun zw zk => XS.iload X333.here hx rfl (hb hby at_514) rfl zk) ?_
      refine own_st (fun zw zk => XS.isub X333.here hx rfl (hb hby at_516) rfl zk) ?_
      refine own_st (fun zw zk => XS.ifYes X333.here hx rfl (pc0 := 517) (pc' := 549) rfl (hb hby at_517) rfl ((if0 _ _).trans (flt (by decide : ¬ ((0 : Int32) < (0 : Int32)))).2.2.2) (by decide) (by decide) zk) ?_
      show own_Go p e below G (T333.setTop (mkF m 549 #[.val (.long q0), .second, .val (.long q1), .second, .val (.long q2), .second, .val (.long q3), .second, .val (.int p4), .val (.long tA), .second, .val (.long g0), .second, .val (.long tB), .second, .val (.long tC), .second, .val (.long tD), .second, .val (.long tE), .second, .val (.long pp), .second, .val (.long cA), .second, .val (.long cB), .second, .val (.long cC), .second, .val (.long cD), .second, .val (.long cE), .second, .val (.long qq), .second, .val (.ref b289), .val (.int (1 : Int32)), .val (.int (4 : Int32)), .val (.long (0 : Int64)), .second, .val (.long tE), .second, .val (.int (1 : Int32))] []))
      refine own_st (fun zw zk => XS.iconst X333.here hx rfl (hb hby at_549) zk) ?_
      subst hG
      obtain ⟨fs, hr, hrun, hended, hW, hsame⟩ := X333.leave (v := some (.int (1 : Int32))) (hlocks := Bd.notSynchronized) (fun h => by rw [Bd.returns] at h; cases h)
      refine ⟨_, retN X333 hx (t := .boolean) Bd.returns (by simp) (hb hby at_550) hr, _, hrun, hended, _, _, rfl, ?_, ⟨_, rfl⟩, hW, hsame.mono (by decide) (by decide)⟩
      show Q0 Z q0 q1 q2 q3 p4 h0 n0 _ T333.heap _
      rw [e333]
      exact ⟨rfl, N329⟩
  refine own_st (fun zw zk => XS.iload X0.here hx rfl (hb hby at_145) rfl zk) ?_
  refine own_st (fun zw zk => XS.iconst X0.here hx rfl (hb hby at_147) zk) ?_
  refine own_st (fun zw zk => XS.iand X0.here hx rfl (hb hby at_148) rfl zk) ?_
  by_cases hc149 : (p4 &&& (1 : Int32)) = (0 : Int32)
  · refine own_st (fun zw zk => XS.ifYes X0.here hx rfl (pc0 := 149) (pc' := 157) rfl (hb hby at_149) rfl ((if0 _ _).trans (teq hc149).1) (by decide) (by decide) zk) ?_
    refine own_st (fun zw zk => XS.lload X0.here hx rfl (hb hby at_157) rfl zk) ?_
    refine own_st (fun zw zk => XS.lload X0.here hx rfl (hb hby at_159) rfl zk) ?_
    refine own_st (fun zw zk => XS.bipush X0.here hx rfl (hb hby at_161) zk) ?_
    refine own_st (fun zw zk => XS.lshr X0.here hx rfl (hb hby at_163) rfl zk) ?_
    show own_Go p e below G (s₁.setTop (mkF m 164 #[.val (.long q0), .second, .val (.long q1), .second, .val (.long q2), .second, .val (.long q3), .second, .val (.int p4), .val (.long tA), .second, .val (.long g0), .second, .val (.long tB), .second, .val (.long tC), .second, .val (.long tD), .second, .val (.long tE), .second, .val (.long pp), .second, .val (.long cA), .second, .val (.long cB), .second, .val (.long cC), .second, .val (.long cD), .second, .val (.long cE), .second, .unset, .unset, .unset, .unset, .unset, .unset, .unset, .unset, .unset, .unset] [(.long (q3 >>> ((54 : Int32) &&& 0x3f).toInt64)), (.long tB)]))
    refine own_st (fun zw zk => XS.ladd X0.here hx rfl (hb hby at_164) rfl zk) ?_
    refine own_st (fun zw zk => XS.lstore X0.here hx rfl (hb hby at_165) rfl rfl zk) ?_
    show own_Go p e below G (s₁.setTop (mkF m 167 #[.val (.long q0), .second, .val (.long q1), .second, .val (.long q2), .second, .val (.long q3), .second, .val (.int p4), .val (.long tA), .second, .val (.long g0), .second, .val (.long tB), .second, .val (.long tC), .second, .val (.long tD), .second, .val (.long tE), .second, .val (.long pp), .second, .val (.long cA), .second, .val (.long cB), .second, .val (.long cC), .second, .val (.long cD), .second, .val (.long cE), .second, .val (.long (tB + (q3 >>> ((54 : Int32) &&& 0x3f).toInt64))), .second, .unset, .unset, .unset, .unset, .unset, .unset, .unset, .unset] []))
    exact J167_288 (tB + (q3 >>> ((54 : Int32) &&& 0x3f).toInt64))
  · refine own_st (fun zw zk => XS.ifNo X0.here hx rfl (hb hby at_149) rfl ((if0 _ _).trans (feq hc149).1) zk) ?_
    refine own_st (fun zw zk => XS.lload X0.here hx rfl (hb hby at_152) rfl zk) ?_
    refine own_st (fun zw zk => XS.goto X0.here hx rfl (pc0 := 154) (pc' := 165) rfl (hb hby at_154) (by decide) (by decide) zk) ?_
    show own_Go p e below G (s₁.setTop (mkF m 165 #[.val (.long q0), .second, .val (.long q1), .second, .val (.long q2), .second, .val (.long q3), .second, .val (.int p4), .val (.long tA), .second, .val (.long g0), .second, .val (.long tB), .second, .val (.long tC), .second, .val (.long tD), .second, .val (.long tE), .second, .val (.long pp), .second, .val (.long cA), .second, .val (.long cB), .second, .val (.long cC), .second, .val (.long cD), .second, .val (.long cE), .second, .unset, .unset, .unset, .unset, .unset, .unset, .unset, .unset, .unset, .unset] [(.long q3)]))
    refine own_st (fun zw zk => XS.lstore X0.here hx rfl (hb hby at_165) rfl rfl zk) ?_
    show own_Go p e below G (s₁.setTop (mkF m 167 #[.val (.long q0), .second, .val (.long q1), .second, .val (.long q2), .second, .val (.long q3), .second, .val (.int p4), .val (.long tA), .second, .val (.long g0), .second, .val (.long tB), .second, .val (.long tC), .second, .val (.long tD), .second, .val (.long tE), .second, .val (.long pp), .second, .val (.long cA), .second, .val (.long cB), .second, .val (.long cC), .second, .val (.long cD), .second, .val (.long cE), .second, .val (.long q3), .second, .unset, .unset, .unset, .unset, .unset, .unset, .unset, .unset] []))
    exact J167_288 q3
set_option maxRecDepth 65536 in
set_option maxHeartbeats 40000000 in
theorem comes_1 {Post : Tables → Env → Array Value → State → Outcome → State → Prop} (hpost : ∀ tb e args s v u, (limb_1_1.after args s (.returned v) u = true ∧ limb_1_2.after args s (.returned v) u = true ∧ True) → FrameEnd s (.returned v) u (Jvm.fieldLocs frame_1_writes args s ++ Jvm.arrayLocs frame_1_arrays args s ++ Jvm.staticLocs frame_1_statics s) 16 128 → Post tb e args s (.returned v) u) :
    ArmFor flags0 classFile x code maxLocals ret World_1 tables_1 room_1 Calls_1 rest_1 Pre_1 Post := by
  intro l hfl _ _ p e ha hc hk s m args below hf hA hF happ hP
  obtain ⟨hcalls, hrest, hpre⟩ := hP
  obtain ⟨-, -, -, hnamed, -, -, -, hat⟩ := (Spec.applies_iff hf).mp happ
  obtain ⟨hg, hn⟩ := and_e (Cond.before_iff.mp (show (Jvm.Cond.and given_1 narrow_1).before args s = true from hpre))
  obtain ⟨g1, g2⟩ := and_e hg
  obtain ⟨g3, g4⟩ := and_e g2
  obtain ⟨g5, g6⟩ := and_e g4
  obtain ⟨g7, g8⟩ := and_e g6
  obtain ⟨g9, g10⟩ := and_e g8
  obtain ⟨w0, w1, w2, w3, w4, rfl⟩ : ∃ w0 w1 w2 w3 w4 : Value, args = #[w0, w1, w2, w3, w4] := by
    have hs : args.size = 5 := by simpa [Cond.value, given_1] using g1
    obtain ⟨L⟩ := args
    match L, hs with
    | [w0, w1, w2, w3, w4], _ => exact ⟨w0, w1, w2, w3, w4, rfl⟩
  have hw := fun d (hd : d ∈ tables_1) => atoms_spec (ws := Jvm.Cond.code x code maxLocals ret :: tables_1) hat d (List.mem_cons_of_mem _ hd)
  obtain ⟨i0, ei0⟩ := isL_v g3
  obtain rfl : w0 = (.long i0) := Option.some.inj ei0
  obtain ⟨i1, ei1⟩ := isL_v g5
  obtain rfl : w1 = (.long i1) := Option.some.inj ei1
  obtain ⟨i2, ei2⟩ := isL_v g7
  obtain rfl : w2 = (.long i2) := Option.some.inj ei2
  obtain ⟨i3, ei3⟩ := isL_v g9
  obtain rfl : w3 = (.long i3) := Option.some.inj ei3
  obtain ⟨i4, ei4⟩ := is_v g10
  obtain rfl : w4 = (.int i4) := Option.some.inj ei4
  obtain ⟨n, o, h1, h2, h3, _, L, rfl, ⟨rfl, N⟩, hq⟩ := rm0 l s _ hw tables_1 i0 i1 i2 i3 i4 s.heap s.heap.size (Nat.le_refl _) p e ha hc hk s m _ below hf ((Spec.applies_iff_loose hf).mp happ).1 ⟨rfl, State.Warmed39.refl s, rfl⟩ trivial
  refine ⟨n, _, h1, h2, h3, hpost _ _ _ _ _ _ ⟨Cond.after_iff.mpr rfl, Cond.after_iff.mpr (eq_i res_at (Term.int_eval (1)) rfl), trivial⟩ ⟨hq.1, hq.2.1, (hq.2.2.sift fun y hy => Or.inr (N y hy)).mono (by decide) (by decide)⟩⟩
theorem main_1_1 : Claimed_1_1 := comes_1 fun _ _ _ _ _ _ h hF => ⟨h.1, hF⟩
theorem main_1_2 : Claimed_1_2 := comes_1 fun _ _ _ _ _ _ h hF => ⟨h.2.1, hF⟩
end Jvm.Pilot.@@N@@
namespace Jvm.Pilot.@@N@@
open Jvm Jvm.ClassFile Sem Op Lib Jvm.Free Jvm.Stand Jvm.Pilot.@@N@@.Jvm.D
/-! MADE BY PROGRAM (witnessworld.py) out of the Statement's table words and the real class files: 13 classes; the members and pool entries that the words name. The judged class is class 1, her method 1. -/
namespace start1
open Jvm.ClassFile
def u (s : String) : CpInfo := .utf8 (stringToUtf16 s)
/-- a pool by its gaps: so many unusable entries, then the entry; so many at the end -/
def gap : Nat → List CpInfo → List CpInfo
  | 0, r => r
  | n + 1, r => .unusable :: gap n r
def poolList (es : List (Nat × CpInfo)) (last : Nat) : List CpInfo := es.foldr (fun e r => gap e.1 (e.2 :: r)) (gap last [])
def pool (es : List (Nat × CpInfo)) (last : Nat) : Array CpInfo := ⟨poolList es last⟩
def fileOf (pool : Array CpInfo) (this : Nat) (attrs : Array Attribute := #[]) (ms : Array MethodInfo := #[]) (fl : Nat := 33) (sup : Nat := 0) (ifs : Array Nat := #[]) (fds : Array FieldInfo := #[]) : ClassFile where
  minorVersion := 0
  majorVersion := 65
  constantPool := pool
  accessFlags := fl
  thisClass := this
  superClass := sup
  interfaces := ifs
  fields := fds
  methods := ms
  attributes := attrs
def plain (name : String) (sup : Option ClassId) : Class where
  name := name
  kind := .ordinary
  loader := none
  accessFlags := 33
  super := sup
  interfaces := #[]
  cf := none
  fields := #[]
  methods := #[]
  instanceTypes := #[]
  staticTypes := #[]
  resolved := #[]
  callSites := []
  init := .initialized
  statics := none
  mirror := none

def pool0 : Array CpInfo := pool [(5, u "<init>"), (0, u "()V"), (1, .class_ 10), (1, u "java/lang/Object")] 113

def k0c0 : Code := { maxStack := 0, maxLocals := 1, code := object_method_1_code, exceptionTable := #[], attributes := #[] }
def k0m0 : Method := { name := "<init>", desc := "()V", sig := { parameters := [], returnType := none }, accessFlags := 1, code := some k0c0 }
/-- java/lang/Object -/
def k0 : Class := { plain "java/lang/Object" none with
  accessFlags := 33
  interfaces := #[]
  cf := some (fileOf pool0 8 #[] #[{ accessFlags := 1, nameIndex := 5, descriptorIndex := 6, attributes := #[] }] 33 0 #[] #[])
  fields := #[]
  methods := #[k0m0]
  instanceTypes := #[]
  staticTypes := #[]
  resolved := Array.replicate 124 none
  statics := none }

def pool1 : Array CpInfo := pool [(2, .class_ 4), (0, .nameAndType 5 6), (0, u "java/lang/Object"), (0, u "<init>"), (0, u "()V"), (0, .long 127), (1, .long 65535), (1, .class_ 12), (0, u "com/example/headroom/headroom/SlidingLog$Log"), (0, .methodref 11 3), (0, .methodref 11 15), (0, .nameAndType 16 17), (0, u "add"), (0, u "(JJ)V"), (0, .methodref 11 19), (0, .nameAndType 20 21), (0, u "forgetUpTo"), (0, u "(J)V"), (0, .fieldref 11 23), (0, .nameAndType 24 25), (0, u "size"), (0, u "I"), (0, .fieldref 11 27), (0, .nameAndType 28 29), (0, u "admitted"), (0, u "J"), (0, .fieldref 11 31), (0, .nameAndType 32 25), (0, u "first"), (0, .fieldref 11 34), (0, .nameAndType 35 36), (0, u "entries"), (0, u "[J"), (0, .methodref 11 38), (0, .nameAndType 39 40), (0, u "timeReaching"), (0, u "(J)J"), (0, .methodref 11 42), (0, .nameAndType 43 44), (0, u "latest"), (0, u "()J"), (0, .class_ 46), (0, u "com/example/headroom/headroom/LogForgetUpToPinLaw"), (2, u "law"), (0, u "(JJJJI)Z")] 7

def k1m0 : Method := { name := "<init>", desc := "()V", sig := { parameters := [], returnType := none }, accessFlags := 1, code := none }
def k1c1 : Code := { maxStack := 6, maxLocals := 43, code := code, exceptionTable := #[], attributes := #[] }
def k1m1 : Method := { name := "law", desc := "(JJJJI)Z", sig := { parameters := [.long, .long, .long, .long, .int], returnType := some .boolean }, accessFlags := 9, code := some k1c1 }
/-- com/example/headroom/headroom/LogForgetUpToPinLaw -/
def k1 : Class := { plain "com/example/headroom/headroom/LogForgetUpToPinLaw" (some 0) with
  accessFlags := 49
  interfaces := #[]
  cf := some (fileOf pool1 45 #[] #[{ accessFlags := 1, nameIndex := 5, descriptorIndex := 6, attributes := #[] }, { accessFlags := 9, nameIndex := 49, descriptorIndex := 50, attributes := #[] }] 49 2 #[] #[])
  fields := #[]
  methods := #[k1m0, k1m1]
  instanceTypes := #[]
  staticTypes := #[]
  resolved := Array.replicate 58 none
  statics := none }

def pool2 : Array CpInfo := pool [(1, .methodref 2 3), (0, .class_ 4), (0, .nameAndType 5 6), (0, u "java/lang/Object"), (0, u "<init>"), (0, u "()V"), (1, .class_ 10), (1, u "com/example/headroom/headroom/KeyState"), (0, u "LOCK"), (0, u "Ljava/lang/invoke/VarHandle;"), (27, u "lock"), (19, u "FREE"), (0, u "I"), (2, u "HELD"), (1, u "FORGOTTEN")] 13

def k2c0 : Code := { maxStack := 1, maxLocals := 1, code := prog_17_method_1_code, exceptionTable := #[], attributes := #[] }
def k2m0 : Method := { name := "<init>", desc := "()V", sig := { parameters := [], returnType := none }, accessFlags := 0, code := some k2c0 }
/-- com/example/headroom/headroom/KeyState -/
def k2 : Class := { plain "com/example/headroom/headroom/KeyState" (some 0) with
  accessFlags := 1056
  interfaces := #[]
  cf := some (fileOf pool2 8 #[] #[{ accessFlags := 0, nameIndex := 5, descriptorIndex := 6, attributes := #[] }] 1056 2 #[] #[{ accessFlags := 26, nameIndex := 60, descriptorIndex := 61, attributes := #[] }, { accessFlags := 26, nameIndex := 64, descriptorIndex := 61, attributes := #[] }, { accessFlags := 26, nameIndex := 66, descriptorIndex := 61, attributes := #[] }, { accessFlags := 26, nameIndex := 11, descriptorIndex := 12, attributes := #[] }, { accessFlags := 2, nameIndex := 40, descriptorIndex := 61, attributes := #[] }])
  fields := #[{ name := "FREE", type := .int, accessFlags := 26, slot := 0, constantValue := 0 }, { name := "HELD", type := .int, accessFlags := 26, slot := 1, constantValue := 0 }, { name := "FORGOTTEN", type := .int, accessFlags := 26, slot := 2, constantValue := 0 }, { name := "LOCK", type := (.object "java/lang/invoke/VarHandle"), accessFlags := 26, slot := 3, constantValue := 0 }, { name := "lock", type := .int, accessFlags := 2, slot := 0, constantValue := 0 }]
  methods := #[k2m0]
  instanceTypes := #[.int]
  staticTypes := #[.int, .int, .int, (.object "java/lang/invoke/VarHandle")]
  resolved := Array.replicate 80 none
  statics := none }

def pool3 : Array CpInfo := pool [(1, .methodref 2 3), (0, .class_ 4), (0, .nameAndType 5 6), (0, u "com/example/headroom/headroom/KeyState"), (0, u "<init>"), (0, u "()V"), (0, .fieldref 8 9), (0, .class_ 10), (0, .nameAndType 11 12), (0, u "com/example/headroom/headroom/SlidingLog$Log"), (0, u "entries"), (0, u "[J"), (0, .fieldref 8 14), (0, .nameAndType 15 16), (0, u "first"), (0, u "I"), (0, .fieldref 8 18), (0, .nameAndType 19 16), (0, u "size"), (0, .methodref 8 21), (0, .nameAndType 22 23), (0, u "slot"), (0, u "(I)I"), (0, .fieldref 8 25), (0, .nameAndType 26 27), (0, u "admitted"), (0, u "J"), (0, .methodref 8 29), (0, .nameAndType 30 31), (0, u "latest"), (0, u "()J"), (0, .methodref 8 33), (0, .nameAndType 34 6), (0, u "grow"), (0, .methodref 36 37), (0, .class_ 38), (0, .nameAndType 39 40), (0, u "java/lang/System"), (0, u "arraycopy"), (0, u "(Ljava/lang/Object;ILjava/lang/Object;II)V"), (2, u "forgetUpTo"), (0, u "(J)V"), (1, u "timeReaching"), (0, u "(J)J"), (0, u "add"), (0, u "(JJ)V"), (4, .class_ 55), (0, u "com/example/headroom/headroom/SlidingLog")] 2

def k3c0 : Code := { maxStack := 2, maxLocals := 1, code := prog_48_method_1_code, exceptionTable := #[], attributes := #[] }
def k3m0 : Method := { name := "<init>", desc := "()V", sig := { parameters := [], returnType := none }, accessFlags := 0, code := some k3c0 }
def k3c1 : Code := { maxStack := 4, maxLocals := 2, code := prog_48_method_2_code, exceptionTable := #[], attributes := #[] }
def k3m1 : Method := { name := "slot", desc := "(I)I", sig := { parameters := [.int], returnType := some .int }, accessFlags := 2, code := some k3c1 }
def k3c2 : Code := { maxStack := 4, maxLocals := 1, code := prog_48_method_3_code, exceptionTable := #[], attributes := #[] }
def k3m2 : Method := { name := "latest", desc := "()J", sig := { parameters := [], returnType := some .long }, accessFlags := 0, code := some k3c2 }
def k3c3 : Code := { maxStack := 6, maxLocals := 3, code := prog_48_method_4_code, exceptionTable := #[], attributes := #[] }
def k3m3 : Method := { name := "forgetUpTo", desc := "(J)V", sig := { parameters := [.long], returnType := none }, accessFlags := 0, code := some k3c3 }
def k3c4 : Code := { maxStack := 5, maxLocals := 6, code := prog_48_method_5_code, exceptionTable := #[], attributes := #[] }
def k3m4 : Method := { name := "timeReaching", desc := "(J)J", sig := { parameters := [.long], returnType := some .long }, accessFlags := 0, code := some k3c4 }
def k3c5 : Code := { maxStack := 6, maxLocals := 6, code := prog_48_method_6_code, exceptionTable := #[], attributes := #[] }
def k3m5 : Method := { name := "add", desc := "(JJ)V", sig := { parameters := [.long, .long], returnType := none }, accessFlags := 0, code := some k3c5 }
def k3c6 : Code := { maxStack := 5, maxLocals := 3, code := prog_48_method_7_code, exceptionTable := #[], attributes := #[] }
def k3m6 : Method := { name := "grow", desc := "()V", sig := { parameters := [], returnType := none }, accessFlags := 2, code := some k3c6 }
/-- com/example/headroom/headroom/SlidingLog$Log -/
def k3 : Class := { plain "com/example/headroom/headroom/SlidingLog$Log" (some 2) with
  accessFlags := 48
  interfaces := #[]
  cf := some (fileOf pool3 8 #[.nestHost 54] #[{ accessFlags := 0, nameIndex := 5, descriptorIndex := 6, attributes := #[] }, { accessFlags := 2, nameIndex := 22, descriptorIndex := 23, attributes := #[] }, { accessFlags := 0, nameIndex := 30, descriptorIndex := 31, attributes := #[] }, { accessFlags := 0, nameIndex := 43, descriptorIndex := 44, attributes := #[] }, { accessFlags := 0, nameIndex := 46, descriptorIndex := 47, attributes := #[] }, { accessFlags := 0, nameIndex := 48, descriptorIndex := 49, attributes := #[] }, { accessFlags := 2, nameIndex := 34, descriptorIndex := 6, attributes := #[] }] 48 2 #[] #[{ accessFlags := 0, nameIndex := 11, descriptorIndex := 12, attributes := #[] }, { accessFlags := 0, nameIndex := 15, descriptorIndex := 16, attributes := #[] }, { accessFlags := 0, nameIndex := 19, descriptorIndex := 16, attributes := #[] }, { accessFlags := 0, nameIndex := 26, descriptorIndex := 27, attributes := #[] }])
  fields := #[{ name := "entries", type := (.array .long), accessFlags := 0, slot := 1, constantValue := 0 }, { name := "first", type := .int, accessFlags := 0, slot := 2, constantValue := 0 }, { name := "size", type := .int, accessFlags := 0, slot := 3, constantValue := 0 }, { name := "admitted", type := .long, accessFlags := 0, slot := 4, constantValue := 0 }]
  methods := #[k3m0, k3m1, k3m2, k3m3, k3m4, k3m5, k3m6]
  instanceTypes := #[.int, (.array .long), .int, .int, .long]
  staticTypes := #[]
  resolved := Array.replicate 58 none
  statics := none }

def pool4 : Array CpInfo := pool [(2, .class_ 4), (1, u "java/lang/Object"), (0, u "<init>"), (0, u "()V"), (1, .class_ 10), (1, u "java/lang/System"), (0, u "allowSecurityManager"), (0, u "I"), (16, u "cons"), (0, u "Ljava/io/Console;"), (77, .class_ 110), (1, u "java/lang/System$CallersHolder"), (43, u "initialErrStream"), (0, u "Ljava/io/PrintStream;"), (19, u "security"), (0, u "Ljava/lang/SecurityManager;"), (31, .class_ 209), (0, u "java/lang/System$1"), (7, u "props"), (0, u "Ljava/util/Properties;"), (2, u "lineSeparator"), (0, u "Ljava/lang/String;"), (96, .class_ 321), (1, u "java/lang/System$LoggerFinder"), (5, .class_ 328), (0, u "java/lang/System$Logger"), (67, u "err"), (2, u "out"), (91, u "notSupportedJnuEncoding"), (15, u "in"), (17, u "initialIn"), (0, u "Ljava/io/InputStream;"), (35, u "bootLayer"), (0, u "Ljava/lang/ModuleLayer;"), (99, .class_ 664), (0, u "java/lang/System$2"), (9, u "NEVER"), (2, u "MAYBE"), (49, u "arraycopy"), (0, u "(Ljava/lang/Object;ILjava/lang/Object;II)V"), (72, .class_ 802), (0, u "java/lang/System$Logger$Level")] 31

def k4m0 : Method := { name := "<init>", desc := "()V", sig := { parameters := [], returnType := none }, accessFlags := 2, code := none }
def k4m1 : Method := { name := "arraycopy", desc := "(Ljava/lang/Object;ILjava/lang/Object;II)V", sig := { parameters := [(.object "java/lang/Object"), .int, (.object "java/lang/Object"), .int, .int], returnType := none }, accessFlags := 265, code := none }
/-- java/lang/System -/
def k4 : Class := { plain "java/lang/System" (some 0) with
  accessFlags := 49
  interfaces := #[]
  cf := some (fileOf pool4 8 #[.nestMembers #[319, 327, 801, 108, 663, 208]] #[{ accessFlags := 2, nameIndex := 5, descriptorIndex := 6, attributes := #[] }, { accessFlags := 265, nameIndex := 727, descriptorIndex := 728, attributes := #[] }] 49 2 #[] #[{ accessFlags := 25, nameIndex := 507, descriptorIndex := 526, attributes := #[] }, { accessFlags := 25, nameIndex := 399, descriptorIndex := 155, attributes := #[] }, { accessFlags := 25, nameIndex := 396, descriptorIndex := 155, attributes := #[] }, { accessFlags := 10, nameIndex := 525, descriptorIndex := 526, attributes := #[] }, { accessFlags := 26, nameIndex := 674, descriptorIndex := 12, attributes := #[] }, { accessFlags := 26, nameIndex := 677, descriptorIndex := 12, attributes := #[] }, { accessFlags := 10, nameIndex := 11, descriptorIndex := 12, attributes := #[] }, { accessFlags := 74, nameIndex := 175, descriptorIndex := 176, attributes := #[] }, { accessFlags := 10, nameIndex := 491, descriptorIndex := 222, attributes := #[] }, { accessFlags := 74, nameIndex := 29, descriptorIndex := 30, attributes := #[] }, { accessFlags := 74, nameIndex := 154, descriptorIndex := 155, attributes := #[] }, { accessFlags := 10, nameIndex := 217, descriptorIndex := 218, attributes := #[] }, { accessFlags := 10, nameIndex := 221, descriptorIndex := 222, attributes := #[] }, { accessFlags := 8, nameIndex := 562, descriptorIndex := 563, attributes := #[] }])
  fields := #[{ name := "in", type := (.object "java/io/InputStream"), accessFlags := 25, slot := 0, constantValue := 0 }, { name := "out", type := (.object "java/io/PrintStream"), accessFlags := 25, slot := 1, constantValue := 0 }, { name := "err", type := (.object "java/io/PrintStream"), accessFlags := 25, slot := 2, constantValue := 0 }, { name := "initialIn", type := (.object "java/io/InputStream"), accessFlags := 10, slot := 3, constantValue := 0 }, { name := "NEVER", type := .int, accessFlags := 26, slot := 4, constantValue := 0 }, { name := "MAYBE", type := .int, accessFlags := 26, slot := 5, constantValue := 0 }, { name := "allowSecurityManager", type := .int, accessFlags := 10, slot := 6, constantValue := 0 }, { name := "security", type := (.object "java/lang/SecurityManager"), accessFlags := 74, slot := 7, constantValue := 0 }, { name := "notSupportedJnuEncoding", type := (.object "java/lang/String"), accessFlags := 10, slot := 8, constantValue := 0 }, { name := "cons", type := (.object "java/io/Console"), accessFlags := 74, slot := 9, constantValue := 0 }, { name := "initialErrStream", type := (.object "java/io/PrintStream"), accessFlags := 74, slot := 10, constantValue := 0 }, { name := "props", type := (.object "java/util/Properties"), accessFlags := 10, slot := 11, constantValue := 0 }, { name := "lineSeparator", type := (.object "java/lang/String"), accessFlags := 10, slot := 12, constantValue := 0 }, { name := "bootLayer", type := (.object "java/lang/ModuleLayer"), accessFlags := 8, slot := 13, constantValue := 0 }]
  methods := #[k4m0, k4m1]
  instanceTypes := #[]
  staticTypes := #[(.object "java/io/InputStream"), (.object "java/io/PrintStream"), (.object "java/io/PrintStream"), (.object "java/io/InputStream"), .int, .int, .int, (.object "java/lang/SecurityManager"), (.object "java/lang/String"), (.object "java/io/Console"), (.object "java/io/PrintStream"), (.object "java/util/Properties"), (.object "java/lang/String"), (.object "java/lang/ModuleLayer")]
  resolved := Array.replicate 834 none
  statics := none }

def pool5 : Array CpInfo := pool [(1, u "java/lang/Cloneable"), (0, .class_ 1), (0, u "java/lang/Object"), (0, .class_ 3)] 3

/-- java/lang/Cloneable -/
def k5 : Class := { plain "java/lang/Cloneable" (some 0) with
  accessFlags := 1537
  interfaces := #[]
  cf := some (fileOf pool5 2 #[] #[] 1537 4 #[] #[])
  fields := #[]
  methods := #[]
  instanceTypes := #[]
  staticTypes := #[]
  resolved := Array.replicate 8 none
  statics := none }

def pool6 : Array CpInfo := pool [(1, u "java/io/Serializable"), (0, .class_ 1), (0, u "java/lang/Object"), (0, .class_ 3)] 3

/-- java/io/Serializable -/
def k6 : Class := { plain "java/io/Serializable" (some 0) with
  accessFlags := 1537
  interfaces := #[]
  cf := some (fileOf pool6 2 #[] #[] 1537 4 #[] #[])
  fields := #[]
  methods := #[]
  instanceTypes := #[]
  staticTypes := #[]
  resolved := Array.replicate 8 none
  statics := none }

/-- the primitive byte -/
def k7 : Class := { plain "byte" none with kind := .primitive 'B', accessFlags := 0x411 }
/-- [B -/
def k8 : Class := { plain "[B" (some 0) with kind := .array 7 .byte, interfaces := #[5, 6], accessFlags := 1041 }

/-- the primitive int -/
def k9 : Class := { plain "int" none with kind := .primitive 'I', accessFlags := 0x411 }
/-- [I -/
def k10 : Class := { plain "[I" (some 0) with kind := .array 9 .int, interfaces := #[5, 6], accessFlags := 1041 }

/-- the primitive long -/
def k11 : Class := { plain "long" none with kind := .primitive 'J', accessFlags := 0x411 }
/-- [J -/
def k12 : Class := { plain "[J" (some 0) with kind := .array 11 .long, interfaces := #[5, 6], accessFlags := 1041 }

def heap : Heap := #[]
def classes : Array Class := #[k0, k1, k2, k3, k4, k5, k6, k7, k8, k9, k10, k11, k12]
def interned : List (Array UInt16 × Addr) := []
def slotsUsed : Nat := 0
def theMethod : MethodId := ⟨1, 1⟩
def args0 : Array Value := #[.long 5, .long 6, .long 7, .long 8, .int 9]
def aboutOver (below : List Frame) : State where
  vm := { classes := classes, interned := interned.toArray }
  heap := heap
  slotsUsed := slotsUsed
  threads := #[{ frames := .invoking theMethod args0 :: below }]
def below0 : List Frame := [.native { method := ⟨0, 0⟩, args := #[] }]
def about1 : State := aboutOver below0
def p0 : Program := .bare "" "" ""
def e0 : Env := launch0.env 0 0 0
theorem w_frames : about1.frames = Frame.invoking theMethod args0 :: below0 := rfl
set_option maxRecDepth 65536 in
theorem w_args : argsFit about1.vm theMethod args0 = true := by decide +kernel
set_option maxRecDepth 65536 in
theorem w_heap : heapFits about1 = true := by decide +kernel
set_option maxRecDepth 65536 in
theorem w_runnable : about1.curStatus? = some .runnable := by decide +kernel
set_option maxRecDepth 65536 in
theorem w_alone : about1.alone = true := by decide +kernel
set_option maxRecDepth 65536 in
theorem w_named : about1.methodNamed? x = some theMethod := by decide +kernel
set_option maxRecDepth 65536 in
theorem w_hears : about1.hears theMethod below0 = true := by decide +kernel
set_option maxRecDepth 65536 in
theorem w_ripe : about1.ripe theMethod args0 below0 = true := by decide +kernel
theorem w_running : about1.status = .running := rfl
set_option maxRecDepth 65536 in
theorem w_room : about1.hasRoom e0.platform room_1 = true :=
  launch0.hasRoom_least _ room_1 (by decide +kernel) (by decide +kernel) (by decide +kernel) (by decide +kernel) (by decide +kernel) (by decide +kernel)
theorem allAtoms_all (ts : List Jvm.Cond) (a : Array Jvm.Value) (st : Jvm.State) : (allAtoms ts).before a st = ts.all (fun c => c.before a st) := by
  induction ts with
  | nil => rfl
  | cons c t ih =>
    show (Jvm.Cond.and c (allAtoms t)).before a st = _
    rw [Jvm.Cond.before_and, ih, List.all_cons]
def words1 : List Jvm.Cond := Jvm.Cond.code x code maxLocals ret :: tables_1
/-- a 'code' word, met by the world's own term for the bytes: nothing is compared byte by byte -/
theorem code_word {y : MethodName} {bytes : ByteArray} {mx : Nat} {rt : Option FieldType} {a : Array Value} {s : State} {m : MethodId} {meth : Method} {c : Code} (h1 : s.methodNamed? y = some m) (h2 : s.vm.method? m = some meth) (h3 : meth.code = some c) (h4 : c.code = bytes)
    (h5 : (c.maxLocals == mx && c.exceptionTable.isEmpty && decide (c.maxStack ≤ mostOperands) && decide (meth.sig.returnType = rt) && !meth.locks && decide (parseMethodDescriptor y.desc = some meth.sig)) = true) : (Jvm.Cond.code y bytes mx rt).before a s = true := by
  simp only [Bool.and_eq_true, beq_iff_eq, Bool.not_eq_true', decide_eq_true_eq] at h5
  obtain ⟨⟨⟨⟨⟨g1, g2⟩, g3⟩, g4⟩, g5⟩, g6⟩ := h5
  simp [Cond.before, Cond.holds, Cond.value, h1, h2, h3, h4, g1, g2, g3, g4, g5, g6]
def isCode : Jvm.Cond → Bool
  | .code _ _ _ _ => true
  | _ => false
theorem all_split {L : List Jvm.Cond} {P : Jvm.Cond → Bool} (h1 : L.all (fun c => isCode c || P c) = true) (h2 : ∀ c ∈ L.filter isCode, P c = true) : L.all P = true := by
  refine List.all_eq_true.mpr fun c hc => ?_
  have h := List.all_eq_true.mp h1 c hc
  rcases Bool.eq_false_or_eq_true (isCode c) with hi | hi
  · exact h2 c (List.mem_filter.mpr ⟨hc, hi⟩)
  · simpa [hi] using h
set_option maxRecDepth 65536 in
theorem w_c0 : (Jvm.Cond.code x code maxLocals ret).before args0 about1 = true := code_word (m := ⟨1, 1⟩) (meth := k1m1) (c := k1c1) (by decide +kernel) rfl rfl rfl (by decide +kernel)
set_option maxRecDepth 65536 in
theorem w_c1 : (Jvm.Cond.code ({ cls := "com/example/headroom/headroom/SlidingLog$Log", name := "<init>", desc := "()V" } : Jvm.MethodName) prog_48_method_1_code (1 : Nat) (Option.none : Option Jvm.ClassFile.FieldType)).before args0 about1 = true := code_word (m := ⟨3, 0⟩) (meth := k3m0) (c := k3c0) (by decide +kernel) rfl rfl rfl (by decide +kernel)
set_option maxRecDepth 65536 in
theorem w_c2 : (Jvm.Cond.code ({ cls := "com/example/headroom/headroom/KeyState", name := "<init>", desc := "()V" } : Jvm.MethodName) prog_17_method_1_code (1 : Nat) (Option.none : Option Jvm.ClassFile.FieldType)).before args0 about1 = true := code_word (m := ⟨2, 0⟩) (meth := k2m0) (c := k2c0) (by decide +kernel) rfl rfl rfl (by decide +kernel)
set_option maxRecDepth 65536 in
theorem w_c3 : (Jvm.Cond.code ({ cls := "java/lang/Object", name := "<init>", desc := "()V" } : Jvm.MethodName) object_method_1_code (1 : Nat) (Option.none : Option Jvm.ClassFile.FieldType)).before args0 about1 = true := code_word (m := ⟨0, 0⟩) (meth := k0m0) (c := k0c0) (by decide +kernel) rfl rfl rfl (by decide +kernel)
set_option maxRecDepth 65536 in
theorem w_c4 : (Jvm.Cond.code ({ cls := "com/example/headroom/headroom/SlidingLog$Log", name := "add", desc := "(JJ)V" } : Jvm.MethodName) prog_48_method_6_code (6 : Nat) (Option.none : Option Jvm.ClassFile.FieldType)).before args0 about1 = true := code_word (m := ⟨3, 5⟩) (meth := k3m5) (c := k3c5) (by decide +kernel) rfl rfl rfl (by decide +kernel)
set_option maxRecDepth 65536 in
theorem w_c5 : (Jvm.Cond.code ({ cls := "com/example/headroom/headroom/SlidingLog$Log", name := "slot", desc := "(I)I" } : Jvm.MethodName) prog_48_method_2_code (2 : Nat) (Option.some Jvm.ClassFile.FieldType.int)).before args0 about1 = true := code_word (m := ⟨3, 1⟩) (meth := k3m1) (c := k3c1) (by decide +kernel) rfl rfl rfl (by decide +kernel)
set_option maxRecDepth 65536 in
theorem w_c6 : (Jvm.Cond.code ({ cls := "com/example/headroom/headroom/SlidingLog$Log", name := "latest", desc := "()J" } : Jvm.MethodName) prog_48_method_3_code (1 : Nat) (Option.some Jvm.ClassFile.FieldType.long)).before args0 about1 = true := code_word (m := ⟨3, 2⟩) (meth := k3m2) (c := k3c2) (by decide +kernel) rfl rfl rfl (by decide +kernel)
set_option maxRecDepth 65536 in
theorem w_c7 : (Jvm.Cond.code ({ cls := "com/example/headroom/headroom/SlidingLog$Log", name := "grow", desc := "()V" } : Jvm.MethodName) prog_48_method_7_code (3 : Nat) (Option.none : Option Jvm.ClassFile.FieldType)).before args0 about1 = true := code_word (m := ⟨3, 6⟩) (meth := k3m6) (c := k3c6) (by decide +kernel) rfl rfl rfl (by decide +kernel)
set_option maxRecDepth 65536 in
theorem w_c8 : (Jvm.Cond.code ({ cls := "com/example/headroom/headroom/SlidingLog$Log", name := "forgetUpTo", desc := "(J)V" } : Jvm.MethodName) prog_48_method_4_code (3 : Nat) (Option.none : Option Jvm.ClassFile.FieldType)).before args0 about1 = true := code_word (m := ⟨3, 3⟩) (meth := k3m3) (c := k3c3) (by decide +kernel) rfl rfl rfl (by decide +kernel)
set_option maxRecDepth 65536 in
theorem w_c9 : (Jvm.Cond.code ({ cls := "com/example/headroom/headroom/SlidingLog$Log", name := "timeReaching", desc := "(J)J" } : Jvm.MethodName) prog_48_method_5_code (6 : Nat) (Option.some Jvm.ClassFile.FieldType.long)).before args0 about1 = true := code_word (m := ⟨3, 4⟩) (meth := k3m4) (c := k3c4) (by decide +kernel) rfl rfl rfl (by decide +kernel)
def codes1 : List Jvm.Cond := [Jvm.Cond.code x code maxLocals ret, Jvm.Cond.code ({ cls := "com/example/headroom/headroom/SlidingLog$Log", name := "<init>", desc := "()V" } : Jvm.MethodName) prog_48_method_1_code (1 : Nat) (Option.none : Option Jvm.ClassFile.FieldType), Jvm.Cond.code ({ cls := "com/example/headroom/headroom/KeyState", name := "<init>", desc := "()V" } : Jvm.MethodName) prog_17_method_1_code (1 : Nat) (Option.none : Option Jvm.ClassFile.FieldType), Jvm.Cond.code ({ cls := "java/lang/Object", name := "<init>", desc := "()V" } : Jvm.MethodName) object_method_1_code (1 : Nat) (Option.none : Option Jvm.ClassFile.FieldType), Jvm.Cond.code ({ cls := "com/example/headroom/headroom/SlidingLog$Log", name := "add", desc := "(JJ)V" } : Jvm.MethodName) prog_48_method_6_code (6 : Nat) (Option.none : Option Jvm.ClassFile.FieldType), Jvm.Cond.code ({ cls := "com/example/headroom/headroom/SlidingLog$Log", name := "slot", desc := "(I)I" } : Jvm.MethodName) prog_48_method_2_code (2 : Nat) (Option.some Jvm.ClassFile.FieldType.int), Jvm.Cond.code ({ cls := "com/example/headroom/headroom/SlidingLog$Log", name := "latest", desc := "()J" } : Jvm.MethodName) prog_48_method_3_code (1 : Nat) (Option.some Jvm.ClassFile.FieldType.long), Jvm.Cond.code ({ cls := "com/example/headroom/headroom/SlidingLog$Log", name := "grow", desc := "()V" } : Jvm.MethodName) prog_48_method_7_code (3 : Nat) (Option.none : Option Jvm.ClassFile.FieldType), Jvm.Cond.code ({ cls := "com/example/headroom/headroom/SlidingLog$Log", name := "forgetUpTo", desc := "(J)V" } : Jvm.MethodName) prog_48_method_4_code (3 : Nat) (Option.none : Option Jvm.ClassFile.FieldType), Jvm.Cond.code ({ cls := "com/example/headroom/headroom/SlidingLog$Log", name := "timeReaching", desc := "(J)J" } : Jvm.MethodName) prog_48_method_5_code (6 : Nat) (Option.some Jvm.ClassFile.FieldType.long)]
set_option maxRecDepth 65536 in
theorem codes_eq : words1.filter isCode = codes1 := rfl
theorem w_codes : ∀ c ∈ words1.filter isCode, c.before args0 about1 = true := by
  rw [codes_eq]
  intro c hc
  simp only [codes1, List.mem_cons, List.not_mem_nil, or_false] at hc
  rcases hc with rfl | rfl | rfl | rfl | rfl | rfl | rfl | rfl | rfl | rfl
  · exact w_c0
  · exact w_c1
  · exact w_c2
  · exact w_c3
  · exact w_c4
  · exact w_c5
  · exact w_c6
  · exact w_c7
  · exact w_c8
  · exact w_c9
set_option maxRecDepth 65536 in
theorem w_t1 : (words1.take 24).all (fun c => isCode c || c.before args0 about1) = true := by decide +kernel
set_option maxRecDepth 65536 in
theorem w_t2 : ((words1.drop 24).take 24).all (fun c => isCode c || c.before args0 about1) = true := by decide +kernel
set_option maxRecDepth 65536 in
theorem w_t3 : ((words1.drop 24).drop 24).all (fun c => isCode c || c.before args0 about1) = true := by decide +kernel
theorem w_tables : (allAtoms (Jvm.Cond.code x code maxLocals ret :: tables_1)).before args0 about1 = true := by
  rw [allAtoms_all]
  show words1.all (fun c => c.before args0 about1) = true
  refine all_split ?_ w_codes
  rw [← List.take_append_drop 24 words1, List.all_append, w_t1, ← List.take_append_drop 24 (words1.drop 24), List.all_append, w_t2, w_t3]
  rfl
set_option maxRecDepth 65536 in
theorem w_case : (Jvm.Cond.and given_1 narrow_1).before args0 about1 = true := by decide +kernel
theorem w_applies : (headSpec (Jvm.Cond.code x code maxLocals ret :: tables_1) room_1).applies x e0.platform about1 = true :=
  (Spec.applies_iff w_frames).mpr ⟨w_running, w_runnable, w_alone, w_named, w_hears, w_ripe, w_room, w_tables⟩
theorem atStart : AtStart classFile x code maxLocals ret World_1 tables_1 room_1 Calls_1 rest_1 Pre_1 launch0 p0 e0 about1 theMethod args0 below0 :=
  ⟨lists_1, trivial, launch0.admits_env _ _ _, launch0.least_env, fairChoices_fair.cas, fairChoices_fair.clock, w_frames, w_args, w_heap, w_applies, trivial, trivial, w_case⟩
end start1
theorem witness_1 : WitnessClaimed_1 := ⟨start1.p0, start1.e0, start1.about1, start1.theMethod, start1.args0, start1.below0, start1.atStart⟩
end Jvm.Pilot.@@N@@
