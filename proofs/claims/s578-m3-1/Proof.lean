import JvmDerived
import JvmDerived.Pilot.@@N@@Statement
import JvmDerived.Pilot.@@N@@Code
set_option linter.unusedVariables false
set_option linter.unusedSimpArgs false
namespace Jvm.Pilot.@@N@@
open Jvm Jvm.ClassFile Sem Op Lib Jvm.Free Jvm.Stand Jvm.LawKit Jvm.RoadKit Bundle Jvm.Pilot.@@N@@.Jvm.D
/-! own_Go: from t the run comes to a state where G holds. A walk is written backwards from the goal, so that a case split may stand anywhere. -/
def own_Go (p : Program) (e : Env) (below : List Frame) (G : State → Prop) (t : State) : Prop := ∃ u, Steps p.tables e below t u ∧ G u
theorem own_st {p : Program} {e : Env} {below : List Frame} {G : State → Prop} {t u : State} (f : ∀ w, Steps p.tables e below u w → Steps p.tables e below t w) (k : own_Go p e below G u) : own_Go p e below G t := by
  obtain ⟨w, s, g⟩ := k
  exact ⟨w, f w s, g⟩
theorem own_jp {p : Program} {e : Env} {below : List Frame} {G : State → Prop} {t u : State} (f : Steps p.tables e below t u) (k : own_Go p e below G u) : own_Go p e below G t := by
  obtain ⟨w, s, g⟩ := k
  exact ⟨w, f.trans s, g⟩
theorem own_out {p : Program} {e : Env} {below : List Frame} {t : State} {Q : Outcome → State → Prop} (k : own_Go p e below (fun u => ∃ o, u.status = .running ∧ Ended u below o ∧ Q o u) t) : ∃ s₂ o, Steps p.tables e below t s₂ ∧ s₂.status = .running ∧ Ended s₂ below o ∧ Q o s₂ := by
  obtain ⟨w, s, o, g⟩ := k
  exact ⟨w, o, s, g⟩
theorem own_nm {p : Program} {e : Env} {below : List Frame} {G0 : State → Prop} {t : State} (k : ∀ G, G = G0 → own_Go p e below G t) : own_Go p e below G0 t := k _ rfl
theorem own_tll {x y : Int64} (h : x < y) : lcmpW x y < 0 := (lw_lt x y).mpr h
theorem own_fll {x y : Int64} (h : ¬ x < y) : ¬ lcmpW x y < 0 := fun q => h ((lw_lt x y).mp q)
theorem own_tlg {x y : Int64} (h : y < x) : 0 < lcmpW x y := (lw_gt x y).mpr h
theorem own_flg {x y : Int64} (h : ¬ y < x) : ¬ 0 < lcmpW x y := fun q => h ((lw_gt x y).mp q)
theorem own_tle {x y : Int64} (h : x = y) : lcmpW x y = 0 := (lw_eq x y).mpr h
theorem own_fle {x y : Int64} (h : ¬ x = y) : ¬ lcmpW x y = 0 := fun q => h ((lw_eq x y).mp q)
section Own
variable {p : Program} {l : Launch} {e : Env} {R : Room} {s : State} {m : MethodId} {args : Array Value} {below : List Frame} {meth : Method} {c : Code} {T : State} {locs : List Loc} {cells slots : Nat} {Z : State} {h h' : Heap} {a b : Addr} {ty : FieldType} {vs : List Value} {v : Value}
theorem own_retI (X : Stand p l e R s m args below meth c T locs cells slots) (hx : p.tables.exec = Jvm.exec) {pc : Nat} {Ls : Array Slot} {z : Int32} {rest : List Value} (hret : meth.sig.returnType = some .int) (hd : decode c.code pc = .ok (.ireturn, 1)) {fs : List Frame}
    (hl : ∀ (f : JFrame) (acts : List Action), f.method = m → f.locked = none → f.entered = [] → (doReturn e (T.setTop f) acts (some (.int z))).1 = T.setFrames fs) : Steps p.tables e below (T.setTop (mkF m pc Ls (.int z :: rest))) (T.setFrames fs) :=
  retOut X hx hret rfl (Or.inl ⟨rfl, Or.inl rfl, z, rfl⟩) hd hl
theorem own_retJ (X : Stand p l e R s m args below meth c T locs cells slots) (hx : p.tables.exec = Jvm.exec) {pc : Nat} {Ls : Array Slot} {z : Int64} {rest : List Value} (hret : meth.sig.returnType = some .long) (hd : decode c.code pc = .ok (.lreturn, 1)) {fs : List Frame}
    (hl : ∀ (f : JFrame) (acts : List Action), f.method = m → f.locked = none → f.entered = [] → (doReturn e (T.setTop f) acts (some (.long z))).1 = T.setFrames fs) : Steps p.tables e below (T.setTop (mkF m pc Ls (.long z :: rest))) (T.setFrames fs) :=
  retOut X hx hret rfl (Or.inr (Or.inl ⟨rfl, rfl, z, rfl⟩)) hd hl
/-! own_L: the array at a holds just the list vs -/
def own_L (Z : State) (h : Heap) (a : Addr) (ty : FieldType) (vs : List Value) : Prop := ∃ cl : Cell, Arr Z h a cl ty ∧ cl.slots = vs.toArray
theorem own_L.lt (F : own_L Z h a ty vs) : a < h.size := by obtain ⟨cl, A, -⟩ := F; exact A.lt
theorem own_L.ext (F : own_L Z h a ty vs) (E : Ext h h') : own_L Z h' a ty vs := by obtain ⟨cl, A, q⟩ := F; exact ⟨cl, A.ext E, q⟩
theorem own_L.other {sl : Nat} (F : own_L Z h b ty vs) (W : Wr h h' a sl v) (q : b ≠ a) : own_L Z h' b ty vs := by obtain ⟨cl, A, r⟩ := F; exact ⟨cl, A.other W q, r⟩
theorem own_L.keep {ws : List Addr} (F : own_L Z h a ty vs) (K : Keep h h' ws) (q : a ∉ ws) : own_L Z h' a ty vs := by obtain ⟨cl, A, r⟩ := F; exact ⟨cl, ⟨K.2.1 a cl A.1 q, A.2⟩, r⟩
theorem own_L.new {k : ClassId} {z : Int32} (A : Arr Z h a (newA k ty z) ty) : own_L Z h a ty (List.replicate z.toNatClampNeg (defaultValue ty)) := ⟨_, A, by simp [newA]⟩
theorem own_L.same {k : Nat} (F : own_L Z h a ty vs) (W : Wr h h' a k v) : own_L Z h' a ty (vs.set k v) := by
  obtain ⟨cl, A, q⟩ := F
  exact ⟨_, A.same W, by simp [Cell.setSlot, q]⟩
theorem own_in {cl : Cell} {j : Int32} (q : cl.slots = vs.toArray) (h1 : ¬ j < 0) (h2 : j.toNatClampNeg < vs.length) : ¬ (j < 0 ∨ cl.slots.size ≤ j.toNatClampNeg) := by
  rw [q]
  rintro (r | r)
  · exact h1 r
  · simp at r; omega
theorem own_at {cl : Cell} {k : Nat} (q : cl.slots = vs.toArray) (hv : vs[k]? = some v) : cl.slots[k]? = some v := by rw [q]; simpa using hv
theorem own_lt {k : Nat} (hv : vs[k]? = some v) : k < vs.length := by
  obtain ⟨q, -⟩ := List.getElem?_eq_some_iff.mp hv
  exact q
theorem own_bld (X : Stand p l e R s m args below meth c T locs cells slots) (hx : p.tables.exec = Jvm.exec) (hZ : Z.Warmed39 s.vm) (eT : T.heap = h) (F : own_L Z h a .byte vs) {j : Int32} {i : Nat} (h1 : ¬ j < 0) (hi : j.toNatClampNeg = i) (hv : vs[i]? = some v) {g : JFrame} (hg : g.method = m) {rest : List Value} (hs : g.stack = .int j :: .ref a :: rest) (hd : decode c.code g.pc = .ok (.baload, 1)) :
    ∀ target, Steps p.tables e below (T.setTop { g with pc := g.pc + 1, stack := v :: rest }) target → Steps p.tables e below (T.setTop g) target := by
  obtain ⟨cl, A, q⟩ := F
  subst hi
  exact X.baloadBytes hx (by rw [eT]; exact A.1) (State.isArrayOf_alike hZ.alike A.2.1) A.2.2 (own_in q h1 (own_lt hv)) (own_at q hv) hg hs hd
theorem own_jld (X : Stand p l e R s m args below meth c T locs cells slots) (hx : p.tables.exec = Jvm.exec) (hZ : Z.Warmed39 s.vm) (eT : T.heap = h) (F : own_L Z h a .long vs) {j : Int32} {i : Nat} (h1 : ¬ j < 0) (hi : j.toNatClampNeg = i) (hv : vs[i]? = some v) {g : JFrame} (hg : g.method = m) {rest : List Value} (hs : g.stack = .int j :: .ref a :: rest) (hd : decode c.code g.pc = .ok (.laload, 1)) :
    ∀ target, Steps p.tables e below (T.setTop { g with pc := g.pc + 1, stack := v :: rest }) target → Steps p.tables e below (T.setTop g) target := by
  obtain ⟨cl, A, q⟩ := F
  subst hi
  exact X.laload hx (by rw [eT]; exact A.1) (State.isArrayOf_alike hZ.alike A.2.1) A.2.2 (own_in q h1 (own_lt hv)) (own_at q hv) hg hs hd
theorem own_ild (X : Stand p l e R s m args below meth c T locs cells slots) (hx : p.tables.exec = Jvm.exec) (hZ : Z.Warmed39 s.vm) (eT : T.heap = h) (F : own_L Z h a .int vs) {j : Int32} {i : Nat} (h1 : ¬ j < 0) (hi : j.toNatClampNeg = i) (hv : vs[i]? = some v) {g : JFrame} (hg : g.method = m) {rest : List Value} (hs : g.stack = .int j :: .ref a :: rest) (hd : decode c.code g.pc = .ok (.iaload, 1)) :
    ∀ target, Steps p.tables e below (T.setTop { g with pc := g.pc + 1, stack := v :: rest }) target → Steps p.tables e below (T.setTop g) target := by
  obtain ⟨cl, A, q⟩ := F
  subst hi
  exact X.iaload hx (by rw [eT]; exact A.1) (State.isArrayOf_alike hZ.alike A.2.1) A.2.2 (own_in q h1 (own_lt hv)) (own_at q hv) hg hs hd
theorem own_zld (X : Stand p l e R s m args below meth c T locs cells slots) (hx : p.tables.exec = Jvm.exec) (hZ : Z.Warmed39 s.vm) (eT : T.heap = h) (F : own_L Z h a .boolean vs) {j : Int32} {i : Nat} (h1 : ¬ j < 0) (hi : j.toNatClampNeg = i) (hv : vs[i]? = some v) {g : JFrame} (hg : g.method = m) {rest : List Value} (hs : g.stack = .int j :: .ref a :: rest) (hd : decode c.code g.pc = .ok (.baload, 1)) :
    ∀ target, Steps p.tables e below (T.setTop { g with pc := g.pc + 1, stack := v :: rest }) target → Steps p.tables e below (T.setTop g) target := by
  obtain ⟨cl, A, q⟩ := F
  subst hi
  exact X.baloadBooleans hx (by rw [eT]; exact A.1) (State.isArrayOf_alike hZ.alike A.2.1) A.2.2 (own_in q h1 (own_lt hv)) (own_at q hv) hg hs hd
theorem own_len (X : Stand p l e R s m args below meth c T locs cells slots) (hx : p.tables.exec = Jvm.exec) (hZ : Z.Warmed39 s.vm) (eT : T.heap = h) (F : own_L Z h a ty vs) {z : Int32} (hz : vs.length.toInt32 = z) {g : JFrame} (hg : g.method = m) {rest : List Value} (hs : g.stack = .ref a :: rest) (hd : decode c.code g.pc = .ok (.arraylength, 1)) :
    ∀ target, Steps p.tables e below (T.setTop { g with pc := g.pc + 1, stack := .int z :: rest }) target → Steps p.tables e below (T.setTop g) target := by
  obtain ⟨cl, A, q⟩ := F
  intro w k
  refine X.arraylength hx (by rw [eT]; exact A.1) (State.isArrayOf_alike hZ.alike A.2.1) hg hs hd w ?_
  have q2 : cl.slots.size.toInt32 = z := by rw [← hz, q]; simp
  rw [q2]; exact k
theorem own_bst (X : Stand p l e R s m args below meth c T locs cells slots) (hx : p.tables.exec = Jvm.exec) (hZ : Z.Warmed39 s.vm) (eT : T.heap = h) (F : own_L Z h a .byte vs) {j x : Int32} (i : Nat) (h1 : ¬ j < 0) (hi : j.toNatClampNeg = i) (h2 : i < vs.length) {g : JFrame} (hg : g.method = m) {rest : List Value} (hs : g.stack = .int x :: .int j :: .ref a :: rest) (hd : decode c.code g.pc = .ok (.bastore, 1)) :
    ∃ T' h', Stand p l e R s m args below meth c T' (locs ++ [⟨a, i⟩]) cells slots ∧ T'.heap = h' ∧ Wr h h' a i (.int x.toInt8.toInt32) ∧ own_L Z h' a .byte (vs.set i (.int x.toInt8.toInt32)) ∧ ∀ target, Steps p.tables e below (T'.setTop { g with pc := g.pc + 1, stack := rest }) target → Steps p.tables e below (T.setTop g) target := by
  obtain ⟨cl, A, q⟩ := F
  subst hi
  obtain ⟨T', h', X', e', W, st⟩ := stB X hx hZ eT A (own_in q h1 h2) hg hs hd
  exact ⟨T', h', X', e', W, own_L.same ⟨cl, A, q⟩ W, st⟩
theorem own_zst (X : Stand p l e R s m args below meth c T locs cells slots) (hx : p.tables.exec = Jvm.exec) (hZ : Z.Warmed39 s.vm) (eT : T.heap = h) (F : own_L Z h a .boolean vs) {j x : Int32} (i : Nat) (h1 : ¬ j < 0) (hi : j.toNatClampNeg = i) (h2 : i < vs.length) {g : JFrame} (hg : g.method = m) {rest : List Value} (hs : g.stack = .int x :: .int j :: .ref a :: rest) (hd : decode c.code g.pc = .ok (.bastore, 1)) :
    ∃ T' h', Stand p l e R s m args below meth c T' (locs ++ [⟨a, i⟩]) cells slots ∧ T'.heap = h' ∧ Wr h h' a i (.int (x &&& 1)) ∧ own_L Z h' a .boolean (vs.set i (.int (x &&& 1))) ∧ ∀ target, Steps p.tables e below (T'.setTop { g with pc := g.pc + 1, stack := rest }) target → Steps p.tables e below (T.setTop g) target := by
  obtain ⟨cl, A, q⟩ := F
  subst hi
  obtain ⟨T', h', X', e', W, st⟩ := stZ X hx hZ eT A (own_in q h1 h2) hg hs hd
  exact ⟨T', h', X', e', W, own_L.same ⟨cl, A, q⟩ W, st⟩
theorem own_jst (X : Stand p l e R s m args below meth c T locs cells slots) (hx : p.tables.exec = Jvm.exec) (hZ : Z.Warmed39 s.vm) (eT : T.heap = h) (F : own_L Z h a .long vs) {j : Int32} {x : Int64} (i : Nat) (h1 : ¬ j < 0) (hi : j.toNatClampNeg = i) (h2 : i < vs.length) {g : JFrame} (hg : g.method = m) {rest : List Value} (hs : g.stack = .long x :: .int j :: .ref a :: rest) (hd : decode c.code g.pc = .ok (.lastore, 1)) :
    ∃ T' h', Stand p l e R s m args below meth c T' (locs ++ [⟨a, i⟩]) cells slots ∧ T'.heap = h' ∧ Wr h h' a i (.long x) ∧ own_L Z h' a .long (vs.set i (.long x)) ∧ ∀ target, Steps p.tables e below (T'.setTop { g with pc := g.pc + 1, stack := rest }) target → Steps p.tables e below (T.setTop g) target := by
  obtain ⟨cl, A, q⟩ := F
  subst hi
  obtain ⟨T', h', X', e', W, st⟩ := stJ X hx hZ eT A (own_in q h1 h2) hg hs hd
  exact ⟨T', h', X', e', W, own_L.same ⟨cl, A, q⟩ W, st⟩
theorem own_ist (X : Stand p l e R s m args below meth c T locs cells slots) (hx : p.tables.exec = Jvm.exec) (hZ : Z.Warmed39 s.vm) (eT : T.heap = h) (F : own_L Z h a .int vs) {j x : Int32} (i : Nat) (h1 : ¬ j < 0) (hi : j.toNatClampNeg = i) (h2 : i < vs.length) {g : JFrame} (hg : g.method = m) {rest : List Value} (hs : g.stack = .int x :: .int j :: .ref a :: rest) (hd : decode c.code g.pc = .ok (.iastore, 1)) :
    ∃ T' h', Stand p l e R s m args below meth c T' (locs ++ [⟨a, i⟩]) cells slots ∧ T'.heap = h' ∧ Wr h h' a i (.int x) ∧ own_L Z h' a .int (vs.set i (.int x)) ∧ ∀ target, Steps p.tables e below (T'.setTop { g with pc := g.pc + 1, stack := rest }) target → Steps p.tables e below (T.setTop g) target := by
  obtain ⟨cl, A, q⟩ := F
  subst hi
  obtain ⟨T', h', X', e', W, st⟩ := stI X hx hZ eT A (own_in q h1 h2) hg hs hd
  exact ⟨T', h', X', e', W, own_L.same ⟨cl, A, q⟩ W, st⟩
theorem own_clone (X : Stand p l e R s m args below meth c T locs cells slots) (hx : p.tables.exec = Jvm.exec) (hZ : Z.Warmed39 s.vm) {a0 : Array Value} {own ad : String} {index : Nat} (hown : s.vm.findClass own = some m.cls)
    (w1 : (Cond.methodLink own index ⟨ad, "clone", "()Ljava/lang/Object;"⟩).before a0 Z = true) (w2 : (Cond.sameMethod ad "java/lang/Object" "clone" "()Ljava/lang/Object;").before a0 Z = true) (w3 : (Cond.native ⟨"java/lang/Object", "clone", "()Ljava/lang/Object;"⟩).before a0 Z = true)
    (w4 : (Cond.instanceMethod ⟨"java/lang/Object", "clone", "()Ljava/lang/Object;"⟩).before a0 Z = true) (w5 : (Cond.selects ad ⟨ad, "clone", "()Ljava/lang/Object;"⟩ ⟨"java/lang/Object", "clone", "()Ljava/lang/Object;"⟩).before a0 Z = true) (w6 : (Cond.castable ad "java/lang/Cloneable").before a0 Z = true)
    (eT : T.heap = h) (F : own_L Z h a ty vs) (E : Exa Z h a ad) (hfit : ∀ v ∈ vs, fits ty v = true) {g : JFrame} (hg : g.method = m) (hsize : g.locals.size = c.maxLocals) {rest : List Value} (hs : g.stack = .ref a :: rest) (hd : decode c.code g.pc = .ok (.invokevirtual index, 3))
    (hf : 1 ≤ R.frames) {W cap : Nat} (hW : 2 * g.monitorRoom + (rest.map fun v => v.category).sum ≤ W) (hl : W + 14 ≤ R.locals) (hcap : vs.length ≤ cap) (hc : cells + 1 ≤ R.cells) (hsl : slots + cap ≤ R.slots) :
    ∃ T' h', Stand p l e R s m args below meth c T' locs (cells + 1) (slots + cap) ∧ T'.heap = h' ∧ Ext h h' ∧ own_L Z h' h.size ty vs ∧ Exa Z h' h.size ad ∧
      ∀ target, Steps p.tables e below (T'.setTop { g with pc := g.pc + 3, stack := .ref h.size :: rest }) target → Steps p.tables e below (T.setTop g) target := by
  obtain ⟨cl, A, q⟩ := F
  have FC : FitC Z cl := fitC_of A fun i hi v hv => hfit v (by
    rw [q] at hv
    exact List.mem_of_getElem? (by simpa using hv))
  obtain ⟨T', h', X', e', ex, A', E', st⟩ := cloneA X hx hZ hown w1 w2 w3 w4 w5 w6 eT A E FC hg hsize hs hd hf hW hl (by rw [q]; simpa using hcap) hc hsl
  exact ⟨T', h', X', e', ex, ⟨cloneOf cl, A', q⟩, E', st⟩
end Own
theorem own_fit0 : ∀ z ∈ ([] : List Value), fits .byte z = true := fun z hz => nomatch hz
theorem own_fitc {y : Int32} {vs : List Value} (h : ∀ z ∈ vs, fits .byte z = true) : ∀ z ∈ (Value.int (y.toInt8.toInt32)) :: vs, fits .byte z = true := fun z hz => by
  rcases List.mem_cons.mp hz with rfl | q
  · exact fits_nar_byte y
  · exact h z q
theorem own_and3 (q : Int32) : (q &&& 3 = 0 ∨ q &&& 3 = 1 ∨ q &&& 3 = 2 ∨ q &&& 3 = 3) := by
  have h := c_mask q 3 2 (by decide) (by decide)
  have z0 : (0 : Int32).toInt = 0 := by decide
  have z1 : (1 : Int32).toInt = 1 := by decide
  have z2 : (2 : Int32).toInt = 2 := by decide
  have z3 : (3 : Int32).toInt = 3 := by decide
  simp only [← Int32.toInt_inj, z0, z1, z2, z3]
  have : (2 ^ 2 : Nat) = 4 := rfl
  rw [this] at h
  omega
theorem own_i2b (x : Int32) : x.toInt8.toInt32.toInt8.toInt32 = x.toInt8.toInt32 := by simp
theorem pn_0 : plainName "com/example/attestrum/attestrum/schemes/der/AlgorithmIdentifier" = true := by first | (simp [plainName, overriddenIn]; done) | decide +kernel
theorem d1_0 : decode prog_30_method_1_code 0 = .ok (.aload_n 0, 1) := by decide +kernel
theorem d1_1 : decode prog_30_method_1_code 1 = .ok (.invokespecial 1, 3) := by decide +kernel
theorem d1_4 : decode prog_30_method_1_code 4 = .ok (.aload_n 0, 1) := by decide +kernel
theorem d1_5 : decode prog_30_method_1_code 5 = .ok (.aload_n 1, 1) := by decide +kernel
theorem d1_6 : decode prog_30_method_1_code 6 = .ok (.putfield 7, 3) := by decide +kernel
theorem d1_9 : decode prog_30_method_1_code 9 = .ok (.aload_n 0, 1) := by decide +kernel
theorem d1_10 : decode prog_30_method_1_code 10 = .ok (.aload_n 2, 1) := by decide +kernel
theorem d1_11 : decode prog_30_method_1_code 11 = .ok (.ifnonnull 7, 3) := by decide +kernel
theorem d1_14 : decode prog_30_method_1_code 14 = .ok (.aconst_null, 1) := by decide +kernel
theorem d1_15 : decode prog_30_method_1_code 15 = .ok (.goto 10, 3) := by decide +kernel
theorem d1_25 : decode prog_30_method_1_code 25 = .ok (.putfield 19, 3) := by decide +kernel
theorem d1_28 : decode prog_30_method_1_code 28 = .ok (.return_, 1) := by decide +kernel
theorem ef_rm_in (m : MethodId) (d : Addr) (o1 : Addr) : entryFrame m #[(.ref d), (.ref o1), .null] 3 = mkF m 0 #[.val (.ref d), .val (.ref o1), .val .null] [] := by first | (simp [entryFrame, mkF, argsToLocals, Value.category]; done) | rfl
def Q_in (Z : State) (d : Addr) (o1 : Addr) (h0 : Heap) (n0 : Nat) (rv : Option Value) (hq : Heap) (Lq : List Loc) : Prop := rv = none ∧ Fr n0 Lq ∧ Keep h0 hq [d] ∧ Exa Z hq d "com/example/attestrum/attestrum/schemes/der/AlgorithmIdentifier" ∧ Fld Z hq d "com/example/attestrum/attestrum/schemes/der/AlgorithmIdentifier" "parameters" "[B" .null
set_option maxRecDepth 65536 in
set_option maxHeartbeats 40000000 in
theorem rm_in (l : Launch) (Z : State) (a0 : Array Value) (hw : ∀ d ∈ tables_1, d.before a0 Z = true) (ws : List Jvm.Cond) (d : Addr) (o1 : Addr) (h0 : Heap) (n0 : Nat) (Z0 : n0 ≤ h0.size) (F0_ : Exa Z h0 d "com/example/attestrum/attestrum/schemes/der/AlgorithmIdentifier") (F1_ : Fld Z h0 d "com/example/attestrum/attestrum/schemes/der/AlgorithmIdentifier" "oid" "Ljava/lang/String;" .null) (F2_ : Fld Z h0 d "com/example/attestrum/attestrum/schemes/der/AlgorithmIdentifier" "parameters" "[B" .null) (ge_d : n0 ≤ d) :
    MetFree l (⟨"com/example/attestrum/attestrum/schemes/der/AlgorithmIdentifier", "<init>", "(Ljava/lang/String;[B)V"⟩ : MethodName) (head1 (Jvm.Cond.code (⟨"com/example/attestrum/attestrum/schemes/der/AlgorithmIdentifier", "<init>", "(Ljava/lang/String;[B)V"⟩ : MethodName) prog_30_method_1_code 3 none :: ws) ({ frames := 1, cells := 0, slots := 0, locals := 12 } : Room)) (fun za U => za = #[(.ref d), (.ref o1), .null] ∧ Z.Warmed39 U.vm ∧ U.heap = h0) (fun _ _ _ _ _ => True) (fun _ U o U' => ∃ rv Lq, o = .returned rv ∧ Q_in Z d o1 h0 n0 rv U'.heap Lq ∧ FrameEnd U o U' Lq ({ frames := 1, cells := 0, slots := 0, locals := 12 } : Room).cells ({ frames := 1, cells := 0, slots := 0, locals := 12 } : Room).slots) := by
  refine MetFree.of_bodySF (plainFor_of_name pn_0) hisR ?_
  intro p e s m args below meth c s₁ Bd hml0 hP hK
  obtain ⟨rfl, hZ, hh⟩ := hP
  have hx := Bd.exec
  have hby := Bd.bytes
  have hml : c.maxLocals = 3 := hml0
  have hown : s.vm.findClass "com/example/attestrum/attestrum/schemes/der/AlgorithmIdentifier" = some m.cls := findClass_of_methodNamed Bd.named
  have hnm := (name_of_methodNamed Bd.named Bd.method).1
  have X0 : Stand p l e ({ frames := 1, cells := 0, slots := 0, locals := 12 } : Room) s m #[(.ref d), (.ref o1), .null] below meth c s₁ [] 0 0 := Stand.of_body Bd
  have e0 : s₁.heap = h0 := by rw [← hh, Bd.state]; rfl
  have N0 := Fr.nil n0
  refine own_out (own_nm fun G hG => own_st (fun zt zk => castTop (ef_rm_in m d o1) zk) ?_)
  show own_Go p e below G (s₁.setTop (mkF m 0 #[.val (.ref d), .val (.ref o1), .val .null] []))
  refine own_st (fun zw zk => XS.aloadN X0.here hx rfl (hb hby d1_0) rfl rfl zk) ?_
  obtain ⟨T1, X1, e1, st1⟩ := initO X0 hx hZ hown (hw _ (List.mem_of_getElem? (i := 14) rfl)) (hw _ (List.mem_of_getElem? (i := 15) rfl)) (hw _ (List.mem_of_getElem? (i := 16) rfl)) e0 (g := (mkF m 1 #[.val (.ref d), .val (.ref o1), .val .null] [(.ref d)])) rfl (by rw [hml]; rfl) rfl (hb hby d1_1) (by decide) (W := 0) (by show 2 * 0 + _ ≤ _; exact Nat.le_of_eq rfl) (by decide)
  refine own_st (fun zw zk => st1 zw zk) ?_
  refine own_st (fun zw zk => XS.aloadN X1.here hx rfl (hb hby d1_4) rfl rfl zk) ?_
  refine own_st (fun zw zk => XS.aloadN X1.here hx rfl (hb hby d1_5) rfl rfl zk) ?_
  obtain ⟨T2, h2, X2, e2, W2, st2⟩ := putF X1 hx hZ hown (host := "") (Or.inl (hw _ (List.mem_of_getElem? (i := 17) rfl))) Via.refl e1 F1_ F0_ (Or.inr ⟨(hw _ (List.mem_of_getElem? (i := 18) rfl)), rfl, hnm⟩) (hw _ (List.mem_of_getElem? (i := 2) rfl)) (ty := (.object "java/lang/String")) (by decide) rfl rfl (g := (mkF m 6 #[.val (.ref d), .val (.ref o1), .val .null] [(.ref o1), (.ref d)])) rfl rfl (hb hby d1_6)
  have F1_2 := F1_.same W2
  have N2 := Fr.snoc X2 N0 ge_d
  refine own_st (fun zw zk => st2 zw zk) ?_
  have F0_2 := F0_.wr W2
  have F2_2 := F2_.other W2 (Or.inr (slot_ne (Or.inr (hw _ (List.mem_of_getElem? (i := 29) rfl))) (Or.inr (hw _ (List.mem_of_getElem? (i := 18) rfl))) (by decide) (t := (.array .byte)) (t' := (.object "java/lang/String")) (by decide) (by decide)))
  have Z2 : n0 ≤ h2.size := Nat.le_trans Z0 (Keep.of_wr W2).1
  have Kp2 := (Keep.refl h0 [d]).wr W2 (Or.inl (List.mem_of_getElem? (i := 0) rfl))
  refine own_st (fun zw zk => XS.aloadN X2.here hx rfl (hb hby d1_9) rfl rfl zk) ?_
  refine own_st (fun zw zk => XS.aloadN X2.here hx rfl (hb hby d1_10) rfl rfl zk) ?_
  refine own_st (fun zw zk => XS.ifnonnullNo X2.here hx rfl (hb hby d1_11) rfl zk) ?_
  show own_Go p e below G (T2.setTop (mkF m 14 #[.val (.ref d), .val (.ref o1), .val .null] [(.ref d)]))
  refine own_st (fun zw zk => XS.aconstNull X2.here hx rfl (hb hby d1_14) zk) ?_
  refine own_st (fun zw zk => XS.goto X2.here hx rfl (pc0 := 15) (pc' := 25) rfl (hb hby d1_15) (by decide) (by decide) zk) ?_
  show own_Go p e below G (T2.setTop (mkF m 25 #[.val (.ref d), .val (.ref o1), .val .null] [.null, (.ref d)]))
  obtain ⟨T3, h3, X3, e3, W3, st3⟩ := putF X2 hx hZ hown (host := "") (Or.inl (hw _ (List.mem_of_getElem? (i := 28) rfl))) Via.refl e2 F2_2 F0_2 (Or.inr ⟨(hw _ (List.mem_of_getElem? (i := 29) rfl)), rfl, hnm⟩) (hw _ (List.mem_of_getElem? (i := 2) rfl)) (ty := (.array .byte)) (by decide) rfl rfl (g := (mkF m 25 #[.val (.ref d), .val (.ref o1), .val .null] [.null, (.ref d)])) rfl rfl (hb hby d1_25)
  have F2_3 := F2_2.same W3
  have N3 := Fr.snoc X3 N2 ge_d
  refine own_st (fun zw zk => st3 zw zk) ?_
  have F0_3 := F0_2.wr W3
  have F1_3 := F1_2.other W3 (Or.inr (slot_ne (Or.inr (hw _ (List.mem_of_getElem? (i := 18) rfl))) (Or.inr (hw _ (List.mem_of_getElem? (i := 29) rfl))) (by decide) (t := (.object "java/lang/String")) (t' := (.array .byte)) (by decide) (by decide)))
  have Z3 : n0 ≤ h3.size := Nat.le_trans Z2 (Keep.of_wr W3).1
  have Kp3 := Kp2.wr W3 (Or.inl (List.mem_of_getElem? (i := 0) rfl))
  subst hG
  obtain ⟨fs, hr, hrun, hended, hW, hsame⟩ := X3.leave (v := none) (fun _ => rfl)
  refine ⟨_, X3.returnOut hx Bd.returns (hb hby d1_28) hr, _, hrun, hended, _, _, rfl, ?_, ⟨_, rfl⟩, hW, hsame.mono (by decide) (by decide)⟩
  show Q_in Z d o1 h0 n0 _ T3.heap _
  rw [e3]
  exact ⟨rfl, N3, Kp3, F0_3, F2_3⟩
theorem d1_18 : decode prog_30_method_1_code 18 = .ok (.aload_n 2, 1) := by decide +kernel
theorem d1_19 : decode prog_30_method_1_code 19 = .ok (.invokevirtual 13, 3) := by decide +kernel
theorem d1_22 : decode prog_30_method_1_code 22 = .ok (.checkcast 14, 3) := by decide +kernel
theorem ef_rm_i0 (m : MethodId) (d : Addr) (o1 : Addr) (t2 : Addr) : entryFrame m #[(.ref d), (.ref o1), (.ref t2)] 3 = mkF m 0 #[.val (.ref d), .val (.ref o1), .val (.ref t2)] [] := by first | (simp [entryFrame, mkF, argsToLocals, Value.category]; done) | rfl
def Q_i0 (Z : State) (d : Addr) (o1 : Addr) (t2 : Addr) (h0 : Heap) (n0 : Nat) (rv : Option Value) (hq : Heap) (Lq : List Loc) : Prop := rv = none ∧ Fr n0 Lq ∧ ∃ tt : Addr, h0.size ≤ tt ∧ Keep h0 hq [d] ∧ Exa Z hq d "com/example/attestrum/attestrum/schemes/der/AlgorithmIdentifier" ∧ Fld Z hq d "com/example/attestrum/attestrum/schemes/der/AlgorithmIdentifier" "parameters" "[B" (.ref tt) ∧ own_L Z hq tt .byte ([]) ∧ Exa Z hq tt "[B"
set_option maxRecDepth 65536 in
set_option maxHeartbeats 40000000 in
theorem rm_i0 (l : Launch) (Z : State) (a0 : Array Value) (hw : ∀ d ∈ tables_1, d.before a0 Z = true) (ws : List Jvm.Cond) (d : Addr) (o1 : Addr) (t2 : Addr) (h0 : Heap) (n0 : Nat) (Z0 : n0 ≤ h0.size) (F0_ : Exa Z h0 d "com/example/attestrum/attestrum/schemes/der/AlgorithmIdentifier") (F1_ : Fld Z h0 d "com/example/attestrum/attestrum/schemes/der/AlgorithmIdentifier" "oid" "Ljava/lang/String;" .null) (F2_ : Fld Z h0 d "com/example/attestrum/attestrum/schemes/der/AlgorithmIdentifier" "parameters" "[B" .null) (F3_ : own_L Z h0 t2 .byte ([])) (F4_ : Exa Z h0 t2 "[B") (ge_d : n0 ≤ d) (ne_d_t2 : d ≠ t2) (hfit : ∀ z ∈ [], fits .byte z = true) :
    MetFree l (⟨"com/example/attestrum/attestrum/schemes/der/AlgorithmIdentifier", "<init>", "(Ljava/lang/String;[B)V"⟩ : MethodName) (head1 (Jvm.Cond.code (⟨"com/example/attestrum/attestrum/schemes/der/AlgorithmIdentifier", "<init>", "(Ljava/lang/String;[B)V"⟩ : MethodName) prog_30_method_1_code 3 none :: ws) ({ frames := 1, cells := 1, slots := 0, locals := 15 } : Room)) (fun za U => za = #[(.ref d), (.ref o1), (.ref t2)] ∧ Z.Warmed39 U.vm ∧ U.heap = h0) (fun _ _ _ _ _ => True) (fun _ U o U' => ∃ rv Lq, o = .returned rv ∧ Q_i0 Z d o1 t2 h0 n0 rv U'.heap Lq ∧ FrameEnd U o U' Lq ({ frames := 1, cells := 1, slots := 0, locals := 15 } : Room).cells ({ frames := 1, cells := 1, slots := 0, locals := 15 } : Room).slots) := by
  refine MetFree.of_bodySF (plainFor_of_name pn_0) hisR ?_
  intro p e s m args below meth c s₁ Bd hml0 hP hK
  obtain ⟨rfl, hZ, hh⟩ := hP
  have hx := Bd.exec
  have hby := Bd.bytes
  have hml : c.maxLocals = 3 := hml0
  have hown : s.vm.findClass "com/example/attestrum/attestrum/schemes/der/AlgorithmIdentifier" = some m.cls := findClass_of_methodNamed Bd.named
  have hnm := (name_of_methodNamed Bd.named Bd.method).1
  have X0 : Stand p l e ({ frames := 1, cells := 1, slots := 0, locals := 15 } : Room) s m #[(.ref d), (.ref o1), (.ref t2)] below meth c s₁ [] 0 0 := Stand.of_body Bd
  have e0 : s₁.heap = h0 := by rw [← hh, Bd.state]; rfl
  have N0 := Fr.nil n0
  refine own_out (own_nm fun G hG => own_st (fun zt zk => castTop (ef_rm_i0 m d o1 t2) zk) ?_)
  show own_Go p e below G (s₁.setTop (mkF m 0 #[.val (.ref d), .val (.ref o1), .val (.ref t2)] []))
  refine own_st (fun zw zk => XS.aloadN X0.here hx rfl (hb hby d1_0) rfl rfl zk) ?_
  obtain ⟨T4, X4, e4, st4⟩ := initO X0 hx hZ hown (hw _ (List.mem_of_getElem? (i := 14) rfl)) (hw _ (List.mem_of_getElem? (i := 15) rfl)) (hw _ (List.mem_of_getElem? (i := 16) rfl)) e0 (g := (mkF m 1 #[.val (.ref d), .val (.ref o1), .val (.ref t2)] [(.ref d)])) rfl (by rw [hml]; rfl) rfl (hb hby d1_1) (by decide) (W := 0) (by show 2 * 0 + _ ≤ _; exact Nat.le_of_eq rfl) (by decide)
  refine own_st (fun zw zk => st4 zw zk) ?_
  refine own_st (fun zw zk => XS.aloadN X4.here hx rfl (hb hby d1_4) rfl rfl zk) ?_
  refine own_st (fun zw zk => XS.aloadN X4.here hx rfl (hb hby d1_5) rfl rfl zk) ?_
  obtain ⟨T5, h5, X5, e5, W5, st5⟩ := putF X4 hx hZ hown (host := "") (Or.inl (hw _ (List.mem_of_getElem? (i := 17) rfl))) Via.refl e4 F1_ F0_ (Or.inr ⟨(hw _ (List.mem_of_getElem? (i := 18) rfl)), rfl, hnm⟩) (hw _ (List.mem_of_getElem? (i := 2) rfl)) (ty := (.object "java/lang/String")) (by decide) rfl rfl (g := (mkF m 6 #[.val (.ref d), .val (.ref o1), .val (.ref t2)] [(.ref o1), (.ref d)])) rfl rfl (hb hby d1_6)
  have F1_5 := F1_.same W5
  have N5 := Fr.snoc X5 N0 ge_d
  refine own_st (fun zw zk => st5 zw zk) ?_
  have F0_5 := F0_.wr W5
  have F2_5 := F2_.other W5 (Or.inr (slot_ne (Or.inr (hw _ (List.mem_of_getElem? (i := 29) rfl))) (Or.inr (hw _ (List.mem_of_getElem? (i := 18) rfl))) (by decide) (t := (.array .byte)) (t' := (.object "java/lang/String")) (by decide) (by decide)))
  have F3_5 := F3_.other W5 (Ne.symm ne_d_t2)
  have F4_5 := F4_.wr W5
  have Z5 : n0 ≤ h5.size := Nat.le_trans Z0 (Keep.of_wr W5).1
  have Kp5 := (Keep.refl h0 [d]).wr W5 (Or.inl (List.mem_of_getElem? (i := 0) rfl))
  refine own_st (fun zw zk => XS.aloadN X5.here hx rfl (hb hby d1_9) rfl rfl zk) ?_
  refine own_st (fun zw zk => XS.aloadN X5.here hx rfl (hb hby d1_10) rfl rfl zk) ?_
  refine own_st (fun zw zk => XS.ifnonnullYes X5.here hx rfl (pc0 := 11) (pc' := 18) rfl (hb hby d1_11) rfl (by decide) (by decide) zk) ?_
  show own_Go p e below G (T5.setTop (mkF m 18 #[.val (.ref d), .val (.ref o1), .val (.ref t2)] [(.ref d)]))
  refine own_st (fun zw zk => XS.aloadN X5.here hx rfl (hb hby d1_18) rfl rfl zk) ?_
  obtain ⟨T6, h6, X6, e6, E6, V6, A6, st6⟩ := own_clone X5 hx hZ hown (hw _ (List.mem_of_getElem? (i := 19) rfl)) (hw _ (List.mem_of_getElem? (i := 20) rfl)) (hw _ (List.mem_of_getElem? (i := 24) rfl)) (hw _ (List.mem_of_getElem? (i := 22) rfl)) (hw _ (List.mem_of_getElem? (i := 23) rfl)) (hw _ (List.mem_of_getElem? (i := 25) rfl)) e5 F3_5 F4_5 hfit (g := (mkF m 19 #[.val (.ref d), .val (.ref o1), .val (.ref t2)] [(.ref t2), (.ref d)])) rfl (by rw [hml]; rfl) rfl (hb hby d1_19) (by decide) (W := 1) (cap := 0) (by show 2 * 0 + _ ≤ _; exact Nat.le_of_eq rfl) (by decide) (Nat.le_refl _) (by decide) (by decide)
  obtain ⟨b6, g6⟩ : ∃ z, z = h5.size := ⟨_, rfl⟩
  rw [← g6] at V6 A6 st6
  have G6 : n0 ≤ b6 := Nat.le_trans Z5 (Nat.le_of_eq g6.symm)
  have ne_d_b6 : d ≠ b6 := Nat.ne_of_lt (Nat.lt_of_lt_of_le F0_5.lt (Nat.le_of_eq g6.symm))
  have ne_t2_b6 : t2 ≠ b6 := Nat.ne_of_lt (Nat.lt_of_lt_of_le F3_5.lt (Nat.le_of_eq g6.symm))
  have F0_6 := F0_5.ext E6
  have F2_6 := F2_5.ext E6
  have F3_6 := F3_5.ext E6
  have F4_6 := F4_5.ext E6
  have F1_6 := F1_5.ext E6
  have Z6 : n0 ≤ h6.size := Nat.le_trans Z5 E6.1
  have sz6 : h0.size ≤ b6 := Nat.le_trans Kp5.1 (Nat.le_of_eq g6.symm)
  have Kp6 := Kp5.ext E6
  refine own_st (fun zw zk => st6 zw zk) ?_
  obtain ⟨T7, X7, e7, st7⟩ := castY X6 hx hZ hown (hw _ (List.mem_of_getElem? (i := 26) rfl)) e6 (Ins.self A6) (g := (mkF m 22 #[.val (.ref d), .val (.ref o1), .val (.ref t2)] [(.ref b6), (.ref d)])) rfl rfl (hb hby d1_22)
  refine own_st (fun zw zk => st7 zw zk) ?_
  obtain ⟨T8, h8, X8, e8, W8, st8⟩ := putF X7 hx hZ hown (host := "") (Or.inl (hw _ (List.mem_of_getElem? (i := 28) rfl))) Via.refl e7 F2_6 F0_6 (Or.inr ⟨(hw _ (List.mem_of_getElem? (i := 29) rfl)), rfl, hnm⟩) (hw _ (List.mem_of_getElem? (i := 2) rfl)) (ty := (.array .byte)) (by decide) rfl rfl (g := (mkF m 25 #[.val (.ref d), .val (.ref o1), .val (.ref t2)] [(.ref b6), (.ref d)])) rfl rfl (hb hby d1_25)
  have F2_8 := F2_6.same W8
  have N8 := Fr.snoc X8 N5 ge_d
  refine own_st (fun zw zk => st8 zw zk) ?_
  have F0_8 := F0_6.wr W8
  have F3_8 := F3_6.other W8 (Ne.symm ne_d_t2)
  have F4_8 := F4_6.wr W8
  have F1_8 := F1_6.other W8 (Or.inr (slot_ne (Or.inr (hw _ (List.mem_of_getElem? (i := 18) rfl))) (Or.inr (hw _ (List.mem_of_getElem? (i := 29) rfl))) (by decide) (t := (.object "java/lang/String")) (t' := (.array .byte)) (by decide) (by decide)))
  have Vb6_8 := V6.other W8 (Ne.symm ne_d_b6)
  have Ab6_8 := A6.wr W8
  have Z8 : n0 ≤ h8.size := Nat.le_trans Z6 (Keep.of_wr W8).1
  have Kp8 := Kp6.wr W8 (Or.inl (List.mem_of_getElem? (i := 0) rfl))
  subst hG
  obtain ⟨fs, hr, hrun, hended, hW, hsame⟩ := X8.leave (v := none) (fun _ => rfl)
  refine ⟨_, X8.returnOut hx Bd.returns (hb hby d1_28) hr, _, hrun, hended, _, _, rfl, ?_, ⟨_, rfl⟩, hW, hsame.mono (by decide) (by decide)⟩
  show Q_i0 Z d o1 t2 h0 n0 _ T8.heap _
  rw [e8]
  exact ⟨rfl, N8, b6, sz6, Kp8, F0_8, F2_8, Vb6_8, Ab6_8⟩
theorem ef_rm_i1 (m : MethodId) (d : Addr) (o1 : Addr) (t2 : Addr) : entryFrame m #[(.ref d), (.ref o1), (.ref t2)] 3 = mkF m 0 #[.val (.ref d), .val (.ref o1), .val (.ref t2)] [] := by first | (simp [entryFrame, mkF, argsToLocals, Value.category]; done) | rfl
def Q_i1 (Z : State) (d : Addr) (o1 : Addr) (t2 : Addr) (w0 : Int32) (h0 : Heap) (n0 : Nat) (rv : Option Value) (hq : Heap) (Lq : List Loc) : Prop := rv = none ∧ Fr n0 Lq ∧ ∃ tt : Addr, h0.size ≤ tt ∧ Keep h0 hq [d] ∧ Exa Z hq d "com/example/attestrum/attestrum/schemes/der/AlgorithmIdentifier" ∧ Fld Z hq d "com/example/attestrum/attestrum/schemes/der/AlgorithmIdentifier" "parameters" "[B" (.ref tt) ∧ own_L Z hq tt .byte ([(.int w0)]) ∧ Exa Z hq tt "[B"
set_option maxRecDepth 65536 in
set_option maxHeartbeats 40000000 in
theorem rm_i1 (l : Launch) (Z : State) (a0 : Array Value) (hw : ∀ d ∈ tables_1, d.before a0 Z = true) (ws : List Jvm.Cond) (d : Addr) (o1 : Addr) (t2 : Addr) (w0 : Int32) (h0 : Heap) (n0 : Nat) (Z0 : n0 ≤ h0.size) (F0_ : Exa Z h0 d "com/example/attestrum/attestrum/schemes/der/AlgorithmIdentifier") (F1_ : Fld Z h0 d "com/example/attestrum/attestrum/schemes/der/AlgorithmIdentifier" "oid" "Ljava/lang/String;" .null) (F2_ : Fld Z h0 d "com/example/attestrum/attestrum/schemes/der/AlgorithmIdentifier" "parameters" "[B" .null) (F3_ : own_L Z h0 t2 .byte ([(.int w0)])) (F4_ : Exa Z h0 t2 "[B") (ge_d : n0 ≤ d) (ne_d_t2 : d ≠ t2) (hfit : ∀ z ∈ [(Value.int w0)], fits .byte z = true) :
    MetFree l (⟨"com/example/attestrum/attestrum/schemes/der/AlgorithmIdentifier", "<init>", "(Ljava/lang/String;[B)V"⟩ : MethodName) (head1 (Jvm.Cond.code (⟨"com/example/attestrum/attestrum/schemes/der/AlgorithmIdentifier", "<init>", "(Ljava/lang/String;[B)V"⟩ : MethodName) prog_30_method_1_code 3 none :: ws) ({ frames := 1, cells := 1, slots := 1, locals := 15 } : Room)) (fun za U => za = #[(.ref d), (.ref o1), (.ref t2)] ∧ Z.Warmed39 U.vm ∧ U.heap = h0) (fun _ _ _ _ _ => True) (fun _ U o U' => ∃ rv Lq, o = .returned rv ∧ Q_i1 Z d o1 t2 w0 h0 n0 rv U'.heap Lq ∧ FrameEnd U o U' Lq ({ frames := 1, cells := 1, slots := 1, locals := 15 } : Room).cells ({ frames := 1, cells := 1, slots := 1, locals := 15 } : Room).slots) := by
  refine MetFree.of_bodySF (plainFor_of_name pn_0) hisR ?_
  intro p e s m args below meth c s₁ Bd hml0 hP hK
  obtain ⟨rfl, hZ, hh⟩ := hP
  have hx := Bd.exec
  have hby := Bd.bytes
  have hml : c.maxLocals = 3 := hml0
  have hown : s.vm.findClass "com/example/attestrum/attestrum/schemes/der/AlgorithmIdentifier" = some m.cls := findClass_of_methodNamed Bd.named
  have hnm := (name_of_methodNamed Bd.named Bd.method).1
  have X0 : Stand p l e ({ frames := 1, cells := 1, slots := 1, locals := 15 } : Room) s m #[(.ref d), (.ref o1), (.ref t2)] below meth c s₁ [] 0 0 := Stand.of_body Bd
  have e0 : s₁.heap = h0 := by rw [← hh, Bd.state]; rfl
  have N0 := Fr.nil n0
  refine own_out (own_nm fun G hG => own_st (fun zt zk => castTop (ef_rm_i1 m d o1 t2) zk) ?_)
  show own_Go p e below G (s₁.setTop (mkF m 0 #[.val (.ref d), .val (.ref o1), .val (.ref t2)] []))
  refine own_st (fun zw zk => XS.aloadN X0.here hx rfl (hb hby d1_0) rfl rfl zk) ?_
  obtain ⟨T9, X9, e9, st9⟩ := initO X0 hx hZ hown (hw _ (List.mem_of_getElem? (i := 14) rfl)) (hw _ (List.mem_of_getElem? (i := 15) rfl)) (hw _ (List.mem_of_getElem? (i := 16) rfl)) e0 (g := (mkF m 1 #[.val (.ref d), .val (.ref o1), .val (.ref t2)] [(.ref d)])) rfl (by rw [hml]; rfl) rfl (hb hby d1_1) (by decide) (W := 0) (by show 2 * 0 + _ ≤ _; exact Nat.le_of_eq rfl) (by decide)
  refine own_st (fun zw zk => st9 zw zk) ?_
  refine own_st (fun zw zk => XS.aloadN X9.here hx rfl (hb hby d1_4) rfl rfl zk) ?_
  refine own_st (fun zw zk => XS.aloadN X9.here hx rfl (hb hby d1_5) rfl rfl zk) ?_
  obtain ⟨T10, h10, X10, e10, W10, st10⟩ := putF X9 hx hZ hown (host := "") (Or.inl (hw _ (List.mem_of_getElem? (i := 17) rfl))) Via.refl e9 F1_ F0_ (Or.inr ⟨(hw _ (List.mem_of_getElem? (i := 18) rfl)), rfl, hnm⟩) (hw _ (List.mem_of_getElem? (i := 2) rfl)) (ty := (.object "java/lang/String")) (by decide) rfl rfl (g := (mkF m 6 #[.val (.ref d), .val (.ref o1), .val (.ref t2)] [(.ref o1), (.ref d)])) rfl rfl (hb hby d1_6)
  have F1_10 := F1_.same W10
  have N10 := Fr.snoc X10 N0 ge_d
  refine own_st (fun zw zk => st10 zw zk) ?_
  have F0_10 := F0_.wr W10
  have F2_10 := F2_.other W10 (Or.inr (slot_ne (Or.inr (hw _ (List.mem_of_getElem? (i := 29) rfl))) (Or.inr (hw _ (List.mem_of_getElem? (i := 18) rfl))) (by decide) (t := (.array .byte)) (t' := (.object "java/lang/String")) (by decide) (by decide)))
  have F3_10 := F3_.other W10 (Ne.symm ne_d_t2)
  have F4_10 := F4_.wr W10
  have Z10 : n0 ≤ h10.size := Nat.le_trans Z0 (Keep.of_wr W10).1
  have Kp10 := (Keep.refl h0 [d]).wr W10 (Or.inl (List.mem_of_getElem? (i := 0) rfl))
  refine own_st (fun zw zk => XS.aloadN X10.here hx rfl (hb hby d1_9) rfl rfl zk) ?_
  refine own_st (fun zw zk => XS.aloadN X10.here hx rfl (hb hby d1_10) rfl rfl zk) ?_
  refine own_st (fun zw zk => XS.ifnonnullYes X10.here hx rfl (pc0 := 11) (pc' := 18) rfl (hb hby d1_11) rfl (by decide) (by decide) zk) ?_
  show own_Go p e below G (T10.setTop (mkF m 18 #[.val (.ref d), .val (.ref o1), .val (.ref t2)] [(.ref d)]))
  refine own_st (fun zw zk => XS.aloadN X10.here hx rfl (hb hby d1_18) rfl rfl zk) ?_
  obtain ⟨T11, h11, X11, e11, E11, V11, A11, st11⟩ := own_clone X10 hx hZ hown (hw _ (List.mem_of_getElem? (i := 19) rfl)) (hw _ (List.mem_of_getElem? (i := 20) rfl)) (hw _ (List.mem_of_getElem? (i := 24) rfl)) (hw _ (List.mem_of_getElem? (i := 22) rfl)) (hw _ (List.mem_of_getElem? (i := 23) rfl)) (hw _ (List.mem_of_getElem? (i := 25) rfl)) e10 F3_10 F4_10 hfit (g := (mkF m 19 #[.val (.ref d), .val (.ref o1), .val (.ref t2)] [(.ref t2), (.ref d)])) rfl (by rw [hml]; rfl) rfl (hb hby d1_19) (by decide) (W := 1) (cap := 1) (by show 2 * 0 + _ ≤ _; exact Nat.le_of_eq rfl) (by decide) (Nat.le_refl _) (by decide) (by decide)
  obtain ⟨b11, g11⟩ : ∃ z, z = h10.size := ⟨_, rfl⟩
  rw [← g11] at V11 A11 st11
  have G11 : n0 ≤ b11 := Nat.le_trans Z10 (Nat.le_of_eq g11.symm)
  have ne_d_b11 : d ≠ b11 := Nat.ne_of_lt (Nat.lt_of_lt_of_le F0_10.lt (Nat.le_of_eq g11.symm))
  have ne_t2_b11 : t2 ≠ b11 := Nat.ne_of_lt (Nat.lt_of_lt_of_le F3_10.lt (Nat.le_of_eq g11.symm))
  have F0_11 := F0_10.ext E11
  have F2_11 := F2_10.ext E11
  have F3_11 := F3_10.ext E11
  have F4_11 := F4_10.ext E11
  have F1_11 := F1_10.ext E11
  have Z11 : n0 ≤ h11.size := Nat.le_trans Z10 E11.1
  have sz11 : h0.size ≤ b11 := Nat.le_trans Kp10.1 (Nat.le_of_eq g11.symm)
  have Kp11 := Kp10.ext E11
  refine own_st (fun zw zk => st11 zw zk) ?_
  obtain ⟨T12, X12, e12, st12⟩ := castY X11 hx hZ hown (hw _ (List.mem_of_getElem? (i := 26) rfl)) e11 (Ins.self A11) (g := (mkF m 22 #[.val (.ref d), .val (.ref o1), .val (.ref t2)] [(.ref b11), (.ref d)])) rfl rfl (hb hby d1_22)
  refine own_st (fun zw zk => st12 zw zk) ?_
  obtain ⟨T13, h13, X13, e13, W13, st13⟩ := putF X12 hx hZ hown (host := "") (Or.inl (hw _ (List.mem_of_getElem? (i := 28) rfl))) Via.refl e12 F2_11 F0_11 (Or.inr ⟨(hw _ (List.mem_of_getElem? (i := 29) rfl)), rfl, hnm⟩) (hw _ (List.mem_of_getElem? (i := 2) rfl)) (ty := (.array .byte)) (by decide) rfl rfl (g := (mkF m 25 #[.val (.ref d), .val (.ref o1), .val (.ref t2)] [(.ref b11), (.ref d)])) rfl rfl (hb hby d1_25)
  have F2_13 := F2_11.same W13
  have N13 := Fr.snoc X13 N10 ge_d
  refine own_st (fun zw zk => st13 zw zk) ?_
  have F0_13 := F0_11.wr W13
  have F3_13 := F3_11.other W13 (Ne.symm ne_d_t2)
  have F4_13 := F4_11.wr W13
  have F1_13 := F1_11.other W13 (Or.inr (slot_ne (Or.inr (hw _ (List.mem_of_getElem? (i := 18) rfl))) (Or.inr (hw _ (List.mem_of_getElem? (i := 29) rfl))) (by decide) (t := (.object "java/lang/String")) (t' := (.array .byte)) (by decide) (by decide)))
  have Vb11_13 := V11.other W13 (Ne.symm ne_d_b11)
  have Ab11_13 := A11.wr W13
  have Z13 : n0 ≤ h13.size := Nat.le_trans Z11 (Keep.of_wr W13).1
  have Kp13 := Kp11.wr W13 (Or.inl (List.mem_of_getElem? (i := 0) rfl))
  subst hG
  obtain ⟨fs, hr, hrun, hended, hW, hsame⟩ := X13.leave (v := none) (fun _ => rfl)
  refine ⟨_, X13.returnOut hx Bd.returns (hb hby d1_28) hr, _, hrun, hended, _, _, rfl, ?_, ⟨_, rfl⟩, hW, hsame.mono (by decide) (by decide)⟩
  show Q_i1 Z d o1 t2 w0 h0 n0 _ T13.heap _
  rw [e13]
  exact ⟨rfl, N13, b11, sz11, Kp13, F0_13, F2_13, Vb11_13, Ab11_13⟩
theorem ef_rm_i2 (m : MethodId) (d : Addr) (o1 : Addr) (t2 : Addr) : entryFrame m #[(.ref d), (.ref o1), (.ref t2)] 3 = mkF m 0 #[.val (.ref d), .val (.ref o1), .val (.ref t2)] [] := by first | (simp [entryFrame, mkF, argsToLocals, Value.category]; done) | rfl
def Q_i2 (Z : State) (d : Addr) (o1 : Addr) (t2 : Addr) (w0 : Int32) (w1 : Int32) (h0 : Heap) (n0 : Nat) (rv : Option Value) (hq : Heap) (Lq : List Loc) : Prop := rv = none ∧ Fr n0 Lq ∧ ∃ tt : Addr, h0.size ≤ tt ∧ Keep h0 hq [d] ∧ Exa Z hq d "com/example/attestrum/attestrum/schemes/der/AlgorithmIdentifier" ∧ Fld Z hq d "com/example/attestrum/attestrum/schemes/der/AlgorithmIdentifier" "parameters" "[B" (.ref tt) ∧ own_L Z hq tt .byte ([(.int w0), (.int w1)]) ∧ Exa Z hq tt "[B"
set_option maxRecDepth 65536 in
set_option maxHeartbeats 40000000 in
theorem rm_i2 (l : Launch) (Z : State) (a0 : Array Value) (hw : ∀ d ∈ tables_1, d.before a0 Z = true) (ws : List Jvm.Cond) (d : Addr) (o1 : Addr) (t2 : Addr) (w0 : Int32) (w1 : Int32) (h0 : Heap) (n0 : Nat) (Z0 : n0 ≤ h0.size) (F0_ : Exa Z h0 d "com/example/attestrum/attestrum/schemes/der/AlgorithmIdentifier") (F1_ : Fld Z h0 d "com/example/attestrum/attestrum/schemes/der/AlgorithmIdentifier" "oid" "Ljava/lang/String;" .null) (F2_ : Fld Z h0 d "com/example/attestrum/attestrum/schemes/der/AlgorithmIdentifier" "parameters" "[B" .null) (F3_ : own_L Z h0 t2 .byte ([(.int w0), (.int w1)])) (F4_ : Exa Z h0 t2 "[B") (ge_d : n0 ≤ d) (ne_d_t2 : d ≠ t2) (hfit : ∀ z ∈ [(Value.int w0), (Value.int w1)], fits .byte z = true) :
    MetFree l (⟨"com/example/attestrum/attestrum/schemes/der/AlgorithmIdentifier", "<init>", "(Ljava/lang/String;[B)V"⟩ : MethodName) (head1 (Jvm.Cond.code (⟨"com/example/attestrum/attestrum/schemes/der/AlgorithmIdentifier", "<init>", "(Ljava/lang/String;[B)V"⟩ : MethodName) prog_30_method_1_code 3 none :: ws) ({ frames := 1, cells := 1, slots := 2, locals := 15 } : Room)) (fun za U => za = #[(.ref d), (.ref o1), (.ref t2)] ∧ Z.Warmed39 U.vm ∧ U.heap = h0) (fun _ _ _ _ _ => True) (fun _ U o U' => ∃ rv Lq, o = .returned rv ∧ Q_i2 Z d o1 t2 w0 w1 h0 n0 rv U'.heap Lq ∧ FrameEnd U o U' Lq ({ frames := 1, cells := 1, slots := 2, locals := 15 } : Room).cells ({ frames := 1, cells := 1, slots := 2, locals := 15 } : Room).slots) := by
  refine MetFree.of_bodySF (plainFor_of_name pn_0) hisR ?_
  intro p e s m args below meth c s₁ Bd hml0 hP hK
  obtain ⟨rfl, hZ, hh⟩ := hP
  have hx := Bd.exec
  have hby := Bd.bytes
  have hml : c.maxLocals = 3 := hml0
  have hown : s.vm.findClass "com/example/attestrum/attestrum/schemes/der/AlgorithmIdentifier" = some m.cls := findClass_of_methodNamed Bd.named
  have hnm := (name_of_methodNamed Bd.named Bd.method).1
  have X0 : Stand p l e ({ frames := 1, cells := 1, slots := 2, locals := 15 } : Room) s m #[(.ref d), (.ref o1), (.ref t2)] below meth c s₁ [] 0 0 := Stand.of_body Bd
  have e0 : s₁.heap = h0 := by rw [← hh, Bd.state]; rfl
  have N0 := Fr.nil n0
  refine own_out (own_nm fun G hG => own_st (fun zt zk => castTop (ef_rm_i2 m d o1 t2) zk) ?_)
  show own_Go p e below G (s₁.setTop (mkF m 0 #[.val (.ref d), .val (.ref o1), .val (.ref t2)] []))
  refine own_st (fun zw zk => XS.aloadN X0.here hx rfl (hb hby d1_0) rfl rfl zk) ?_
  obtain ⟨T14, X14, e14, st14⟩ := initO X0 hx hZ hown (hw _ (List.mem_of_getElem? (i := 14) rfl)) (hw _ (List.mem_of_getElem? (i := 15) rfl)) (hw _ (List.mem_of_getElem? (i := 16) rfl)) e0 (g := (mkF m 1 #[.val (.ref d), .val (.ref o1), .val (.ref t2)] [(.ref d)])) rfl (by rw [hml]; rfl) rfl (hb hby d1_1) (by decide) (W := 0) (by show 2 * 0 + _ ≤ _; exact Nat.le_of_eq rfl) (by decide)
  refine own_st (fun zw zk => st14 zw zk) ?_
  refine own_st (fun zw zk => XS.aloadN X14.here hx rfl (hb hby d1_4) rfl rfl zk) ?_
  refine own_st (fun zw zk => XS.aloadN X14.here hx rfl (hb hby d1_5) rfl rfl zk) ?_
  obtain ⟨T15, h15, X15, e15, W15, st15⟩ := putF X14 hx hZ hown (host := "") (Or.inl (hw _ (List.mem_of_getElem? (i := 17) rfl))) Via.refl e14 F1_ F0_ (Or.inr ⟨(hw _ (List.mem_of_getElem? (i := 18) rfl)), rfl, hnm⟩) (hw _ (List.mem_of_getElem? (i := 2) rfl)) (ty := (.object "java/lang/String")) (by decide) rfl rfl (g := (mkF m 6 #[.val (.ref d), .val (.ref o1), .val (.ref t2)] [(.ref o1), (.ref d)])) rfl rfl (hb hby d1_6)
  have F1_15 := F1_.same W15
  have N15 := Fr.snoc X15 N0 ge_d
  refine own_st (fun zw zk => st15 zw zk) ?_
  have F0_15 := F0_.wr W15
  have F2_15 := F2_.other W15 (Or.inr (slot_ne (Or.inr (hw _ (List.mem_of_getElem? (i := 29) rfl))) (Or.inr (hw _ (List.mem_of_getElem? (i := 18) rfl))) (by decide) (t := (.array .byte)) (t' := (.object "java/lang/String")) (by decide) (by decide)))
  have F3_15 := F3_.other W15 (Ne.symm ne_d_t2)
  have F4_15 := F4_.wr W15
  have Z15 : n0 ≤ h15.size := Nat.le_trans Z0 (Keep.of_wr W15).1
  have Kp15 := (Keep.refl h0 [d]).wr W15 (Or.inl (List.mem_of_getElem? (i := 0) rfl))
  refine own_st (fun zw zk => XS.aloadN X15.here hx rfl (hb hby d1_9) rfl rfl zk) ?_
  refine own_st (fun zw zk => XS.aloadN X15.here hx rfl (hb hby d1_10) rfl rfl zk) ?_
  refine own_st (fun zw zk => XS.ifnonnullYes X15.here hx rfl (pc0 := 11) (pc' := 18) rfl (hb hby d1_11) rfl (by decide) (by decide) zk) ?_
  show own_Go p e below G (T15.setTop (mkF m 18 #[.val (.ref d), .val (.ref o1), .val (.ref t2)] [(.ref d)]))
  refine own_st (fun zw zk => XS.aloadN X15.here hx rfl (hb hby d1_18) rfl rfl zk) ?_
  obtain ⟨T16, h16, X16, e16, E16, V16, A16, st16⟩ := own_clone X15 hx hZ hown (hw _ (List.mem_of_getElem? (i := 19) rfl)) (hw _ (List.mem_of_getElem? (i := 20) rfl)) (hw _ (List.mem_of_getElem? (i := 24) rfl)) (hw _ (List.mem_of_getElem? (i := 22) rfl)) (hw _ (List.mem_of_getElem? (i := 23) rfl)) (hw _ (List.mem_of_getElem? (i := 25) rfl)) e15 F3_15 F4_15 hfit (g := (mkF m 19 #[.val (.ref d), .val (.ref o1), .val (.ref t2)] [(.ref t2), (.ref d)])) rfl (by rw [hml]; rfl) rfl (hb hby d1_19) (by decide) (W := 1) (cap := 2) (by show 2 * 0 + _ ≤ _; exact Nat.le_of_eq rfl) (by decide) (Nat.le_refl _) (by decide) (by decide)
  obtain ⟨b16, g16⟩ : ∃ z, z = h15.size := ⟨_, rfl⟩
  rw [← g16] at V16 A16 st16
  have G16 : n0 ≤ b16 := Nat.le_trans Z15 (Nat.le_of_eq g16.symm)
  have ne_d_b16 : d ≠ b16 := Nat.ne_of_lt (Nat.lt_of_lt_of_le F0_15.lt (Nat.le_of_eq g16.symm))
  have ne_t2_b16 : t2 ≠ b16 := Nat.ne_of_lt (Nat.lt_of_lt_of_le F3_15.lt (Nat.le_of_eq g16.symm))
  have F0_16 := F0_15.ext E16
  have F2_16 := F2_15.ext E16
  have F3_16 := F3_15.ext E16
  have F4_16 := F4_15.ext E16
  have F1_16 := F1_15.ext E16
  have Z16 : n0 ≤ h16.size := Nat.le_trans Z15 E16.1
  have sz16 : h0.size ≤ b16 := Nat.le_trans Kp15.1 (Nat.le_of_eq g16.symm)
  have Kp16 := Kp15.ext E16
  refine own_st (fun zw zk => st16 zw zk) ?_
  obtain ⟨T17, X17, e17, st17⟩ := castY X16 hx hZ hown (hw _ (List.mem_of_getElem? (i := 26) rfl)) e16 (Ins.self A16) (g := (mkF m 22 #[.val (.ref d), .val (.ref o1), .val (.ref t2)] [(.ref b16), (.ref d)])) rfl rfl (hb hby d1_22)
  refine own_st (fun zw zk => st17 zw zk) ?_
  obtain ⟨T18, h18, X18, e18, W18, st18⟩ := putF X17 hx hZ hown (host := "") (Or.inl (hw _ (List.mem_of_getElem? (i := 28) rfl))) Via.refl e17 F2_16 F0_16 (Or.inr ⟨(hw _ (List.mem_of_getElem? (i := 29) rfl)), rfl, hnm⟩) (hw _ (List.mem_of_getElem? (i := 2) rfl)) (ty := (.array .byte)) (by decide) rfl rfl (g := (mkF m 25 #[.val (.ref d), .val (.ref o1), .val (.ref t2)] [(.ref b16), (.ref d)])) rfl rfl (hb hby d1_25)
  have F2_18 := F2_16.same W18
  have N18 := Fr.snoc X18 N15 ge_d
  refine own_st (fun zw zk => st18 zw zk) ?_
  have F0_18 := F0_16.wr W18
  have F3_18 := F3_16.other W18 (Ne.symm ne_d_t2)
  have F4_18 := F4_16.wr W18
  have F1_18 := F1_16.other W18 (Or.inr (slot_ne (Or.inr (hw _ (List.mem_of_getElem? (i := 18) rfl))) (Or.inr (hw _ (List.mem_of_getElem? (i := 29) rfl))) (by decide) (t := (.object "java/lang/String")) (t' := (.array .byte)) (by decide) (by decide)))
  have Vb16_18 := V16.other W18 (Ne.symm ne_d_b16)
  have Ab16_18 := A16.wr W18
  have Z18 : n0 ≤ h18.size := Nat.le_trans Z16 (Keep.of_wr W18).1
  have Kp18 := Kp16.wr W18 (Or.inl (List.mem_of_getElem? (i := 0) rfl))
  subst hG
  obtain ⟨fs, hr, hrun, hended, hW, hsame⟩ := X18.leave (v := none) (fun _ => rfl)
  refine ⟨_, X18.returnOut hx Bd.returns (hb hby d1_28) hr, _, hrun, hended, _, _, rfl, ?_, ⟨_, rfl⟩, hW, hsame.mono (by decide) (by decide)⟩
  show Q_i2 Z d o1 t2 w0 w1 h0 n0 _ T18.heap _
  rw [e18]
  exact ⟨rfl, N18, b16, sz16, Kp18, F0_18, F2_18, Vb16_18, Ab16_18⟩
theorem ef_rm_i3 (m : MethodId) (d : Addr) (o1 : Addr) (t2 : Addr) : entryFrame m #[(.ref d), (.ref o1), (.ref t2)] 3 = mkF m 0 #[.val (.ref d), .val (.ref o1), .val (.ref t2)] [] := by first | (simp [entryFrame, mkF, argsToLocals, Value.category]; done) | rfl
def Q_i3 (Z : State) (d : Addr) (o1 : Addr) (t2 : Addr) (w0 : Int32) (w1 : Int32) (w2 : Int32) (h0 : Heap) (n0 : Nat) (rv : Option Value) (hq : Heap) (Lq : List Loc) : Prop := rv = none ∧ Fr n0 Lq ∧ ∃ tt : Addr, h0.size ≤ tt ∧ Keep h0 hq [d] ∧ Exa Z hq d "com/example/attestrum/attestrum/schemes/der/AlgorithmIdentifier" ∧ Fld Z hq d "com/example/attestrum/attestrum/schemes/der/AlgorithmIdentifier" "parameters" "[B" (.ref tt) ∧ own_L Z hq tt .byte ([(.int w0), (.int w1), (.int w2)]) ∧ Exa Z hq tt "[B"
set_option maxRecDepth 65536 in
set_option maxHeartbeats 40000000 in
theorem rm_i3 (l : Launch) (Z : State) (a0 : Array Value) (hw : ∀ d ∈ tables_1, d.before a0 Z = true) (ws : List Jvm.Cond) (d : Addr) (o1 : Addr) (t2 : Addr) (w0 : Int32) (w1 : Int32) (w2 : Int32) (h0 : Heap) (n0 : Nat) (Z0 : n0 ≤ h0.size) (F0_ : Exa Z h0 d "com/example/attestrum/attestrum/schemes/der/AlgorithmIdentifier") (F1_ : Fld Z h0 d "com/example/attestrum/attestrum/schemes/der/AlgorithmIdentifier" "oid" "Ljava/lang/String;" .null) (F2_ : Fld Z h0 d "com/example/attestrum/attestrum/schemes/der/AlgorithmIdentifier" "parameters" "[B" .null) (F3_ : own_L Z h0 t2 .byte ([(.int w0), (.int w1), (.int w2)])) (F4_ : Exa Z h0 t2 "[B") (ge_d : n0 ≤ d) (ne_d_t2 : d ≠ t2) (hfit : ∀ z ∈ [(Value.int w0), (Value.int w1), (Value.int w2)], fits .byte z = true) :
    MetFree l (⟨"com/example/attestrum/attestrum/schemes/der/AlgorithmIdentifier", "<init>", "(Ljava/lang/String;[B)V"⟩ : MethodName) (head1 (Jvm.Cond.code (⟨"com/example/attestrum/attestrum/schemes/der/AlgorithmIdentifier", "<init>", "(Ljava/lang/String;[B)V"⟩ : MethodName) prog_30_method_1_code 3 none :: ws) ({ frames := 1, cells := 1, slots := 3, locals := 15 } : Room)) (fun za U => za = #[(.ref d), (.ref o1), (.ref t2)] ∧ Z.Warmed39 U.vm ∧ U.heap = h0) (fun _ _ _ _ _ => True) (fun _ U o U' => ∃ rv Lq, o = .returned rv ∧ Q_i3 Z d o1 t2 w0 w1 w2 h0 n0 rv U'.heap Lq ∧ FrameEnd U o U' Lq ({ frames := 1, cells := 1, slots := 3, locals := 15 } : Room).cells ({ frames := 1, cells := 1, slots := 3, locals := 15 } : Room).slots) := by
  refine MetFree.of_bodySF (plainFor_of_name pn_0) hisR ?_
  intro p e s m args below meth c s₁ Bd hml0 hP hK
  obtain ⟨rfl, hZ, hh⟩ := hP
  have hx := Bd.exec
  have hby := Bd.bytes
  have hml : c.maxLocals = 3 := hml0
  have hown : s.vm.findClass "com/example/attestrum/attestrum/schemes/der/AlgorithmIdentifier" = some m.cls := findClass_of_methodNamed Bd.named
  have hnm := (name_of_methodNamed Bd.named Bd.method).1
  have X0 : Stand p l e ({ frames := 1, cells := 1, slots := 3, locals := 15 } : Room) s m #[(.ref d), (.ref o1), (.ref t2)] below meth c s₁ [] 0 0 := Stand.of_body Bd
  have e0 : s₁.heap = h0 := by rw [← hh, Bd.state]; rfl
  have N0 := Fr.nil n0
  refine own_out (own_nm fun G hG => own_st (fun zt zk => castTop (ef_rm_i3 m d o1 t2) zk) ?_)
  show own_Go p e below G (s₁.setTop (mkF m 0 #[.val (.ref d), .val (.ref o1), .val (.ref t2)] []))
  refine own_st (fun zw zk => XS.aloadN X0.here hx rfl (hb hby d1_0) rfl rfl zk) ?_
  obtain ⟨T19, X19, e19, st19⟩ := initO X0 hx hZ hown (hw _ (List.mem_of_getElem? (i := 14) rfl)) (hw _ (List.mem_of_getElem? (i := 15) rfl)) (hw _ (List.mem_of_getElem? (i := 16) rfl)) e0 (g := (mkF m 1 #[.val (.ref d), .val (.ref o1), .val (.ref t2)] [(.ref d)])) rfl (by rw [hml]; rfl) rfl (hb hby d1_1) (by decide) (W := 0) (by show 2 * 0 + _ ≤ _; exact Nat.le_of_eq rfl) (by decide)
  refine own_st (fun zw zk => st19 zw zk) ?_
  refine own_st (fun zw zk => XS.aloadN X19.here hx rfl (hb hby d1_4) rfl rfl zk) ?_
  refine own_st (fun zw zk => XS.aloadN X19.here hx rfl (hb hby d1_5) rfl rfl zk) ?_
  obtain ⟨T20, h20, X20, e20, W20, st20⟩ := putF X19 hx hZ hown (host := "") (Or.inl (hw _ (List.mem_of_getElem? (i := 17) rfl))) Via.refl e19 F1_ F0_ (Or.inr ⟨(hw _ (List.mem_of_getElem? (i := 18) rfl)), rfl, hnm⟩) (hw _ (List.mem_of_getElem? (i := 2) rfl)) (ty := (.object "java/lang/String")) (by decide) rfl rfl (g := (mkF m 6 #[.val (.ref d), .val (.ref o1), .val (.ref t2)] [(.ref o1), (.ref d)])) rfl rfl (hb hby d1_6)
  have F1_20 := F1_.same W20
  have N20 := Fr.snoc X20 N0 ge_d
  refine own_st (fun zw zk => st20 zw zk) ?_
  have F0_20 := F0_.wr W20
  have F2_20 := F2_.other W20 (Or.inr (slot_ne (Or.inr (hw _ (List.mem_of_getElem? (i := 29) rfl))) (Or.inr (hw _ (List.mem_of_getElem? (i := 18) rfl))) (by decide) (t := (.array .byte)) (t' := (.object "java/lang/String")) (by decide) (by decide)))
  have F3_20 := F3_.other W20 (Ne.symm ne_d_t2)
  have F4_20 := F4_.wr W20
  have Z20 : n0 ≤ h20.size := Nat.le_trans Z0 (Keep.of_wr W20).1
  have Kp20 := (Keep.refl h0 [d]).wr W20 (Or.inl (List.mem_of_getElem? (i := 0) rfl))
  refine own_st (fun zw zk => XS.aloadN X20.here hx rfl (hb hby d1_9) rfl rfl zk) ?_
  refine own_st (fun zw zk => XS.aloadN X20.here hx rfl (hb hby d1_10) rfl rfl zk) ?_
  refine own_st (fun zw zk => XS.ifnonnullYes X20.here hx rfl (pc0 := 11) (pc' := 18) rfl (hb hby d1_11) rfl (by decide) (by decide) zk) ?_
  show own_Go p e below G (T20.setTop (mkF m 18 #[.val (.ref d), .val (.ref o1), .val (.ref t2)] [(.ref d)]))
  refine own_st (fun zw zk => XS.aloadN X20.here hx rfl (hb hby d1_18) rfl rfl zk) ?_
  obtain ⟨T21, h21, X21, e21, E21, V21, A21, st21⟩ := own_clone X20 hx hZ hown (hw _ (List.mem_of_getElem? (i := 19) rfl)) (hw _ (List.mem_of_getElem? (i := 20) rfl)) (hw _ (List.mem_of_getElem? (i := 24) rfl)) (hw _ (List.mem_of_getElem? (i := 22) rfl)) (hw _ (List.mem_of_getElem? (i := 23) rfl)) (hw _ (List.mem_of_getElem? (i := 25) rfl)) e20 F3_20 F4_20 hfit (g := (mkF m 19 #[.val (.ref d), .val (.ref o1), .val (.ref t2)] [(.ref t2), (.ref d)])) rfl (by rw [hml]; rfl) rfl (hb hby d1_19) (by decide) (W := 1) (cap := 3) (by show 2 * 0 + _ ≤ _; exact Nat.le_of_eq rfl) (by decide) (Nat.le_refl _) (by decide) (by decide)
  obtain ⟨b21, g21⟩ : ∃ z, z = h20.size := ⟨_, rfl⟩
  rw [← g21] at V21 A21 st21
  have G21 : n0 ≤ b21 := Nat.le_trans Z20 (Nat.le_of_eq g21.symm)
  have ne_d_b21 : d ≠ b21 := Nat.ne_of_lt (Nat.lt_of_lt_of_le F0_20.lt (Nat.le_of_eq g21.symm))
  have ne_t2_b21 : t2 ≠ b21 := Nat.ne_of_lt (Nat.lt_of_lt_of_le F3_20.lt (Nat.le_of_eq g21.symm))
  have F0_21 := F0_20.ext E21
  have F2_21 := F2_20.ext E21
  have F3_21 := F3_20.ext E21
  have F4_21 := F4_20.ext E21
  have F1_21 := F1_20.ext E21
  have Z21 : n0 ≤ h21.size := Nat.le_trans Z20 E21.1
  have sz21 : h0.size ≤ b21 := Nat.le_trans Kp20.1 (Nat.le_of_eq g21.symm)
  have Kp21 := Kp20.ext E21
  refine own_st (fun zw zk => st21 zw zk) ?_
  obtain ⟨T22, X22, e22, st22⟩ := castY X21 hx hZ hown (hw _ (List.mem_of_getElem? (i := 26) rfl)) e21 (Ins.self A21) (g := (mkF m 22 #[.val (.ref d), .val (.ref o1), .val (.ref t2)] [(.ref b21), (.ref d)])) rfl rfl (hb hby d1_22)
  refine own_st (fun zw zk => st22 zw zk) ?_
  obtain ⟨T23, h23, X23, e23, W23, st23⟩ := putF X22 hx hZ hown (host := "") (Or.inl (hw _ (List.mem_of_getElem? (i := 28) rfl))) Via.refl e22 F2_21 F0_21 (Or.inr ⟨(hw _ (List.mem_of_getElem? (i := 29) rfl)), rfl, hnm⟩) (hw _ (List.mem_of_getElem? (i := 2) rfl)) (ty := (.array .byte)) (by decide) rfl rfl (g := (mkF m 25 #[.val (.ref d), .val (.ref o1), .val (.ref t2)] [(.ref b21), (.ref d)])) rfl rfl (hb hby d1_25)
  have F2_23 := F2_21.same W23
  have N23 := Fr.snoc X23 N20 ge_d
  refine own_st (fun zw zk => st23 zw zk) ?_
  have F0_23 := F0_21.wr W23
  have F3_23 := F3_21.other W23 (Ne.symm ne_d_t2)
  have F4_23 := F4_21.wr W23
  have F1_23 := F1_21.other W23 (Or.inr (slot_ne (Or.inr (hw _ (List.mem_of_getElem? (i := 18) rfl))) (Or.inr (hw _ (List.mem_of_getElem? (i := 29) rfl))) (by decide) (t := (.object "java/lang/String")) (t' := (.array .byte)) (by decide) (by decide)))
  have Vb21_23 := V21.other W23 (Ne.symm ne_d_b21)
  have Ab21_23 := A21.wr W23
  have Z23 : n0 ≤ h23.size := Nat.le_trans Z21 (Keep.of_wr W23).1
  have Kp23 := Kp21.wr W23 (Or.inl (List.mem_of_getElem? (i := 0) rfl))
  subst hG
  obtain ⟨fs, hr, hrun, hended, hW, hsame⟩ := X23.leave (v := none) (fun _ => rfl)
  refine ⟨_, X23.returnOut hx Bd.returns (hb hby d1_28) hr, _, hrun, hended, _, _, rfl, ?_, ⟨_, rfl⟩, hW, hsame.mono (by decide) (by decide)⟩
  show Q_i3 Z d o1 t2 w0 w1 w2 h0 n0 _ T23.heap _
  rw [e23]
  exact ⟨rfl, N23, b21, sz21, Kp23, F0_23, F2_23, Vb21_23, Ab21_23⟩
theorem d4_0 : decode prog_30_method_4_code 0 = .ok (.aload_n 0, 1) := by decide +kernel
theorem d4_1 : decode prog_30_method_4_code 1 = .ok (.getfield 19, 3) := by decide +kernel
theorem d4_4 : decode prog_30_method_4_code 4 = .ok (.ifnonnull 7, 3) := by decide +kernel
theorem d4_7 : decode prog_30_method_4_code 7 = .ok (.aconst_null, 1) := by decide +kernel
theorem d4_8 : decode prog_30_method_4_code 8 = .ok (.goto 13, 3) := by decide +kernel
theorem d4_21 : decode prog_30_method_4_code 21 = .ok (.areturn, 1) := by decide +kernel
theorem ef_rm_pn (m : MethodId) (d : Addr) : entryFrame m #[(.ref d)] 1 = mkF m 0 #[.val (.ref d)] [] := by first | (simp [entryFrame, mkF, argsToLocals, Value.category]; done) | rfl
def Q_pn (Z : State) (d : Addr) (h0 : Heap) (n0 : Nat) (rv : Option Value) (hq : Heap) (Lq : List Loc) : Prop := rv = some .null ∧ Fr n0 Lq ∧ hq = h0
set_option maxRecDepth 65536 in
set_option maxHeartbeats 40000000 in
theorem rm_pn (l : Launch) (Z : State) (a0 : Array Value) (hw : ∀ d ∈ tables_1, d.before a0 Z = true) (ws : List Jvm.Cond) (d : Addr) (h0 : Heap) (n0 : Nat) (Z0 : n0 ≤ h0.size) (F0_ : Fld Z h0 d "com/example/attestrum/attestrum/schemes/der/AlgorithmIdentifier" "parameters" "[B" .null) :
    MetFree l (⟨"com/example/attestrum/attestrum/schemes/der/AlgorithmIdentifier", "parameters", "()[B"⟩ : MethodName) (head1 (Jvm.Cond.code (⟨"com/example/attestrum/attestrum/schemes/der/AlgorithmIdentifier", "parameters", "()[B"⟩ : MethodName) prog_30_method_4_code 1 (some (.array .byte)) :: ws) ({ frames := 0, cells := 0, slots := 0, locals := 0 } : Room)) (fun za U => za = #[(.ref d)] ∧ Z.Warmed39 U.vm ∧ U.heap = h0) (fun _ _ _ _ _ => True) (fun _ U o U' => ∃ rv Lq, o = .returned rv ∧ Q_pn Z d h0 n0 rv U'.heap Lq ∧ FrameEnd U o U' Lq ({ frames := 0, cells := 0, slots := 0, locals := 0 } : Room).cells ({ frames := 0, cells := 0, slots := 0, locals := 0 } : Room).slots) := by
  refine MetFree.of_bodySF (plainFor_of_name pn_0) hisR ?_
  intro p e s m args below meth c s₁ Bd hml0 hP hK
  obtain ⟨rfl, hZ, hh⟩ := hP
  have hx := Bd.exec
  have hby := Bd.bytes
  have hml : c.maxLocals = 1 := hml0
  have hown : s.vm.findClass "com/example/attestrum/attestrum/schemes/der/AlgorithmIdentifier" = some m.cls := findClass_of_methodNamed Bd.named
  have hnm := (name_of_methodNamed Bd.named Bd.method).1
  have X0 : Stand p l e ({ frames := 0, cells := 0, slots := 0, locals := 0 } : Room) s m #[(.ref d)] below meth c s₁ [] 0 0 := Stand.of_body Bd
  have e0 : s₁.heap = h0 := by rw [← hh, Bd.state]; rfl
  have N0 := Fr.nil n0
  refine own_out (own_nm fun G hG => own_st (fun zt zk => castTop (ef_rm_pn m d) zk) ?_)
  show own_Go p e below G (s₁.setTop (mkF m 0 #[.val (.ref d)] []))
  refine own_st (fun zw zk => XS.aloadN X0.here hx rfl (hb hby d4_0) rfl rfl zk) ?_
  obtain ⟨T24, X24, e24, st24⟩ := getF X0 hx hZ hown (host := "") (Or.inl (hw _ (List.mem_of_getElem? (i := 28) rfl))) Via.refl e0 F0_ (g := (mkF m 1 #[.val (.ref d)] [(.ref d)])) rfl rfl (hb hby d4_1)
  refine own_st (fun zw zk => st24 zw zk) ?_
  refine own_st (fun zw zk => XS.ifnonnullNo X24.here hx rfl (hb hby d4_4) rfl zk) ?_
  refine own_st (fun zw zk => XS.aconstNull X24.here hx rfl (hb hby d4_7) zk) ?_
  refine own_st (fun zw zk => XS.goto X24.here hx rfl (pc0 := 8) (pc' := 21) rfl (hb hby d4_8) (by decide) (by decide) zk) ?_
  show own_Go p e below G (T24.setTop (mkF m 21 #[.val (.ref d)] [.null]))
  subst hG
  obtain ⟨fs, hr, hrun, hended, hW, hsame⟩ := X24.leave (v := some .null) (fun h => by rw [Bd.returns] at h; cases h)
  refine ⟨_, X24.areturnOut hx rfl Bd.returns rfl (hb hby d4_21) hr, _, hrun, hended, _, _, rfl, ?_, ⟨_, rfl⟩, hW, hsame.mono (by decide) (by decide)⟩
  show Q_pn Z d h0 n0 _ T24.heap _
  rw [e24]
  exact ⟨rfl, N0, rfl⟩
theorem d4_11 : decode prog_30_method_4_code 11 = .ok (.aload_n 0, 1) := by decide +kernel
theorem d4_12 : decode prog_30_method_4_code 12 = .ok (.getfield 19, 3) := by decide +kernel
theorem d4_15 : decode prog_30_method_4_code 15 = .ok (.invokevirtual 13, 3) := by decide +kernel
theorem d4_18 : decode prog_30_method_4_code 18 = .ok (.checkcast 14, 3) := by decide +kernel
theorem ef_rm_p0 (m : MethodId) (d : Addr) : entryFrame m #[(.ref d)] 1 = mkF m 0 #[.val (.ref d)] [] := by first | (simp [entryFrame, mkF, argsToLocals, Value.category]; done) | rfl
def Q_p0 (Z : State) (d : Addr) (t : Addr) (h0 : Heap) (n0 : Nat) (rv : Option Value) (hq : Heap) (Lq : List Loc) : Prop := ∃ bb : Addr, rv = some (.ref bb) ∧ Fr n0 Lq ∧ h0.size ≤ bb ∧ Keep h0 hq [] ∧ own_L Z hq bb .byte ([]) ∧ Exa Z hq bb "[B"
set_option maxRecDepth 65536 in
set_option maxHeartbeats 40000000 in
theorem rm_p0 (l : Launch) (Z : State) (a0 : Array Value) (hw : ∀ d ∈ tables_1, d.before a0 Z = true) (ws : List Jvm.Cond) (d : Addr) (t : Addr) (h0 : Heap) (n0 : Nat) (Z0 : n0 ≤ h0.size) (F0_ : Fld Z h0 d "com/example/attestrum/attestrum/schemes/der/AlgorithmIdentifier" "parameters" "[B" (.ref t)) (F1_ : own_L Z h0 t .byte ([])) (F2_ : Exa Z h0 t "[B") (hfit : ∀ z ∈ [], fits .byte z = true) :
    MetFree l (⟨"com/example/attestrum/attestrum/schemes/der/AlgorithmIdentifier", "parameters", "()[B"⟩ : MethodName) (head1 (Jvm.Cond.code (⟨"com/example/attestrum/attestrum/schemes/der/AlgorithmIdentifier", "parameters", "()[B"⟩ : MethodName) prog_30_method_4_code 1 (some (.array .byte)) :: ws) ({ frames := 1, cells := 1, slots := 0, locals := 14 } : Room)) (fun za U => za = #[(.ref d)] ∧ Z.Warmed39 U.vm ∧ U.heap = h0) (fun _ _ _ _ _ => True) (fun _ U o U' => ∃ rv Lq, o = .returned rv ∧ Q_p0 Z d t h0 n0 rv U'.heap Lq ∧ FrameEnd U o U' Lq ({ frames := 1, cells := 1, slots := 0, locals := 14 } : Room).cells ({ frames := 1, cells := 1, slots := 0, locals := 14 } : Room).slots) := by
  refine MetFree.of_bodySF (plainFor_of_name pn_0) hisR ?_
  intro p e s m args below meth c s₁ Bd hml0 hP hK
  obtain ⟨rfl, hZ, hh⟩ := hP
  have hx := Bd.exec
  have hby := Bd.bytes
  have hml : c.maxLocals = 1 := hml0
  have hown : s.vm.findClass "com/example/attestrum/attestrum/schemes/der/AlgorithmIdentifier" = some m.cls := findClass_of_methodNamed Bd.named
  have hnm := (name_of_methodNamed Bd.named Bd.method).1
  have X0 : Stand p l e ({ frames := 1, cells := 1, slots := 0, locals := 14 } : Room) s m #[(.ref d)] below meth c s₁ [] 0 0 := Stand.of_body Bd
  have e0 : s₁.heap = h0 := by rw [← hh, Bd.state]; rfl
  have N0 := Fr.nil n0
  refine own_out (own_nm fun G hG => own_st (fun zt zk => castTop (ef_rm_p0 m d) zk) ?_)
  show own_Go p e below G (s₁.setTop (mkF m 0 #[.val (.ref d)] []))
  refine own_st (fun zw zk => XS.aloadN X0.here hx rfl (hb hby d4_0) rfl rfl zk) ?_
  obtain ⟨T25, X25, e25, st25⟩ := getF X0 hx hZ hown (host := "") (Or.inl (hw _ (List.mem_of_getElem? (i := 28) rfl))) Via.refl e0 F0_ (g := (mkF m 1 #[.val (.ref d)] [(.ref d)])) rfl rfl (hb hby d4_1)
  refine own_st (fun zw zk => st25 zw zk) ?_
  refine own_st (fun zw zk => XS.ifnonnullYes X25.here hx rfl (pc0 := 4) (pc' := 11) rfl (hb hby d4_4) rfl (by decide) (by decide) zk) ?_
  refine own_st (fun zw zk => XS.aloadN X25.here hx rfl (hb hby d4_11) rfl rfl zk) ?_
  obtain ⟨T26, X26, e26, st26⟩ := getF X25 hx hZ hown (host := "") (Or.inl (hw _ (List.mem_of_getElem? (i := 28) rfl))) Via.refl e25 F0_ (g := (mkF m 12 #[.val (.ref d)] [(.ref d)])) rfl rfl (hb hby d4_12)
  refine own_st (fun zw zk => st26 zw zk) ?_
  obtain ⟨T27, h27, X27, e27, E27, V27, A27, st27⟩ := own_clone X26 hx hZ hown (hw _ (List.mem_of_getElem? (i := 19) rfl)) (hw _ (List.mem_of_getElem? (i := 20) rfl)) (hw _ (List.mem_of_getElem? (i := 24) rfl)) (hw _ (List.mem_of_getElem? (i := 22) rfl)) (hw _ (List.mem_of_getElem? (i := 23) rfl)) (hw _ (List.mem_of_getElem? (i := 25) rfl)) e26 F1_ F2_ hfit (g := (mkF m 15 #[.val (.ref d)] [(.ref t)])) rfl (by rw [hml]; rfl) rfl (hb hby d4_15) (by decide) (W := 0) (cap := 0) (by show 2 * 0 + _ ≤ _; exact Nat.le_of_eq rfl) (by decide) (Nat.le_refl _) (by decide) (by decide)
  obtain ⟨b27, g27⟩ : ∃ z, z = h0.size := ⟨_, rfl⟩
  rw [← g27] at V27 A27 st27
  have G27 : n0 ≤ b27 := Nat.le_trans Z0 (Nat.le_of_eq g27.symm)
  have ne_d_b27 : d ≠ b27 := Nat.ne_of_lt (Nat.lt_of_lt_of_le F0_.lt (Nat.le_of_eq g27.symm))
  have ne_t_b27 : t ≠ b27 := Nat.ne_of_lt (Nat.lt_of_lt_of_le F1_.lt (Nat.le_of_eq g27.symm))
  have F0_27 := F0_.ext E27
  have F1_27 := F1_.ext E27
  have F2_27 := F2_.ext E27
  have Z27 : n0 ≤ h27.size := Nat.le_trans Z0 E27.1
  have sz27 : h0.size ≤ b27 := Nat.le_trans (Keep.refl h0 []).1 (Nat.le_of_eq g27.symm)
  have Kp27 := (Keep.refl h0 []).ext E27
  refine own_st (fun zw zk => st27 zw zk) ?_
  obtain ⟨T28, X28, e28, st28⟩ := castY X27 hx hZ hown (hw _ (List.mem_of_getElem? (i := 26) rfl)) e27 (Ins.self A27) (g := (mkF m 18 #[.val (.ref d)] [(.ref b27)])) rfl rfl (hb hby d4_18)
  refine own_st (fun zw zk => st28 zw zk) ?_
  subst hG
  obtain ⟨fs, hr, hrun, hended, hW, hsame⟩ := X28.leave (v := some (.ref b27)) (fun h => by rw [Bd.returns] at h; cases h)
  refine ⟨_, X28.areturnOut hx rfl Bd.returns rfl (hb hby d4_21) hr, _, hrun, hended, _, _, rfl, ?_, ⟨_, rfl⟩, hW, hsame.mono (by decide) (by decide)⟩
  show Q_p0 Z d t h0 n0 _ T28.heap _
  rw [e28]
  exact ⟨b27, rfl, N0, sz27, Kp27, V27, A27⟩
theorem ef_rm_p1 (m : MethodId) (d : Addr) : entryFrame m #[(.ref d)] 1 = mkF m 0 #[.val (.ref d)] [] := by first | (simp [entryFrame, mkF, argsToLocals, Value.category]; done) | rfl
def Q_p1 (Z : State) (d : Addr) (t : Addr) (w0 : Int32) (h0 : Heap) (n0 : Nat) (rv : Option Value) (hq : Heap) (Lq : List Loc) : Prop := ∃ bb : Addr, rv = some (.ref bb) ∧ Fr n0 Lq ∧ h0.size ≤ bb ∧ Keep h0 hq [] ∧ own_L Z hq bb .byte ([(.int w0)]) ∧ Exa Z hq bb "[B"
set_option maxRecDepth 65536 in
set_option maxHeartbeats 40000000 in
theorem rm_p1 (l : Launch) (Z : State) (a0 : Array Value) (hw : ∀ d ∈ tables_1, d.before a0 Z = true) (ws : List Jvm.Cond) (d : Addr) (t : Addr) (w0 : Int32) (h0 : Heap) (n0 : Nat) (Z0 : n0 ≤ h0.size) (F0_ : Fld Z h0 d "com/example/attestrum/attestrum/schemes/der/AlgorithmIdentifier" "parameters" "[B" (.ref t)) (F1_ : own_L Z h0 t .byte ([(.int w0)])) (F2_ : Exa Z h0 t "[B") (hfit : ∀ z ∈ [(Value.int w0)], fits .byte z = true) :
    MetFree l (⟨"com/example/attestrum/attestrum/schemes/der/AlgorithmIdentifier", "parameters", "()[B"⟩ : MethodName) (head1 (Jvm.Cond.code (⟨"com/example/attestrum/attestrum/schemes/der/AlgorithmIdentifier", "parameters", "()[B"⟩ : MethodName) prog_30_method_4_code 1 (some (.array .byte)) :: ws) ({ frames := 1, cells := 1, slots := 1, locals := 14 } : Room)) (fun za U => za = #[(.ref d)] ∧ Z.Warmed39 U.vm ∧ U.heap = h0) (fun _ _ _ _ _ => True) (fun _ U o U' => ∃ rv Lq, o = .returned rv ∧ Q_p1 Z d t w0 h0 n0 rv U'.heap Lq ∧ FrameEnd U o U' Lq ({ frames := 1, cells := 1, slots := 1, locals := 14 } : Room).cells ({ frames := 1, cells := 1, slots := 1, locals := 14 } : Room).slots) := by
  refine MetFree.of_bodySF (plainFor_of_name pn_0) hisR ?_
  intro p e s m args below meth c s₁ Bd hml0 hP hK
  obtain ⟨rfl, hZ, hh⟩ := hP
  have hx := Bd.exec
  have hby := Bd.bytes
  have hml : c.maxLocals = 1 := hml0
  have hown : s.vm.findClass "com/example/attestrum/attestrum/schemes/der/AlgorithmIdentifier" = some m.cls := findClass_of_methodNamed Bd.named
  have hnm := (name_of_methodNamed Bd.named Bd.method).1
  have X0 : Stand p l e ({ frames := 1, cells := 1, slots := 1, locals := 14 } : Room) s m #[(.ref d)] below meth c s₁ [] 0 0 := Stand.of_body Bd
  have e0 : s₁.heap = h0 := by rw [← hh, Bd.state]; rfl
  have N0 := Fr.nil n0
  refine own_out (own_nm fun G hG => own_st (fun zt zk => castTop (ef_rm_p1 m d) zk) ?_)
  show own_Go p e below G (s₁.setTop (mkF m 0 #[.val (.ref d)] []))
  refine own_st (fun zw zk => XS.aloadN X0.here hx rfl (hb hby d4_0) rfl rfl zk) ?_
  obtain ⟨T29, X29, e29, st29⟩ := getF X0 hx hZ hown (host := "") (Or.inl (hw _ (List.mem_of_getElem? (i := 28) rfl))) Via.refl e0 F0_ (g := (mkF m 1 #[.val (.ref d)] [(.ref d)])) rfl rfl (hb hby d4_1)
  refine own_st (fun zw zk => st29 zw zk) ?_
  refine own_st (fun zw zk => XS.ifnonnullYes X29.here hx rfl (pc0 := 4) (pc' := 11) rfl (hb hby d4_4) rfl (by decide) (by decide) zk) ?_
  refine own_st (fun zw zk => XS.aloadN X29.here hx rfl (hb hby d4_11) rfl rfl zk) ?_
  obtain ⟨T30, X30, e30, st30⟩ := getF X29 hx hZ hown (host := "") (Or.inl (hw _ (List.mem_of_getElem? (i := 28) rfl))) Via.refl e29 F0_ (g := (mkF m 12 #[.val (.ref d)] [(.ref d)])) rfl rfl (hb hby d4_12)
  refine own_st (fun zw zk => st30 zw zk) ?_
  obtain ⟨T31, h31, X31, e31, E31, V31, A31, st31⟩ := own_clone X30 hx hZ hown (hw _ (List.mem_of_getElem? (i := 19) rfl)) (hw _ (List.mem_of_getElem? (i := 20) rfl)) (hw _ (List.mem_of_getElem? (i := 24) rfl)) (hw _ (List.mem_of_getElem? (i := 22) rfl)) (hw _ (List.mem_of_getElem? (i := 23) rfl)) (hw _ (List.mem_of_getElem? (i := 25) rfl)) e30 F1_ F2_ hfit (g := (mkF m 15 #[.val (.ref d)] [(.ref t)])) rfl (by rw [hml]; rfl) rfl (hb hby d4_15) (by decide) (W := 0) (cap := 1) (by show 2 * 0 + _ ≤ _; exact Nat.le_of_eq rfl) (by decide) (Nat.le_refl _) (by decide) (by decide)
  obtain ⟨b31, g31⟩ : ∃ z, z = h0.size := ⟨_, rfl⟩
  rw [← g31] at V31 A31 st31
  have G31 : n0 ≤ b31 := Nat.le_trans Z0 (Nat.le_of_eq g31.symm)
  have ne_d_b31 : d ≠ b31 := Nat.ne_of_lt (Nat.lt_of_lt_of_le F0_.lt (Nat.le_of_eq g31.symm))
  have ne_t_b31 : t ≠ b31 := Nat.ne_of_lt (Nat.lt_of_lt_of_le F1_.lt (Nat.le_of_eq g31.symm))
  have F0_31 := F0_.ext E31
  have F1_31 := F1_.ext E31
  have F2_31 := F2_.ext E31
  have Z31 : n0 ≤ h31.size := Nat.le_trans Z0 E31.1
  have sz31 : h0.size ≤ b31 := Nat.le_trans (Keep.refl h0 []).1 (Nat.le_of_eq g31.symm)
  have Kp31 := (Keep.refl h0 []).ext E31
  refine own_st (fun zw zk => st31 zw zk) ?_
  obtain ⟨T32, X32, e32, st32⟩ := castY X31 hx hZ hown (hw _ (List.mem_of_getElem? (i := 26) rfl)) e31 (Ins.self A31) (g := (mkF m 18 #[.val (.ref d)] [(.ref b31)])) rfl rfl (hb hby d4_18)
  refine own_st (fun zw zk => st32 zw zk) ?_
  subst hG
  obtain ⟨fs, hr, hrun, hended, hW, hsame⟩ := X32.leave (v := some (.ref b31)) (fun h => by rw [Bd.returns] at h; cases h)
  refine ⟨_, X32.areturnOut hx rfl Bd.returns rfl (hb hby d4_21) hr, _, hrun, hended, _, _, rfl, ?_, ⟨_, rfl⟩, hW, hsame.mono (by decide) (by decide)⟩
  show Q_p1 Z d t w0 h0 n0 _ T32.heap _
  rw [e32]
  exact ⟨b31, rfl, N0, sz31, Kp31, V31, A31⟩
theorem ef_rm_p2 (m : MethodId) (d : Addr) : entryFrame m #[(.ref d)] 1 = mkF m 0 #[.val (.ref d)] [] := by first | (simp [entryFrame, mkF, argsToLocals, Value.category]; done) | rfl
def Q_p2 (Z : State) (d : Addr) (t : Addr) (w0 : Int32) (w1 : Int32) (h0 : Heap) (n0 : Nat) (rv : Option Value) (hq : Heap) (Lq : List Loc) : Prop := ∃ bb : Addr, rv = some (.ref bb) ∧ Fr n0 Lq ∧ h0.size ≤ bb ∧ Keep h0 hq [] ∧ own_L Z hq bb .byte ([(.int w0), (.int w1)]) ∧ Exa Z hq bb "[B"
set_option maxRecDepth 65536 in
set_option maxHeartbeats 40000000 in
theorem rm_p2 (l : Launch) (Z : State) (a0 : Array Value) (hw : ∀ d ∈ tables_1, d.before a0 Z = true) (ws : List Jvm.Cond) (d : Addr) (t : Addr) (w0 : Int32) (w1 : Int32) (h0 : Heap) (n0 : Nat) (Z0 : n0 ≤ h0.size) (F0_ : Fld Z h0 d "com/example/attestrum/attestrum/schemes/der/AlgorithmIdentifier" "parameters" "[B" (.ref t)) (F1_ : own_L Z h0 t .byte ([(.int w0), (.int w1)])) (F2_ : Exa Z h0 t "[B") (hfit : ∀ z ∈ [(Value.int w0), (Value.int w1)], fits .byte z = true) :
    MetFree l (⟨"com/example/attestrum/attestrum/schemes/der/AlgorithmIdentifier", "parameters", "()[B"⟩ : MethodName) (head1 (Jvm.Cond.code (⟨"com/example/attestrum/attestrum/schemes/der/AlgorithmIdentifier", "parameters", "()[B"⟩ : MethodName) prog_30_method_4_code 1 (some (.array .byte)) :: ws) ({ frames := 1, cells := 1, slots := 2, locals := 14 } : Room)) (fun za U => za = #[(.ref d)] ∧ Z.Warmed39 U.vm ∧ U.heap = h0) (fun _ _ _ _ _ => True) (fun _ U o U' => ∃ rv Lq, o = .returned rv ∧ Q_p2 Z d t w0 w1 h0 n0 rv U'.heap Lq ∧ FrameEnd U o U' Lq ({ frames := 1, cells := 1, slots := 2, locals := 14 } : Room).cells ({ frames := 1, cells := 1, slots := 2, locals := 14 } : Room).slots) := by
  refine MetFree.of_bodySF (plainFor_of_name pn_0) hisR ?_
  intro p e s m args below meth c s₁ Bd hml0 hP hK
  obtain ⟨rfl, hZ, hh⟩ := hP
  have hx := Bd.exec
  have hby := Bd.bytes
  have hml : c.maxLocals = 1 := hml0
  have hown : s.vm.findClass "com/example/attestrum/attestrum/schemes/der/AlgorithmIdentifier" = some m.cls := findClass_of_methodNamed Bd.named
  have hnm := (name_of_methodNamed Bd.named Bd.method).1
  have X0 : Stand p l e ({ frames := 1, cells := 1, slots := 2, locals := 14 } : Room) s m #[(.ref d)] below meth c s₁ [] 0 0 := Stand.of_body Bd
  have e0 : s₁.heap = h0 := by rw [← hh, Bd.state]; rfl
  have N0 := Fr.nil n0
  refine own_out (own_nm fun G hG => own_st (fun zt zk => castTop (ef_rm_p2 m d) zk) ?_)
  show own_Go p e below G (s₁.setTop (mkF m 0 #[.val (.ref d)] []))
  refine own_st (fun zw zk => XS.aloadN X0.here hx rfl (hb hby d4_0) rfl rfl zk) ?_
  obtain ⟨T33, X33, e33, st33⟩ := getF X0 hx hZ hown (host := "") (Or.inl (hw _ (List.mem_of_getElem? (i := 28) rfl))) Via.refl e0 F0_ (g := (mkF m 1 #[.val (.ref d)] [(.ref d)])) rfl rfl (hb hby d4_1)
  refine own_st (fun zw zk => st33 zw zk) ?_
  refine own_st (fun zw zk => XS.ifnonnullYes X33.here hx rfl (pc0 := 4) (pc' := 11) rfl (hb hby d4_4) rfl (by decide) (by decide) zk) ?_
  refine own_st (fun zw zk => XS.aloadN X33.here hx rfl (hb hby d4_11) rfl rfl zk) ?_
  obtain ⟨T34, X34, e34, st34⟩ := getF X33 hx hZ hown (host := "") (Or.inl (hw _ (List.mem_of_getElem? (i := 28) rfl))) Via.refl e33 F0_ (g := (mkF m 12 #[.val (.ref d)] [(.ref d)])) rfl rfl (hb hby d4_12)
  refine own_st (fun zw zk => st34 zw zk) ?_
  obtain ⟨T35, h35, X35, e35, E35, V35, A35, st35⟩ := own_clone X34 hx hZ hown (hw _ (List.mem_of_getElem? (i := 19) rfl)) (hw _ (List.mem_of_getElem? (i := 20) rfl)) (hw _ (List.mem_of_getElem? (i := 24) rfl)) (hw _ (List.mem_of_getElem? (i := 22) rfl)) (hw _ (List.mem_of_getElem? (i := 23) rfl)) (hw _ (List.mem_of_getElem? (i := 25) rfl)) e34 F1_ F2_ hfit (g := (mkF m 15 #[.val (.ref d)] [(.ref t)])) rfl (by rw [hml]; rfl) rfl (hb hby d4_15) (by decide) (W := 0) (cap := 2) (by show 2 * 0 + _ ≤ _; exact Nat.le_of_eq rfl) (by decide) (Nat.le_refl _) (by decide) (by decide)
  obtain ⟨b35, g35⟩ : ∃ z, z = h0.size := ⟨_, rfl⟩
  rw [← g35] at V35 A35 st35
  have G35 : n0 ≤ b35 := Nat.le_trans Z0 (Nat.le_of_eq g35.symm)
  have ne_d_b35 : d ≠ b35 := Nat.ne_of_lt (Nat.lt_of_lt_of_le F0_.lt (Nat.le_of_eq g35.symm))
  have ne_t_b35 : t ≠ b35 := Nat.ne_of_lt (Nat.lt_of_lt_of_le F1_.lt (Nat.le_of_eq g35.symm))
  have F0_35 := F0_.ext E35
  have F1_35 := F1_.ext E35
  have F2_35 := F2_.ext E35
  have Z35 : n0 ≤ h35.size := Nat.le_trans Z0 E35.1
  have sz35 : h0.size ≤ b35 := Nat.le_trans (Keep.refl h0 []).1 (Nat.le_of_eq g35.symm)
  have Kp35 := (Keep.refl h0 []).ext E35
  refine own_st (fun zw zk => st35 zw zk) ?_
  obtain ⟨T36, X36, e36, st36⟩ := castY X35 hx hZ hown (hw _ (List.mem_of_getElem? (i := 26) rfl)) e35 (Ins.self A35) (g := (mkF m 18 #[.val (.ref d)] [(.ref b35)])) rfl rfl (hb hby d4_18)
  refine own_st (fun zw zk => st36 zw zk) ?_
  subst hG
  obtain ⟨fs, hr, hrun, hended, hW, hsame⟩ := X36.leave (v := some (.ref b35)) (fun h => by rw [Bd.returns] at h; cases h)
  refine ⟨_, X36.areturnOut hx rfl Bd.returns rfl (hb hby d4_21) hr, _, hrun, hended, _, _, rfl, ?_, ⟨_, rfl⟩, hW, hsame.mono (by decide) (by decide)⟩
  show Q_p2 Z d t w0 w1 h0 n0 _ T36.heap _
  rw [e36]
  exact ⟨b35, rfl, N0, sz35, Kp35, V35, A35⟩
theorem ef_rm_p3 (m : MethodId) (d : Addr) : entryFrame m #[(.ref d)] 1 = mkF m 0 #[.val (.ref d)] [] := by first | (simp [entryFrame, mkF, argsToLocals, Value.category]; done) | rfl
def Q_p3 (Z : State) (d : Addr) (t : Addr) (w0 : Int32) (w1 : Int32) (w2 : Int32) (h0 : Heap) (n0 : Nat) (rv : Option Value) (hq : Heap) (Lq : List Loc) : Prop := ∃ bb : Addr, rv = some (.ref bb) ∧ Fr n0 Lq ∧ h0.size ≤ bb ∧ Keep h0 hq [] ∧ own_L Z hq bb .byte ([(.int w0), (.int w1), (.int w2)]) ∧ Exa Z hq bb "[B"
set_option maxRecDepth 65536 in
set_option maxHeartbeats 40000000 in
theorem rm_p3 (l : Launch) (Z : State) (a0 : Array Value) (hw : ∀ d ∈ tables_1, d.before a0 Z = true) (ws : List Jvm.Cond) (d : Addr) (t : Addr) (w0 : Int32) (w1 : Int32) (w2 : Int32) (h0 : Heap) (n0 : Nat) (Z0 : n0 ≤ h0.size) (F0_ : Fld Z h0 d "com/example/attestrum/attestrum/schemes/der/AlgorithmIdentifier" "parameters" "[B" (.ref t)) (F1_ : own_L Z h0 t .byte ([(.int w0), (.int w1), (.int w2)])) (F2_ : Exa Z h0 t "[B") (hfit : ∀ z ∈ [(Value.int w0), (Value.int w1), (Value.int w2)], fits .byte z = true) :
    MetFree l (⟨"com/example/attestrum/attestrum/schemes/der/AlgorithmIdentifier", "parameters", "()[B"⟩ : MethodName) (head1 (Jvm.Cond.code (⟨"com/example/attestrum/attestrum/schemes/der/AlgorithmIdentifier", "parameters", "()[B"⟩ : MethodName) prog_30_method_4_code 1 (some (.array .byte)) :: ws) ({ frames := 1, cells := 1, slots := 3, locals := 14 } : Room)) (fun za U => za = #[(.ref d)] ∧ Z.Warmed39 U.vm ∧ U.heap = h0) (fun _ _ _ _ _ => True) (fun _ U o U' => ∃ rv Lq, o = .returned rv ∧ Q_p3 Z d t w0 w1 w2 h0 n0 rv U'.heap Lq ∧ FrameEnd U o U' Lq ({ frames := 1, cells := 1, slots := 3, locals := 14 } : Room).cells ({ frames := 1, cells := 1, slots := 3, locals := 14 } : Room).slots) := by
  refine MetFree.of_bodySF (plainFor_of_name pn_0) hisR ?_
  intro p e s m args below meth c s₁ Bd hml0 hP hK
  obtain ⟨rfl, hZ, hh⟩ := hP
  have hx := Bd.exec
  have hby := Bd.bytes
  have hml : c.maxLocals = 1 := hml0
  have hown : s.vm.findClass "com/example/attestrum/attestrum/schemes/der/AlgorithmIdentifier" = some m.cls := findClass_of_methodNamed Bd.named
  have hnm := (name_of_methodNamed Bd.named Bd.method).1
  have X0 : Stand p l e ({ frames := 1, cells := 1, slots := 3, locals := 14 } : Room) s m #[(.ref d)] below meth c s₁ [] 0 0 := Stand.of_body Bd
  have e0 : s₁.heap = h0 := by rw [← hh, Bd.state]; rfl
  have N0 := Fr.nil n0
  refine own_out (own_nm fun G hG => own_st (fun zt zk => castTop (ef_rm_p3 m d) zk) ?_)
  show own_Go p e below G (s₁.setTop (mkF m 0 #[.val (.ref d)] []))
  refine own_st (fun zw zk => XS.aloadN X0.here hx rfl (hb hby d4_0) rfl rfl zk) ?_
  obtain ⟨T37, X37, e37, st37⟩ := getF X0 hx hZ hown (host := "") (Or.inl (hw _ (List.mem_of_getElem? (i := 28) rfl))) Via.refl e0 F0_ (g := (mkF m 1 #[.val (.ref d)] [(.ref d)])) rfl rfl (hb hby d4_1)
  refine own_st (fun zw zk => st37 zw zk) ?_
  refine own_st (fun zw zk => XS.ifnonnullYes X37.here hx rfl (pc0 := 4) (pc' := 11) rfl (hb hby d4_4) rfl (by decide) (by decide) zk) ?_
  refine own_st (fun zw zk => XS.aloadN X37.here hx rfl (hb hby d4_11) rfl rfl zk) ?_
  obtain ⟨T38, X38, e38, st38⟩ := getF X37 hx hZ hown (host := "") (Or.inl (hw _ (List.mem_of_getElem? (i := 28) rfl))) Via.refl e37 F0_ (g := (mkF m 12 #[.val (.ref d)] [(.ref d)])) rfl rfl (hb hby d4_12)
  refine own_st (fun zw zk => st38 zw zk) ?_
  obtain ⟨T39, h39, X39, e39, E39, V39, A39, st39⟩ := own_clone X38 hx hZ hown (hw _ (List.mem_of_getElem? (i := 19) rfl)) (hw _ (List.mem_of_getElem? (i := 20) rfl)) (hw _ (List.mem_of_getElem? (i := 24) rfl)) (hw _ (List.mem_of_getElem? (i := 22) rfl)) (hw _ (List.mem_of_getElem? (i := 23) rfl)) (hw _ (List.mem_of_getElem? (i := 25) rfl)) e38 F1_ F2_ hfit (g := (mkF m 15 #[.val (.ref d)] [(.ref t)])) rfl (by rw [hml]; rfl) rfl (hb hby d4_15) (by decide) (W := 0) (cap := 3) (by show 2 * 0 + _ ≤ _; exact Nat.le_of_eq rfl) (by decide) (Nat.le_refl _) (by decide) (by decide)
  obtain ⟨b39, g39⟩ : ∃ z, z = h0.size := ⟨_, rfl⟩
  rw [← g39] at V39 A39 st39
  have G39 : n0 ≤ b39 := Nat.le_trans Z0 (Nat.le_of_eq g39.symm)
  have ne_d_b39 : d ≠ b39 := Nat.ne_of_lt (Nat.lt_of_lt_of_le F0_.lt (Nat.le_of_eq g39.symm))
  have ne_t_b39 : t ≠ b39 := Nat.ne_of_lt (Nat.lt_of_lt_of_le F1_.lt (Nat.le_of_eq g39.symm))
  have F0_39 := F0_.ext E39
  have F1_39 := F1_.ext E39
  have F2_39 := F2_.ext E39
  have Z39 : n0 ≤ h39.size := Nat.le_trans Z0 E39.1
  have sz39 : h0.size ≤ b39 := Nat.le_trans (Keep.refl h0 []).1 (Nat.le_of_eq g39.symm)
  have Kp39 := (Keep.refl h0 []).ext E39
  refine own_st (fun zw zk => st39 zw zk) ?_
  obtain ⟨T40, X40, e40, st40⟩ := castY X39 hx hZ hown (hw _ (List.mem_of_getElem? (i := 26) rfl)) e39 (Ins.self A39) (g := (mkF m 18 #[.val (.ref d)] [(.ref b39)])) rfl rfl (hb hby d4_18)
  refine own_st (fun zw zk => st40 zw zk) ?_
  subst hG
  obtain ⟨fs, hr, hrun, hended, hW, hsame⟩ := X40.leave (v := some (.ref b39)) (fun h => by rw [Bd.returns] at h; cases h)
  refine ⟨_, X40.areturnOut hx rfl Bd.returns rfl (hb hby d4_21) hr, _, hrun, hended, _, _, rfl, ?_, ⟨_, rfl⟩, hW, hsame.mono (by decide) (by decide)⟩
  show Q_p3 Z d t w0 w1 w2 h0 n0 _ T40.heap _
  rw [e40]
  exact ⟨b39, rfl, N0, sz39, Kp39, V39, A39⟩
theorem pn_1 : plainName "com/example/attestrum/attestrum/schemes/der/AlgorithmIdentifierParametersPinLaw" = true := by first | (simp [plainName, overriddenIn]; done) | decide +kernel
theorem d3_0 : decode method_3_code 0 = .ok (.iload_n 1, 1) := by decide +kernel
theorem d3_1 : decode method_3_code 1 = .ok (.ifCond .le 10, 3) := by decide +kernel
theorem d3_11 : decode method_3_code 11 = .ok (.iload_n 1, 1) := by decide +kernel
theorem d3_12 : decode method_3_code 12 = .ok (.iconst 1, 1) := by decide +kernel
theorem d3_13 : decode method_3_code 13 = .ok (.if_icmp .le 10, 3) := by decide +kernel
theorem d3_23 : decode method_3_code 23 = .ok (.iload_n 1, 1) := by decide +kernel
theorem d3_24 : decode method_3_code 24 = .ok (.iconst 2, 1) := by decide +kernel
theorem d3_25 : decode method_3_code 25 = .ok (.if_icmp .le 11, 3) := by decide +kernel
theorem d3_36 : decode method_3_code 36 = .ok (.return_, 1) := by decide +kernel
theorem ef_rm_s0 (m : MethodId) (a0 : Addr) (p1 : Int32) (p2 : Int32) (p3 : Int32) (p4 : Int32) : entryFrame m #[(.ref a0), (.int p1), (.int p2), (.int p3), (.int p4)] 5 = mkF m 0 #[.val (.ref a0), .val (.int p1), .val (.int p2), .val (.int p3), .val (.int p4)] [] := by first | (simp [entryFrame, mkF, argsToLocals, Value.category]; done) | rfl
def Q_s0 (Z : State) (a0 : Addr) (p1 : Int32) (p2 : Int32) (p3 : Int32) (p4 : Int32) (h0 : Heap) (n0 : Nat) (rv : Option Value) (hq : Heap) (Lq : List Loc) : Prop := rv = none ∧ Fr n0 Lq ∧ Keep h0 hq [a0] ∧ own_L Z hq a0 .byte ([])
set_option maxRecDepth 65536 in
set_option maxHeartbeats 40000000 in
theorem rm_s0 (l : Launch) (Z : State) (a0 : Array Value) (hw : ∀ d ∈ tables_1, d.before a0 Z = true) (ws : List Jvm.Cond) (a0 : Addr) (p1 : Int32) (p2 : Int32) (p3 : Int32) (p4 : Int32) (h0 : Heap) (n0 : Nat) (Z0 : n0 ≤ h0.size) (F0_ : own_L Z h0 a0 .byte ([])) (ge_a0 : n0 ≤ a0) (hn : p1 = (0 : Int32)) :
    MetFree l (⟨"com/example/attestrum/attestrum/schemes/der/AlgorithmIdentifierParametersPinLaw", "spoil", "([BIIII)V"⟩ : MethodName) (head1 (Jvm.Cond.code (⟨"com/example/attestrum/attestrum/schemes/der/AlgorithmIdentifierParametersPinLaw", "spoil", "([BIIII)V"⟩ : MethodName) method_3_code 5 none :: ws) ({ frames := 0, cells := 0, slots := 0, locals := 0 } : Room)) (fun za U => za = #[(.ref a0), (.int p1), (.int p2), (.int p3), (.int p4)] ∧ Z.Warmed39 U.vm ∧ U.heap = h0) (fun _ _ _ _ _ => True) (fun _ U o U' => ∃ rv Lq, o = .returned rv ∧ Q_s0 Z a0 p1 p2 p3 p4 h0 n0 rv U'.heap Lq ∧ FrameEnd U o U' Lq ({ frames := 0, cells := 0, slots := 0, locals := 0 } : Room).cells ({ frames := 0, cells := 0, slots := 0, locals := 0 } : Room).slots) := by
  refine MetFree.of_bodySF (plainFor_of_name pn_1) hisR ?_
  intro p e s m args below meth c s₁ Bd hml0 hP hK
  obtain ⟨rfl, hZ, hh⟩ := hP
  have hx := Bd.exec
  have hby := Bd.bytes
  have hml : c.maxLocals = 5 := hml0
  have hown : s.vm.findClass "com/example/attestrum/attestrum/schemes/der/AlgorithmIdentifierParametersPinLaw" = some m.cls := findClass_of_methodNamed Bd.named
  have hnm := (name_of_methodNamed Bd.named Bd.method).1
  have X0 : Stand p l e ({ frames := 0, cells := 0, slots := 0, locals := 0 } : Room) s m #[(.ref a0), (.int p1), (.int p2), (.int p3), (.int p4)] below meth c s₁ [] 0 0 := Stand.of_body Bd
  have e0 : s₁.heap = h0 := by rw [← hh, Bd.state]; rfl
  have N0 := Fr.nil n0
  refine own_out (own_nm fun G hG => own_st (fun zt zk => castTop (ef_rm_s0 m a0 p1 p2 p3 p4) zk) ?_)
  show own_Go p e below G (s₁.setTop (mkF m 0 #[.val (.ref a0), .val (.int p1), .val (.int p2), .val (.int p3), .val (.int p4)] []))
  rw [hn]
  refine own_st (fun zw zk => XS.iloadN X0.here hx rfl (hb hby d3_0) rfl zk) ?_
  refine own_st (fun zw zk => XS.ifYes X0.here hx rfl (pc0 := 1) (pc' := 11) rfl (hb hby d3_1) rfl ((if0 _ _).trans (flt (by decide : ¬ ((0 : Int32) < (0 : Int32)))).2.2.2) (by decide) (by decide) zk) ?_
  refine own_st (fun zw zk => XS.iloadN X0.here hx rfl (hb hby d3_11) rfl zk) ?_
  refine own_st (fun zw zk => XS.iconst X0.here hx rfl (hb hby d3_12) zk) ?_
  refine own_st (fun zw zk => XS.icmpYes X0.here hx rfl (pc0 := 13) (pc' := 23) rfl (hb hby d3_13) rfl (flt (by decide : ¬ ((1 : Int32) < (0 : Int32)))).2.2.2 (by decide) (by decide) zk) ?_
  refine own_st (fun zw zk => XS.iloadN X0.here hx rfl (hb hby d3_23) rfl zk) ?_
  refine own_st (fun zw zk => XS.iconst X0.here hx rfl (hb hby d3_24) zk) ?_
  refine own_st (fun zw zk => XS.icmpYes X0.here hx rfl (pc0 := 25) (pc' := 36) rfl (hb hby d3_25) rfl (flt (by decide : ¬ ((2 : Int32) < (0 : Int32)))).2.2.2 (by decide) (by decide) zk) ?_
  show own_Go p e below G (s₁.setTop (mkF m 36 #[.val (.ref a0), .val (.int (0 : Int32)), .val (.int p2), .val (.int p3), .val (.int p4)] []))
  subst hG
  obtain ⟨fs, hr, hrun, hended, hW, hsame⟩ := X0.leave (v := none) (fun _ => rfl)
  refine ⟨_, X0.returnOut hx Bd.returns (hb hby d3_36) hr, _, hrun, hended, _, _, rfl, ?_, ⟨_, rfl⟩, hW, hsame.mono (by decide) (by decide)⟩
  show Q_s0 Z a0 p1 p2 p3 p4 h0 n0 _ s₁.heap _
  rw [e0]
  exact ⟨rfl, N0, (Keep.refl h0 [a0]), F0_⟩
theorem d5_0 : decode method_2_code 0 = .ok (.aload_n 0, 1) := by decide +kernel
theorem d5_1 : decode method_2_code 1 = .ok (.ifnull 9, 3) := by decide +kernel
theorem d5_4 : decode method_2_code 4 = .ok (.aload_n 0, 1) := by decide +kernel
theorem d5_5 : decode method_2_code 5 = .ok (.arraylength, 1) := by decide +kernel
theorem d5_6 : decode method_2_code 6 = .ok (.iload_n 1, 1) := by decide +kernel
theorem d5_7 : decode method_2_code 7 = .ok (.if_icmp .eq 5, 3) := by decide +kernel
theorem d5_12 : decode method_2_code 12 = .ok (.iload_n 1, 1) := by decide +kernel
theorem d5_13 : decode method_2_code 13 = .ok (.ifCond .le 13, 3) := by decide +kernel
theorem d5_26 : decode method_2_code 26 = .ok (.iload_n 1, 1) := by decide +kernel
theorem d5_27 : decode method_2_code 27 = .ok (.iconst 1, 1) := by decide +kernel
theorem d5_28 : decode method_2_code 28 = .ok (.if_icmp .le 13, 3) := by decide +kernel
theorem d5_41 : decode method_2_code 41 = .ok (.iload_n 1, 1) := by decide +kernel
theorem d5_42 : decode method_2_code 42 = .ok (.iconst 2, 1) := by decide +kernel
theorem d5_43 : decode method_2_code 43 = .ok (.if_icmp .le 14, 3) := by decide +kernel
theorem d5_57 : decode method_2_code 57 = .ok (.iconst 1, 1) := by decide +kernel
theorem d5_58 : decode method_2_code 58 = .ok (.ireturn, 1) := by decide +kernel
theorem ef_rm_m0 (m : MethodId) (a0 : Addr) (p1 : Int32) (p2 : Int32) (p3 : Int32) (p4 : Int32) : entryFrame m #[(.ref a0), (.int p1), (.int p2), (.int p3), (.int p4)] 5 = mkF m 0 #[.val (.ref a0), .val (.int p1), .val (.int p2), .val (.int p3), .val (.int p4)] [] := by first | (simp [entryFrame, mkF, argsToLocals, Value.category]; done) | rfl
def Q_m0 (Z : State) (a0 : Addr) (p1 : Int32) (p2 : Int32) (p3 : Int32) (p4 : Int32) (h0 : Heap) (n0 : Nat) (rv : Option Value) (hq : Heap) (Lq : List Loc) : Prop := rv = some (.int (1 : Int32)) ∧ Fr n0 Lq ∧ hq = h0
set_option maxRecDepth 65536 in
set_option maxHeartbeats 40000000 in
theorem rm_m0 (l : Launch) (Z : State) (a0 : Array Value) (hw : ∀ d ∈ tables_1, d.before a0 Z = true) (ws : List Jvm.Cond) (a0 : Addr) (p1 : Int32) (p2 : Int32) (p3 : Int32) (p4 : Int32) (h0 : Heap) (n0 : Nat) (Z0 : n0 ≤ h0.size) (F0_ : own_L Z h0 a0 .byte ([])) (hn : p1 = (0 : Int32)) :
    MetFree l (⟨"com/example/attestrum/attestrum/schemes/der/AlgorithmIdentifierParametersPinLaw", "matches", "([BIIII)Z"⟩ : MethodName) (head1 (Jvm.Cond.code (⟨"com/example/attestrum/attestrum/schemes/der/AlgorithmIdentifierParametersPinLaw", "matches", "([BIIII)Z"⟩ : MethodName) method_2_code 5 (some .boolean) :: ws) ({ frames := 0, cells := 0, slots := 0, locals := 0 } : Room)) (fun za U => za = #[(.ref a0), (.int p1), (.int p2), (.int p3), (.int p4)] ∧ Z.Warmed39 U.vm ∧ U.heap = h0) (fun _ _ _ _ _ => True) (fun _ U o U' => ∃ rv Lq, o = .returned rv ∧ Q_m0 Z a0 p1 p2 p3 p4 h0 n0 rv U'.heap Lq ∧ FrameEnd U o U' Lq ({ frames := 0, cells := 0, slots := 0, locals := 0 } : Room).cells ({ frames := 0, cells := 0, slots := 0, locals := 0 } : Room).slots) := by
  refine MetFree.of_bodySF (plainFor_of_name pn_1) hisR ?_
  intro p e s m args below meth c s₁ Bd hml0 hP hK
  obtain ⟨rfl, hZ, hh⟩ := hP
  have hx := Bd.exec
  have hby := Bd.bytes
  have hml : c.maxLocals = 5 := hml0
  have hown : s.vm.findClass "com/example/attestrum/attestrum/schemes/der/AlgorithmIdentifierParametersPinLaw" = some m.cls := findClass_of_methodNamed Bd.named
  have hnm := (name_of_methodNamed Bd.named Bd.method).1
  have X0 : Stand p l e ({ frames := 0, cells := 0, slots := 0, locals := 0 } : Room) s m #[(.ref a0), (.int p1), (.int p2), (.int p3), (.int p4)] below meth c s₁ [] 0 0 := Stand.of_body Bd
  have e0 : s₁.heap = h0 := by rw [← hh, Bd.state]; rfl
  have N0 := Fr.nil n0
  refine own_out (own_nm fun G hG => own_st (fun zt zk => castTop (ef_rm_m0 m a0 p1 p2 p3 p4) zk) ?_)
  show own_Go p e below G (s₁.setTop (mkF m 0 #[.val (.ref a0), .val (.int p1), .val (.int p2), .val (.int p3), .val (.int p4)] []))
  rw [hn]
  refine own_st (fun zw zk => XS.aloadN X0.here hx rfl (hb hby d5_0) rfl rfl zk) ?_
  refine own_st (fun zw zk => XS.ifnullNo X0.here hx rfl (hb hby d5_1) rfl zk) ?_
  refine own_st (fun zw zk => XS.aloadN X0.here hx rfl (hb hby d5_4) rfl rfl zk) ?_
  refine own_st (fun zw zk => own_len X0 hx hZ e0 F0_ (z := (0 : Int32)) (rfl) (g := (mkF m 5 #[.val (.ref a0), .val (.int (0 : Int32)), .val (.int p2), .val (.int p3), .val (.int p4)] [(.ref a0)])) rfl rfl (hb hby d5_5) _ zk) ?_
  refine own_st (fun zw zk => XS.iloadN X0.here hx rfl (hb hby d5_6) rfl zk) ?_
  refine own_st (fun zw zk => XS.icmpYes X0.here hx rfl (pc0 := 7) (pc' := 12) rfl (hb hby d5_7) rfl (teq (by decide : (0 : Int32) = (0 : Int32))).1 (by decide) (by decide) zk) ?_
  refine own_st (fun zw zk => XS.iloadN X0.here hx rfl (hb hby d5_12) rfl zk) ?_
  refine own_st (fun zw zk => XS.ifYes X0.here hx rfl (pc0 := 13) (pc' := 26) rfl (hb hby d5_13) rfl ((if0 _ _).trans (flt (by decide : ¬ ((0 : Int32) < (0 : Int32)))).2.2.2) (by decide) (by decide) zk) ?_
  show own_Go p e below G (s₁.setTop (mkF m 26 #[.val (.ref a0), .val (.int (0 : Int32)), .val (.int p2), .val (.int p3), .val (.int p4)] []))
  refine own_st (fun zw zk => XS.iloadN X0.here hx rfl (hb hby d5_26) rfl zk) ?_
  refine own_st (fun zw zk => XS.iconst X0.here hx rfl (hb hby d5_27) zk) ?_
  refine own_st (fun zw zk => XS.icmpYes X0.here hx rfl (pc0 := 28) (pc' := 41) rfl (hb hby d5_28) rfl (flt (by decide : ¬ ((1 : Int32) < (0 : Int32)))).2.2.2 (by decide) (by decide) zk) ?_
  refine own_st (fun zw zk => XS.iloadN X0.here hx rfl (hb hby d5_41) rfl zk) ?_
  refine own_st (fun zw zk => XS.iconst X0.here hx rfl (hb hby d5_42) zk) ?_
  refine own_st (fun zw zk => XS.icmpYes X0.here hx rfl (pc0 := 43) (pc' := 57) rfl (hb hby d5_43) rfl (flt (by decide : ¬ ((2 : Int32) < (0 : Int32)))).2.2.2 (by decide) (by decide) zk) ?_
  refine own_st (fun zw zk => XS.iconst X0.here hx rfl (hb hby d5_57) zk) ?_
  subst hG
  obtain ⟨fs, hr, hrun, hended, hW, hsame⟩ := X0.leave (v := some (.int (1 : Int32))) (fun h => by rw [Bd.returns] at h; cases h)
  refine ⟨_, retN X0 hx (t := .boolean) Bd.returns (by simp) (hb hby d5_58) hr, _, hrun, hended, _, _, rfl, ?_, ⟨_, rfl⟩, hW, hsame.mono (by decide) (by decide)⟩
  show Q_m0 Z a0 p1 p2 p3 p4 h0 n0 _ s₁.heap _
  rw [e0]
  exact ⟨rfl, N0, rfl⟩
theorem d3_4 : decode method_3_code 4 = .ok (.aload_n 0, 1) := by decide +kernel
theorem d3_5 : decode method_3_code 5 = .ok (.iconst 0, 1) := by decide +kernel
theorem d3_6 : decode method_3_code 6 = .ok (.iload_n 2, 1) := by decide +kernel
theorem d3_7 : decode method_3_code 7 = .ok (.iconst (-1), 1) := by decide +kernel
theorem d3_8 : decode method_3_code 8 = .ok (.ixor, 1) := by decide +kernel
theorem d3_9 : decode method_3_code 9 = .ok (.i2b, 1) := by decide +kernel
theorem d3_10 : decode method_3_code 10 = .ok (.bastore, 1) := by decide +kernel
theorem ef_rm_s1 (m : MethodId) (a0 : Addr) (p1 : Int32) (p2 : Int32) (p3 : Int32) (p4 : Int32) : entryFrame m #[(.ref a0), (.int p1), (.int p2), (.int p3), (.int p4)] 5 = mkF m 0 #[.val (.ref a0), .val (.int p1), .val (.int p2), .val (.int p3), .val (.int p4)] [] := by first | (simp [entryFrame, mkF, argsToLocals, Value.category]; done) | rfl
def Q_s1 (Z : State) (a0 : Addr) (p1 : Int32) (p2 : Int32) (p3 : Int32) (p4 : Int32) (w0 : Int32) (h0 : Heap) (n0 : Nat) (rv : Option Value) (hq : Heap) (Lq : List Loc) : Prop := rv = none ∧ Fr n0 Lq ∧ Keep h0 hq [a0] ∧ own_L Z hq a0 .byte ([(.int (((p2 ^^^ (-1 : Int32)).toInt8.toInt32).toInt8.toInt32))])
set_option maxRecDepth 65536 in
set_option maxHeartbeats 40000000 in
theorem rm_s1 (l : Launch) (Z : State) (a0 : Array Value) (hw : ∀ d ∈ tables_1, d.before a0 Z = true) (ws : List Jvm.Cond) (a0 : Addr) (p1 : Int32) (p2 : Int32) (p3 : Int32) (p4 : Int32) (w0 : Int32) (h0 : Heap) (n0 : Nat) (Z0 : n0 ≤ h0.size) (F0_ : own_L Z h0 a0 .byte ([(.int w0)])) (ge_a0 : n0 ≤ a0) (hn : p1 = (1 : Int32)) :
    MetFree l (⟨"com/example/attestrum/attestrum/schemes/der/AlgorithmIdentifierParametersPinLaw", "spoil", "([BIIII)V"⟩ : MethodName) (head1 (Jvm.Cond.code (⟨"com/example/attestrum/attestrum/schemes/der/AlgorithmIdentifierParametersPinLaw", "spoil", "([BIIII)V"⟩ : MethodName) method_3_code 5 none :: ws) ({ frames := 0, cells := 0, slots := 0, locals := 0 } : Room)) (fun za U => za = #[(.ref a0), (.int p1), (.int p2), (.int p3), (.int p4)] ∧ Z.Warmed39 U.vm ∧ U.heap = h0) (fun _ _ _ _ _ => True) (fun _ U o U' => ∃ rv Lq, o = .returned rv ∧ Q_s1 Z a0 p1 p2 p3 p4 w0 h0 n0 rv U'.heap Lq ∧ FrameEnd U o U' Lq ({ frames := 0, cells := 0, slots := 0, locals := 0 } : Room).cells ({ frames := 0, cells := 0, slots := 0, locals := 0 } : Room).slots) := by
  refine MetFree.of_bodySF (plainFor_of_name pn_1) hisR ?_
  intro p e s m args below meth c s₁ Bd hml0 hP hK
  obtain ⟨rfl, hZ, hh⟩ := hP
  have hx := Bd.exec
  have hby := Bd.bytes
  have hml : c.maxLocals = 5 := hml0
  have hown : s.vm.findClass "com/example/attestrum/attestrum/schemes/der/AlgorithmIdentifierParametersPinLaw" = some m.cls := findClass_of_methodNamed Bd.named
  have hnm := (name_of_methodNamed Bd.named Bd.method).1
  have X0 : Stand p l e ({ frames := 0, cells := 0, slots := 0, locals := 0 } : Room) s m #[(.ref a0), (.int p1), (.int p2), (.int p3), (.int p4)] below meth c s₁ [] 0 0 := Stand.of_body Bd
  have e0 : s₁.heap = h0 := by rw [← hh, Bd.state]; rfl
  have N0 := Fr.nil n0
  refine own_out (own_nm fun G hG => own_st (fun zt zk => castTop (ef_rm_s1 m a0 p1 p2 p3 p4) zk) ?_)
  show own_Go p e below G (s₁.setTop (mkF m 0 #[.val (.ref a0), .val (.int p1), .val (.int p2), .val (.int p3), .val (.int p4)] []))
  rw [hn]
  refine own_st (fun zw zk => XS.iloadN X0.here hx rfl (hb hby d3_0) rfl zk) ?_
  refine own_st (fun zw zk => XS.ifNo X0.here hx rfl (hb hby d3_1) rfl ((if0 _ _).trans (tlt (by decide : (0 : Int32) < (1 : Int32))).2.2.2) zk) ?_
  refine own_st (fun zw zk => XS.aloadN X0.here hx rfl (hb hby d3_4) rfl rfl zk) ?_
  refine own_st (fun zw zk => XS.iconst X0.here hx rfl (hb hby d3_5) zk) ?_
  refine own_st (fun zw zk => XS.iloadN X0.here hx rfl (hb hby d3_6) rfl zk) ?_
  refine own_st (fun zw zk => XS.iconst X0.here hx rfl (hb hby d3_7) zk) ?_
  refine own_st (fun zw zk => XS.ixor X0.here hx rfl (hb hby d3_8) rfl zk) ?_
  refine own_st (fun zw zk => XS.i2b X0.here hx rfl (hb hby d3_9) rfl zk) ?_
  show own_Go p e below G (s₁.setTop (mkF m 10 #[.val (.ref a0), .val (.int (1 : Int32)), .val (.int p2), .val (.int p3), .val (.int p4)] [(.int ((p2 ^^^ (-1 : Int32)).toInt8.toInt32)), (.int (0 : Int32)), (.ref a0)]))
  obtain ⟨T41, h41, X41, e41, W41, V41, st41⟩ := own_bst X0 hx hZ e0 F0_ (j := (0 : Int32)) (0) (by decide) (by decide) (Nat.le_of_ble_eq_true rfl) (g := (mkF m 10 #[.val (.ref a0), .val (.int (1 : Int32)), .val (.int p2), .val (.int p3), .val (.int p4)] [(.int ((p2 ^^^ (-1 : Int32)).toInt8.toInt32)), (.int (0 : Int32)), (.ref a0)])) rfl rfl (hb hby d3_10)
  have F0_41 : own_L Z h41 a0 .byte ([(.int (((p2 ^^^ (-1 : Int32)).toInt8.toInt32).toInt8.toInt32))]) := V41
  have N41 := Fr.snoc X41 N0 ge_a0
  refine own_st (fun zw zk => st41 zw zk) ?_
  have Z41 : n0 ≤ h41.size := Nat.le_trans Z0 (Keep.of_wr W41).1
  have Kp41 := (Keep.refl h0 [a0]).wr W41 (Or.inl (List.mem_of_getElem? (i := 0) rfl))
  refine own_st (fun zw zk => XS.iloadN X41.here hx rfl (hb hby d3_11) rfl zk) ?_
  refine own_st (fun zw zk => XS.iconst X41.here hx rfl (hb hby d3_12) zk) ?_
  refine own_st (fun zw zk => XS.icmpYes X41.here hx rfl (pc0 := 13) (pc' := 23) rfl (hb hby d3_13) rfl (flt (by decide : ¬ ((1 : Int32) < (1 : Int32)))).2.2.2 (by decide) (by decide) zk) ?_
  refine own_st (fun zw zk => XS.iloadN X41.here hx rfl (hb hby d3_23) rfl zk) ?_
  refine own_st (fun zw zk => XS.iconst X41.here hx rfl (hb hby d3_24) zk) ?_
  refine own_st (fun zw zk => XS.icmpYes X41.here hx rfl (pc0 := 25) (pc' := 36) rfl (hb hby d3_25) rfl (flt (by decide : ¬ ((2 : Int32) < (1 : Int32)))).2.2.2 (by decide) (by decide) zk) ?_
  subst hG
  obtain ⟨fs, hr, hrun, hended, hW, hsame⟩ := X41.leave (v := none) (fun _ => rfl)
  refine ⟨_, X41.returnOut hx Bd.returns (hb hby d3_36) hr, _, hrun, hended, _, _, rfl, ?_, ⟨_, rfl⟩, hW, hsame.mono (by decide) (by decide)⟩
  show Q_s1 Z a0 p1 p2 p3 p4 w0 h0 n0 _ T41.heap _
  rw [e41]
  exact ⟨rfl, N41, Kp41, F0_41⟩
theorem d5_16 : decode method_2_code 16 = .ok (.aload_n 0, 1) := by decide +kernel
theorem d5_17 : decode method_2_code 17 = .ok (.iconst 0, 1) := by decide +kernel
theorem d5_18 : decode method_2_code 18 = .ok (.baload, 1) := by decide +kernel
theorem d5_19 : decode method_2_code 19 = .ok (.iload_n 2, 1) := by decide +kernel
theorem d5_20 : decode method_2_code 20 = .ok (.i2b, 1) := by decide +kernel
theorem d5_21 : decode method_2_code 21 = .ok (.if_icmp .eq 5, 3) := by decide +kernel
theorem ef_rm_m1 (m : MethodId) (a0 : Addr) (p1 : Int32) (p2 : Int32) (p3 : Int32) (p4 : Int32) : entryFrame m #[(.ref a0), (.int p1), (.int p2), (.int p3), (.int p4)] 5 = mkF m 0 #[.val (.ref a0), .val (.int p1), .val (.int p2), .val (.int p3), .val (.int p4)] [] := by first | (simp [entryFrame, mkF, argsToLocals, Value.category]; done) | rfl
def Q_m1 (Z : State) (a0 : Addr) (p1 : Int32) (p2 : Int32) (p3 : Int32) (p4 : Int32) (w0 : Int32) (h0 : Heap) (n0 : Nat) (rv : Option Value) (hq : Heap) (Lq : List Loc) : Prop := rv = some (.int (1 : Int32)) ∧ Fr n0 Lq ∧ hq = h0
set_option maxRecDepth 65536 in
set_option maxHeartbeats 40000000 in
theorem rm_m1 (l : Launch) (Z : State) (a0 : Array Value) (hw : ∀ d ∈ tables_1, d.before a0 Z = true) (ws : List Jvm.Cond) (a0 : Addr) (p1 : Int32) (p2 : Int32) (p3 : Int32) (p4 : Int32) (w0 : Int32) (h0 : Heap) (n0 : Nat) (Z0 : n0 ≤ h0.size) (F0_ : own_L Z h0 a0 .byte ([(.int w0)])) (hn : p1 = (1 : Int32)) (he0 : w0 = (p2.toInt8.toInt32)) :
    MetFree l (⟨"com/example/attestrum/attestrum/schemes/der/AlgorithmIdentifierParametersPinLaw", "matches", "([BIIII)Z"⟩ : MethodName) (head1 (Jvm.Cond.code (⟨"com/example/attestrum/attestrum/schemes/der/AlgorithmIdentifierParametersPinLaw", "matches", "([BIIII)Z"⟩ : MethodName) method_2_code 5 (some .boolean) :: ws) ({ frames := 0, cells := 0, slots := 0, locals := 0 } : Room)) (fun za U => za = #[(.ref a0), (.int p1), (.int p2), (.int p3), (.int p4)] ∧ Z.Warmed39 U.vm ∧ U.heap = h0) (fun _ _ _ _ _ => True) (fun _ U o U' => ∃ rv Lq, o = .returned rv ∧ Q_m1 Z a0 p1 p2 p3 p4 w0 h0 n0 rv U'.heap Lq ∧ FrameEnd U o U' Lq ({ frames := 0, cells := 0, slots := 0, locals := 0 } : Room).cells ({ frames := 0, cells := 0, slots := 0, locals := 0 } : Room).slots) := by
  refine MetFree.of_bodySF (plainFor_of_name pn_1) hisR ?_
  intro p e s m args below meth c s₁ Bd hml0 hP hK
  obtain ⟨rfl, hZ, hh⟩ := hP
  have hx := Bd.exec
  have hby := Bd.bytes
  have hml : c.maxLocals = 5 := hml0
  have hown : s.vm.findClass "com/example/attestrum/attestrum/schemes/der/AlgorithmIdentifierParametersPinLaw" = some m.cls := findClass_of_methodNamed Bd.named
  have hnm := (name_of_methodNamed Bd.named Bd.method).1
  have X0 : Stand p l e ({ frames := 0, cells := 0, slots := 0, locals := 0 } : Room) s m #[(.ref a0), (.int p1), (.int p2), (.int p3), (.int p4)] below meth c s₁ [] 0 0 := Stand.of_body Bd
  have e0 : s₁.heap = h0 := by rw [← hh, Bd.state]; rfl
  have N0 := Fr.nil n0
  refine own_out (own_nm fun G hG => own_st (fun zt zk => castTop (ef_rm_m1 m a0 p1 p2 p3 p4) zk) ?_)
  show own_Go p e below G (s₁.setTop (mkF m 0 #[.val (.ref a0), .val (.int p1), .val (.int p2), .val (.int p3), .val (.int p4)] []))
  rw [hn]
  refine own_st (fun zw zk => XS.aloadN X0.here hx rfl (hb hby d5_0) rfl rfl zk) ?_
  refine own_st (fun zw zk => XS.ifnullNo X0.here hx rfl (hb hby d5_1) rfl zk) ?_
  refine own_st (fun zw zk => XS.aloadN X0.here hx rfl (hb hby d5_4) rfl rfl zk) ?_
  refine own_st (fun zw zk => own_len X0 hx hZ e0 F0_ (z := (1 : Int32)) (rfl) (g := (mkF m 5 #[.val (.ref a0), .val (.int (1 : Int32)), .val (.int p2), .val (.int p3), .val (.int p4)] [(.ref a0)])) rfl rfl (hb hby d5_5) _ zk) ?_
  refine own_st (fun zw zk => XS.iloadN X0.here hx rfl (hb hby d5_6) rfl zk) ?_
  refine own_st (fun zw zk => XS.icmpYes X0.here hx rfl (pc0 := 7) (pc' := 12) rfl (hb hby d5_7) rfl (teq (by decide : (1 : Int32) = (1 : Int32))).1 (by decide) (by decide) zk) ?_
  refine own_st (fun zw zk => XS.iloadN X0.here hx rfl (hb hby d5_12) rfl zk) ?_
  refine own_st (fun zw zk => XS.ifNo X0.here hx rfl (hb hby d5_13) rfl ((if0 _ _).trans (tlt (by decide : (0 : Int32) < (1 : Int32))).2.2.2) zk) ?_
  show own_Go p e below G (s₁.setTop (mkF m 16 #[.val (.ref a0), .val (.int (1 : Int32)), .val (.int p2), .val (.int p3), .val (.int p4)] []))
  refine own_st (fun zw zk => XS.aloadN X0.here hx rfl (hb hby d5_16) rfl rfl zk) ?_
  refine own_st (fun zw zk => XS.iconst X0.here hx rfl (hb hby d5_17) zk) ?_
  refine own_st (fun zw zk => own_bld X0 hx hZ e0 F0_ (j := (0 : Int32)) (v := (.int w0)) (i := 0) (by decide) (by decide) rfl (g := (mkF m 18 #[.val (.ref a0), .val (.int (1 : Int32)), .val (.int p2), .val (.int p3), .val (.int p4)] [(.int (0 : Int32)), (.ref a0)])) rfl rfl (hb hby d5_18) _ zk) ?_
  refine own_st (fun zw zk => XS.iloadN X0.here hx rfl (hb hby d5_19) rfl zk) ?_
  refine own_st (fun zw zk => XS.i2b X0.here hx rfl (hb hby d5_20) rfl zk) ?_
  have hc21 : w0 = (p2.toInt8.toInt32) := he0
  refine own_st (fun zw zk => XS.icmpYes X0.here hx rfl (pc0 := 21) (pc' := 26) rfl (hb hby d5_21) rfl (teq hc21).1 (by decide) (by decide) zk) ?_
  refine own_st (fun zw zk => XS.iloadN X0.here hx rfl (hb hby d5_26) rfl zk) ?_
  refine own_st (fun zw zk => XS.iconst X0.here hx rfl (hb hby d5_27) zk) ?_
  show own_Go p e below G (s₁.setTop (mkF m 28 #[.val (.ref a0), .val (.int (1 : Int32)), .val (.int p2), .val (.int p3), .val (.int p4)] [(.int (1 : Int32)), (.int (1 : Int32))]))
  refine own_st (fun zw zk => XS.icmpYes X0.here hx rfl (pc0 := 28) (pc' := 41) rfl (hb hby d5_28) rfl (flt (by decide : ¬ ((1 : Int32) < (1 : Int32)))).2.2.2 (by decide) (by decide) zk) ?_
  refine own_st (fun zw zk => XS.iloadN X0.here hx rfl (hb hby d5_41) rfl zk) ?_
  refine own_st (fun zw zk => XS.iconst X0.here hx rfl (hb hby d5_42) zk) ?_
  refine own_st (fun zw zk => XS.icmpYes X0.here hx rfl (pc0 := 43) (pc' := 57) rfl (hb hby d5_43) rfl (flt (by decide : ¬ ((2 : Int32) < (1 : Int32)))).2.2.2 (by decide) (by decide) zk) ?_
  refine own_st (fun zw zk => XS.iconst X0.here hx rfl (hb hby d5_57) zk) ?_
  subst hG
  obtain ⟨fs, hr, hrun, hended, hW, hsame⟩ := X0.leave (v := some (.int (1 : Int32))) (fun h => by rw [Bd.returns] at h; cases h)
  refine ⟨_, retN X0 hx (t := .boolean) Bd.returns (by simp) (hb hby d5_58) hr, _, hrun, hended, _, _, rfl, ?_, ⟨_, rfl⟩, hW, hsame.mono (by decide) (by decide)⟩
  show Q_m1 Z a0 p1 p2 p3 p4 w0 h0 n0 _ s₁.heap _
  rw [e0]
  exact ⟨rfl, N0, rfl⟩
theorem d3_16 : decode method_3_code 16 = .ok (.aload_n 0, 1) := by decide +kernel
theorem d3_17 : decode method_3_code 17 = .ok (.iconst 1, 1) := by decide +kernel
theorem d3_18 : decode method_3_code 18 = .ok (.iload_n 3, 1) := by decide +kernel
theorem d3_19 : decode method_3_code 19 = .ok (.iconst (-1), 1) := by decide +kernel
theorem d3_20 : decode method_3_code 20 = .ok (.ixor, 1) := by decide +kernel
theorem d3_21 : decode method_3_code 21 = .ok (.i2b, 1) := by decide +kernel
theorem d3_22 : decode method_3_code 22 = .ok (.bastore, 1) := by decide +kernel
theorem ef_rm_s2 (m : MethodId) (a0 : Addr) (p1 : Int32) (p2 : Int32) (p3 : Int32) (p4 : Int32) : entryFrame m #[(.ref a0), (.int p1), (.int p2), (.int p3), (.int p4)] 5 = mkF m 0 #[.val (.ref a0), .val (.int p1), .val (.int p2), .val (.int p3), .val (.int p4)] [] := by first | (simp [entryFrame, mkF, argsToLocals, Value.category]; done) | rfl
def Q_s2 (Z : State) (a0 : Addr) (p1 : Int32) (p2 : Int32) (p3 : Int32) (p4 : Int32) (w0 : Int32) (w1 : Int32) (h0 : Heap) (n0 : Nat) (rv : Option Value) (hq : Heap) (Lq : List Loc) : Prop := rv = none ∧ Fr n0 Lq ∧ Keep h0 hq [a0] ∧ own_L Z hq a0 .byte ([(.int (((p2 ^^^ (-1 : Int32)).toInt8.toInt32).toInt8.toInt32)), (.int (((p3 ^^^ (-1 : Int32)).toInt8.toInt32).toInt8.toInt32))])
set_option maxRecDepth 65536 in
set_option maxHeartbeats 40000000 in
theorem rm_s2 (l : Launch) (Z : State) (a0 : Array Value) (hw : ∀ d ∈ tables_1, d.before a0 Z = true) (ws : List Jvm.Cond) (a0 : Addr) (p1 : Int32) (p2 : Int32) (p3 : Int32) (p4 : Int32) (w0 : Int32) (w1 : Int32) (h0 : Heap) (n0 : Nat) (Z0 : n0 ≤ h0.size) (F0_ : own_L Z h0 a0 .byte ([(.int w0), (.int w1)])) (ge_a0 : n0 ≤ a0) (hn : p1 = (2 : Int32)) :
    MetFree l (⟨"com/example/attestrum/attestrum/schemes/der/AlgorithmIdentifierParametersPinLaw", "spoil", "([BIIII)V"⟩ : MethodName) (head1 (Jvm.Cond.code (⟨"com/example/attestrum/attestrum/schemes/der/AlgorithmIdentifierParametersPinLaw", "spoil", "([BIIII)V"⟩ : MethodName) method_3_code 5 none :: ws) ({ frames := 0, cells := 0, slots := 0, locals := 0 } : Room)) (fun za U => za = #[(.ref a0), (.int p1), (.int p2), (.int p3), (.int p4)] ∧ Z.Warmed39 U.vm ∧ U.heap = h0) (fun _ _ _ _ _ => True) (fun _ U o U' => ∃ rv Lq, o = .returned rv ∧ Q_s2 Z a0 p1 p2 p3 p4 w0 w1 h0 n0 rv U'.heap Lq ∧ FrameEnd U o U' Lq ({ frames := 0, cells := 0, slots := 0, locals := 0 } : Room).cells ({ frames := 0, cells := 0, slots := 0, locals := 0 } : Room).slots) := by
  refine MetFree.of_bodySF (plainFor_of_name pn_1) hisR ?_
  intro p e s m args below meth c s₁ Bd hml0 hP hK
  obtain ⟨rfl, hZ, hh⟩ := hP
  have hx := Bd.exec
  have hby := Bd.bytes
  have hml : c.maxLocals = 5 := hml0
  have hown : s.vm.findClass "com/example/attestrum/attestrum/schemes/der/AlgorithmIdentifierParametersPinLaw" = some m.cls := findClass_of_methodNamed Bd.named
  have hnm := (name_of_methodNamed Bd.named Bd.method).1
  have X0 : Stand p l e ({ frames := 0, cells := 0, slots := 0, locals := 0 } : Room) s m #[(.ref a0), (.int p1), (.int p2), (.int p3), (.int p4)] below meth c s₁ [] 0 0 := Stand.of_body Bd
  have e0 : s₁.heap = h0 := by rw [← hh, Bd.state]; rfl
  have N0 := Fr.nil n0
  refine own_out (own_nm fun G hG => own_st (fun zt zk => castTop (ef_rm_s2 m a0 p1 p2 p3 p4) zk) ?_)
  show own_Go p e below G (s₁.setTop (mkF m 0 #[.val (.ref a0), .val (.int p1), .val (.int p2), .val (.int p3), .val (.int p4)] []))
  rw [hn]
  refine own_st (fun zw zk => XS.iloadN X0.here hx rfl (hb hby d3_0) rfl zk) ?_
  refine own_st (fun zw zk => XS.ifNo X0.here hx rfl (hb hby d3_1) rfl ((if0 _ _).trans (tlt (by decide : (0 : Int32) < (2 : Int32))).2.2.2) zk) ?_
  refine own_st (fun zw zk => XS.aloadN X0.here hx rfl (hb hby d3_4) rfl rfl zk) ?_
  refine own_st (fun zw zk => XS.iconst X0.here hx rfl (hb hby d3_5) zk) ?_
  refine own_st (fun zw zk => XS.iloadN X0.here hx rfl (hb hby d3_6) rfl zk) ?_
  refine own_st (fun zw zk => XS.iconst X0.here hx rfl (hb hby d3_7) zk) ?_
  refine own_st (fun zw zk => XS.ixor X0.here hx rfl (hb hby d3_8) rfl zk) ?_
  refine own_st (fun zw zk => XS.i2b X0.here hx rfl (hb hby d3_9) rfl zk) ?_
  show own_Go p e below G (s₁.setTop (mkF m 10 #[.val (.ref a0), .val (.int (2 : Int32)), .val (.int p2), .val (.int p3), .val (.int p4)] [(.int ((p2 ^^^ (-1 : Int32)).toInt8.toInt32)), (.int (0 : Int32)), (.ref a0)]))
  obtain ⟨T42, h42, X42, e42, W42, V42, st42⟩ := own_bst X0 hx hZ e0 F0_ (j := (0 : Int32)) (0) (by decide) (by decide) (Nat.le_of_ble_eq_true rfl) (g := (mkF m 10 #[.val (.ref a0), .val (.int (2 : Int32)), .val (.int p2), .val (.int p3), .val (.int p4)] [(.int ((p2 ^^^ (-1 : Int32)).toInt8.toInt32)), (.int (0 : Int32)), (.ref a0)])) rfl rfl (hb hby d3_10)
  have F0_42 : own_L Z h42 a0 .byte ([(.int (((p2 ^^^ (-1 : Int32)).toInt8.toInt32).toInt8.toInt32)), (.int w1)]) := V42
  have N42 := Fr.snoc X42 N0 ge_a0
  refine own_st (fun zw zk => st42 zw zk) ?_
  have Z42 : n0 ≤ h42.size := Nat.le_trans Z0 (Keep.of_wr W42).1
  have Kp42 := (Keep.refl h0 [a0]).wr W42 (Or.inl (List.mem_of_getElem? (i := 0) rfl))
  refine own_st (fun zw zk => XS.iloadN X42.here hx rfl (hb hby d3_11) rfl zk) ?_
  refine own_st (fun zw zk => XS.iconst X42.here hx rfl (hb hby d3_12) zk) ?_
  refine own_st (fun zw zk => XS.icmpNo X42.here hx rfl (hb hby d3_13) rfl (tlt (by decide : (1 : Int32) < (2 : Int32))).2.2.2 zk) ?_
  refine own_st (fun zw zk => XS.aloadN X42.here hx rfl (hb hby d3_16) rfl rfl zk) ?_
  refine own_st (fun zw zk => XS.iconst X42.here hx rfl (hb hby d3_17) zk) ?_
  refine own_st (fun zw zk => XS.iloadN X42.here hx rfl (hb hby d3_18) rfl zk) ?_
  refine own_st (fun zw zk => XS.iconst X42.here hx rfl (hb hby d3_19) zk) ?_
  show own_Go p e below G (T42.setTop (mkF m 20 #[.val (.ref a0), .val (.int (2 : Int32)), .val (.int p2), .val (.int p3), .val (.int p4)] [(.int (-1 : Int32)), (.int p3), (.int (1 : Int32)), (.ref a0)]))
  refine own_st (fun zw zk => XS.ixor X42.here hx rfl (hb hby d3_20) rfl zk) ?_
  refine own_st (fun zw zk => XS.i2b X42.here hx rfl (hb hby d3_21) rfl zk) ?_
  obtain ⟨T43, h43, X43, e43, W43, V43, st43⟩ := own_bst X42 hx hZ e42 F0_42 (j := (1 : Int32)) (1) (by decide) (by decide) (Nat.le_of_ble_eq_true rfl) (g := (mkF m 22 #[.val (.ref a0), .val (.int (2 : Int32)), .val (.int p2), .val (.int p3), .val (.int p4)] [(.int ((p3 ^^^ (-1 : Int32)).toInt8.toInt32)), (.int (1 : Int32)), (.ref a0)])) rfl rfl (hb hby d3_22)
  have F0_43 : own_L Z h43 a0 .byte ([(.int (((p2 ^^^ (-1 : Int32)).toInt8.toInt32).toInt8.toInt32)), (.int (((p3 ^^^ (-1 : Int32)).toInt8.toInt32).toInt8.toInt32))]) := V43
  have N43 := Fr.snoc X43 N42 ge_a0
  refine own_st (fun zw zk => st43 zw zk) ?_
  have Z43 : n0 ≤ h43.size := Nat.le_trans Z42 (Keep.of_wr W43).1
  have Kp43 := Kp42.wr W43 (Or.inl (List.mem_of_getElem? (i := 0) rfl))
  refine own_st (fun zw zk => XS.iloadN X43.here hx rfl (hb hby d3_23) rfl zk) ?_
  refine own_st (fun zw zk => XS.iconst X43.here hx rfl (hb hby d3_24) zk) ?_
  refine own_st (fun zw zk => XS.icmpYes X43.here hx rfl (pc0 := 25) (pc' := 36) rfl (hb hby d3_25) rfl (flt (by decide : ¬ ((2 : Int32) < (2 : Int32)))).2.2.2 (by decide) (by decide) zk) ?_
  subst hG
  obtain ⟨fs, hr, hrun, hended, hW, hsame⟩ := X43.leave (v := none) (fun _ => rfl)
  refine ⟨_, X43.returnOut hx Bd.returns (hb hby d3_36) hr, _, hrun, hended, _, _, rfl, ?_, ⟨_, rfl⟩, hW, hsame.mono (by decide) (by decide)⟩
  show Q_s2 Z a0 p1 p2 p3 p4 w0 w1 h0 n0 _ T43.heap _
  rw [e43]
  exact ⟨rfl, N43, Kp43, F0_43⟩
theorem d5_31 : decode method_2_code 31 = .ok (.aload_n 0, 1) := by decide +kernel
theorem d5_32 : decode method_2_code 32 = .ok (.iconst 1, 1) := by decide +kernel
theorem d5_33 : decode method_2_code 33 = .ok (.baload, 1) := by decide +kernel
theorem d5_34 : decode method_2_code 34 = .ok (.iload_n 3, 1) := by decide +kernel
theorem d5_35 : decode method_2_code 35 = .ok (.i2b, 1) := by decide +kernel
theorem d5_36 : decode method_2_code 36 = .ok (.if_icmp .eq 5, 3) := by decide +kernel
theorem ef_rm_m2 (m : MethodId) (a0 : Addr) (p1 : Int32) (p2 : Int32) (p3 : Int32) (p4 : Int32) : entryFrame m #[(.ref a0), (.int p1), (.int p2), (.int p3), (.int p4)] 5 = mkF m 0 #[.val (.ref a0), .val (.int p1), .val (.int p2), .val (.int p3), .val (.int p4)] [] := by first | (simp [entryFrame, mkF, argsToLocals, Value.category]; done) | rfl
def Q_m2 (Z : State) (a0 : Addr) (p1 : Int32) (p2 : Int32) (p3 : Int32) (p4 : Int32) (w0 : Int32) (w1 : Int32) (h0 : Heap) (n0 : Nat) (rv : Option Value) (hq : Heap) (Lq : List Loc) : Prop := rv = some (.int (1 : Int32)) ∧ Fr n0 Lq ∧ hq = h0
set_option maxRecDepth 65536 in
set_option maxHeartbeats 40000000 in
theorem rm_m2 (l : Launch) (Z : State) (a0 : Array Value) (hw : ∀ d ∈ tables_1, d.before a0 Z = true) (ws : List Jvm.Cond) (a0 : Addr) (p1 : Int32) (p2 : Int32) (p3 : Int32) (p4 : Int32) (w0 : Int32) (w1 : Int32) (h0 : Heap) (n0 : Nat) (Z0 : n0 ≤ h0.size) (F0_ : own_L Z h0 a0 .byte ([(.int w0), (.int w1)])) (hn : p1 = (2 : Int32)) (he0 : w0 = (p2.toInt8.toInt32)) (he1 : w1 = (p3.toInt8.toInt32)) :
    MetFree l (⟨"com/example/attestrum/attestrum/schemes/der/AlgorithmIdentifierParametersPinLaw", "matches", "([BIIII)Z"⟩ : MethodName) (head1 (Jvm.Cond.code (⟨"com/example/attestrum/attestrum/schemes/der/AlgorithmIdentifierParametersPinLaw", "matches", "([BIIII)Z"⟩ : MethodName) method_2_code 5 (some .boolean) :: ws) ({ frames := 0, cells := 0, slots := 0, locals := 0 } : Room)) (fun za U => za = #[(.ref a0), (.int p1), (.int p2), (.int p3), (.int p4)] ∧ Z.Warmed39 U.vm ∧ U.heap = h0) (fun _ _ _ _ _ => True) (fun _ U o U' => ∃ rv Lq, o = .returned rv ∧ Q_m2 Z a0 p1 p2 p3 p4 w0 w1 h0 n0 rv U'.heap Lq ∧ FrameEnd U o U' Lq ({ frames := 0, cells := 0, slots := 0, locals := 0 } : Room).cells ({ frames := 0, cells := 0, slots := 0, locals := 0 } : Room).slots) := by
  refine MetFree.of_bodySF (plainFor_of_name pn_1) hisR ?_
  intro p e s m args below meth c s₁ Bd hml0 hP hK
  obtain ⟨rfl, hZ, hh⟩ := hP
  have hx := Bd.exec
  have hby := Bd.bytes
  have hml : c.maxLocals = 5 := hml0
  have hown : s.vm.findClass "com/example/attestrum/attestrum/schemes/der/AlgorithmIdentifierParametersPinLaw" = some m.cls := findClass_of_methodNamed Bd.named
  have hnm := (name_of_methodNamed Bd.named Bd.method).1
  have X0 : Stand p l e ({ frames := 0, cells := 0, slots := 0, locals := 0 } : Room) s m #[(.ref a0), (.int p1), (.int p2), (.int p3), (.int p4)] below meth c s₁ [] 0 0 := Stand.of_body Bd
  have e0 : s₁.heap = h0 := by rw [← hh, Bd.state]; rfl
  have N0 := Fr.nil n0
  refine own_out (own_nm fun G hG => own_st (fun zt zk => castTop (ef_rm_m2 m a0 p1 p2 p3 p4) zk) ?_)
  show own_Go p e below G (s₁.setTop (mkF m 0 #[.val (.ref a0), .val (.int p1), .val (.int p2), .val (.int p3), .val (.int p4)] []))
  rw [hn]
  refine own_st (fun zw zk => XS.aloadN X0.here hx rfl (hb hby d5_0) rfl rfl zk) ?_
  refine own_st (fun zw zk => XS.ifnullNo X0.here hx rfl (hb hby d5_1) rfl zk) ?_
  refine own_st (fun zw zk => XS.aloadN X0.here hx rfl (hb hby d5_4) rfl rfl zk) ?_
  refine own_st (fun zw zk => own_len X0 hx hZ e0 F0_ (z := (2 : Int32)) (rfl) (g := (mkF m 5 #[.val (.ref a0), .val (.int (2 : Int32)), .val (.int p2), .val (.int p3), .val (.int p4)] [(.ref a0)])) rfl rfl (hb hby d5_5) _ zk) ?_
  refine own_st (fun zw zk => XS.iloadN X0.here hx rfl (hb hby d5_6) rfl zk) ?_
  refine own_st (fun zw zk => XS.icmpYes X0.here hx rfl (pc0 := 7) (pc' := 12) rfl (hb hby d5_7) rfl (teq (by decide : (2 : Int32) = (2 : Int32))).1 (by decide) (by decide) zk) ?_
  refine own_st (fun zw zk => XS.iloadN X0.here hx rfl (hb hby d5_12) rfl zk) ?_
  refine own_st (fun zw zk => XS.ifNo X0.here hx rfl (hb hby d5_13) rfl ((if0 _ _).trans (tlt (by decide : (0 : Int32) < (2 : Int32))).2.2.2) zk) ?_
  show own_Go p e below G (s₁.setTop (mkF m 16 #[.val (.ref a0), .val (.int (2 : Int32)), .val (.int p2), .val (.int p3), .val (.int p4)] []))
  refine own_st (fun zw zk => XS.aloadN X0.here hx rfl (hb hby d5_16) rfl rfl zk) ?_
  refine own_st (fun zw zk => XS.iconst X0.here hx rfl (hb hby d5_17) zk) ?_
  refine own_st (fun zw zk => own_bld X0 hx hZ e0 F0_ (j := (0 : Int32)) (v := (.int w0)) (i := 0) (by decide) (by decide) rfl (g := (mkF m 18 #[.val (.ref a0), .val (.int (2 : Int32)), .val (.int p2), .val (.int p3), .val (.int p4)] [(.int (0 : Int32)), (.ref a0)])) rfl rfl (hb hby d5_18) _ zk) ?_
  refine own_st (fun zw zk => XS.iloadN X0.here hx rfl (hb hby d5_19) rfl zk) ?_
  refine own_st (fun zw zk => XS.i2b X0.here hx rfl (hb hby d5_20) rfl zk) ?_
  have hc21 : w0 = (p2.toInt8.toInt32) := he0
  refine own_st (fun zw zk => XS.icmpYes X0.here hx rfl (pc0 := 21) (pc' := 26) rfl (hb hby d5_21) rfl (teq hc21).1 (by decide) (by decide) zk) ?_
  refine own_st (fun zw zk => XS.iloadN X0.here hx rfl (hb hby d5_26) rfl zk) ?_
  refine own_st (fun zw zk => XS.iconst X0.here hx rfl (hb hby d5_27) zk) ?_
  show own_Go p e below G (s₁.setTop (mkF m 28 #[.val (.ref a0), .val (.int (2 : Int32)), .val (.int p2), .val (.int p3), .val (.int p4)] [(.int (1 : Int32)), (.int (2 : Int32))]))
  refine own_st (fun zw zk => XS.icmpNo X0.here hx rfl (hb hby d5_28) rfl (tlt (by decide : (1 : Int32) < (2 : Int32))).2.2.2 zk) ?_
  refine own_st (fun zw zk => XS.aloadN X0.here hx rfl (hb hby d5_31) rfl rfl zk) ?_
  refine own_st (fun zw zk => XS.iconst X0.here hx rfl (hb hby d5_32) zk) ?_
  refine own_st (fun zw zk => own_bld X0 hx hZ e0 F0_ (j := (1 : Int32)) (v := (.int w1)) (i := 1) (by decide) (by decide) rfl (g := (mkF m 33 #[.val (.ref a0), .val (.int (2 : Int32)), .val (.int p2), .val (.int p3), .val (.int p4)] [(.int (1 : Int32)), (.ref a0)])) rfl rfl (hb hby d5_33) _ zk) ?_
  refine own_st (fun zw zk => XS.iloadN X0.here hx rfl (hb hby d5_34) rfl zk) ?_
  refine own_st (fun zw zk => XS.i2b X0.here hx rfl (hb hby d5_35) rfl zk) ?_
  have hc36 : w1 = (p3.toInt8.toInt32) := he1
  refine own_st (fun zw zk => XS.icmpYes X0.here hx rfl (pc0 := 36) (pc' := 41) rfl (hb hby d5_36) rfl (teq hc36).1 (by decide) (by decide) zk) ?_
  refine own_st (fun zw zk => XS.iloadN X0.here hx rfl (hb hby d5_41) rfl zk) ?_
  show own_Go p e below G (s₁.setTop (mkF m 42 #[.val (.ref a0), .val (.int (2 : Int32)), .val (.int p2), .val (.int p3), .val (.int p4)] [(.int (2 : Int32))]))
  refine own_st (fun zw zk => XS.iconst X0.here hx rfl (hb hby d5_42) zk) ?_
  refine own_st (fun zw zk => XS.icmpYes X0.here hx rfl (pc0 := 43) (pc' := 57) rfl (hb hby d5_43) rfl (flt (by decide : ¬ ((2 : Int32) < (2 : Int32)))).2.2.2 (by decide) (by decide) zk) ?_
  refine own_st (fun zw zk => XS.iconst X0.here hx rfl (hb hby d5_57) zk) ?_
  subst hG
  obtain ⟨fs, hr, hrun, hended, hW, hsame⟩ := X0.leave (v := some (.int (1 : Int32))) (fun h => by rw [Bd.returns] at h; cases h)
  refine ⟨_, retN X0 hx (t := .boolean) Bd.returns (by simp) (hb hby d5_58) hr, _, hrun, hended, _, _, rfl, ?_, ⟨_, rfl⟩, hW, hsame.mono (by decide) (by decide)⟩
  show Q_m2 Z a0 p1 p2 p3 p4 w0 w1 h0 n0 _ s₁.heap _
  rw [e0]
  exact ⟨rfl, N0, rfl⟩
theorem d3_28 : decode method_3_code 28 = .ok (.aload_n 0, 1) := by decide +kernel
theorem d3_29 : decode method_3_code 29 = .ok (.iconst 2, 1) := by decide +kernel
theorem d3_30 : decode method_3_code 30 = .ok (.iload 4, 2) := by decide +kernel
theorem d3_32 : decode method_3_code 32 = .ok (.iconst (-1), 1) := by decide +kernel
theorem d3_33 : decode method_3_code 33 = .ok (.ixor, 1) := by decide +kernel
theorem d3_34 : decode method_3_code 34 = .ok (.i2b, 1) := by decide +kernel
theorem d3_35 : decode method_3_code 35 = .ok (.bastore, 1) := by decide +kernel
theorem ef_rm_s3 (m : MethodId) (a0 : Addr) (p1 : Int32) (p2 : Int32) (p3 : Int32) (p4 : Int32) : entryFrame m #[(.ref a0), (.int p1), (.int p2), (.int p3), (.int p4)] 5 = mkF m 0 #[.val (.ref a0), .val (.int p1), .val (.int p2), .val (.int p3), .val (.int p4)] [] := by first | (simp [entryFrame, mkF, argsToLocals, Value.category]; done) | rfl
def Q_s3 (Z : State) (a0 : Addr) (p1 : Int32) (p2 : Int32) (p3 : Int32) (p4 : Int32) (w0 : Int32) (w1 : Int32) (w2 : Int32) (h0 : Heap) (n0 : Nat) (rv : Option Value) (hq : Heap) (Lq : List Loc) : Prop := rv = none ∧ Fr n0 Lq ∧ Keep h0 hq [a0] ∧ own_L Z hq a0 .byte ([(.int (((p2 ^^^ (-1 : Int32)).toInt8.toInt32).toInt8.toInt32)), (.int (((p3 ^^^ (-1 : Int32)).toInt8.toInt32).toInt8.toInt32)), (.int (((p4 ^^^ (-1 : Int32)).toInt8.toInt32).toInt8.toInt32))])
set_option maxRecDepth 65536 in
set_option maxHeartbeats 40000000 in
theorem rm_s3 (l : Launch) (Z : State) (a0 : Array Value) (hw : ∀ d ∈ tables_1, d.before a0 Z = true) (ws : List Jvm.Cond) (a0 : Addr) (p1 : Int32) (p2 : Int32) (p3 : Int32) (p4 : Int32) (w0 : Int32) (w1 : Int32) (w2 : Int32) (h0 : Heap) (n0 : Nat) (Z0 : n0 ≤ h0.size) (F0_ : own_L Z h0 a0 .byte ([(.int w0), (.int w1), (.int w2)])) (ge_a0 : n0 ≤ a0) (hn : p1 = (3 : Int32)) :
    MetFree l (⟨"com/example/attestrum/attestrum/schemes/der/AlgorithmIdentifierParametersPinLaw", "spoil", "([BIIII)V"⟩ : MethodName) (head1 (Jvm.Cond.code (⟨"com/example/attestrum/attestrum/schemes/der/AlgorithmIdentifierParametersPinLaw", "spoil", "([BIIII)V"⟩ : MethodName) method_3_code 5 none :: ws) ({ frames := 0, cells := 0, slots := 0, locals := 0 } : Room)) (fun za U => za = #[(.ref a0), (.int p1), (.int p2), (.int p3), (.int p4)] ∧ Z.Warmed39 U.vm ∧ U.heap = h0) (fun _ _ _ _ _ => True) (fun _ U o U' => ∃ rv Lq, o = .returned rv ∧ Q_s3 Z a0 p1 p2 p3 p4 w0 w1 w2 h0 n0 rv U'.heap Lq ∧ FrameEnd U o U' Lq ({ frames := 0, cells := 0, slots := 0, locals := 0 } : Room).cells ({ frames := 0, cells := 0, slots := 0, locals := 0 } : Room).slots) := by
  refine MetFree.of_bodySF (plainFor_of_name pn_1) hisR ?_
  intro p e s m args below meth c s₁ Bd hml0 hP hK
  obtain ⟨rfl, hZ, hh⟩ := hP
  have hx := Bd.exec
  have hby := Bd.bytes
  have hml : c.maxLocals = 5 := hml0
  have hown : s.vm.findClass "com/example/attestrum/attestrum/schemes/der/AlgorithmIdentifierParametersPinLaw" = some m.cls := findClass_of_methodNamed Bd.named
  have hnm := (name_of_methodNamed Bd.named Bd.method).1
  have X0 : Stand p l e ({ frames := 0, cells := 0, slots := 0, locals := 0 } : Room) s m #[(.ref a0), (.int p1), (.int p2), (.int p3), (.int p4)] below meth c s₁ [] 0 0 := Stand.of_body Bd
  have e0 : s₁.heap = h0 := by rw [← hh, Bd.state]; rfl
  have N0 := Fr.nil n0
  refine own_out (own_nm fun G hG => own_st (fun zt zk => castTop (ef_rm_s3 m a0 p1 p2 p3 p4) zk) ?_)
  show own_Go p e below G (s₁.setTop (mkF m 0 #[.val (.ref a0), .val (.int p1), .val (.int p2), .val (.int p3), .val (.int p4)] []))
  rw [hn]
  refine own_st (fun zw zk => XS.iloadN X0.here hx rfl (hb hby d3_0) rfl zk) ?_
  refine own_st (fun zw zk => XS.ifNo X0.here hx rfl (hb hby d3_1) rfl ((if0 _ _).trans (tlt (by decide : (0 : Int32) < (3 : Int32))).2.2.2) zk) ?_
  refine own_st (fun zw zk => XS.aloadN X0.here hx rfl (hb hby d3_4) rfl rfl zk) ?_
  refine own_st (fun zw zk => XS.iconst X0.here hx rfl (hb hby d3_5) zk) ?_
  refine own_st (fun zw zk => XS.iloadN X0.here hx rfl (hb hby d3_6) rfl zk) ?_
  refine own_st (fun zw zk => XS.iconst X0.here hx rfl (hb hby d3_7) zk) ?_
  refine own_st (fun zw zk => XS.ixor X0.here hx rfl (hb hby d3_8) rfl zk) ?_
  refine own_st (fun zw zk => XS.i2b X0.here hx rfl (hb hby d3_9) rfl zk) ?_
  show own_Go p e below G (s₁.setTop (mkF m 10 #[.val (.ref a0), .val (.int (3 : Int32)), .val (.int p2), .val (.int p3), .val (.int p4)] [(.int ((p2 ^^^ (-1 : Int32)).toInt8.toInt32)), (.int (0 : Int32)), (.ref a0)]))
  obtain ⟨T44, h44, X44, e44, W44, V44, st44⟩ := own_bst X0 hx hZ e0 F0_ (j := (0 : Int32)) (0) (by decide) (by decide) (Nat.le_of_ble_eq_true rfl) (g := (mkF m 10 #[.val (.ref a0), .val (.int (3 : Int32)), .val (.int p2), .val (.int p3), .val (.int p4)] [(.int ((p2 ^^^ (-1 : Int32)).toInt8.toInt32)), (.int (0 : Int32)), (.ref a0)])) rfl rfl (hb hby d3_10)
  have F0_44 : own_L Z h44 a0 .byte ([(.int (((p2 ^^^ (-1 : Int32)).toInt8.toInt32).toInt8.toInt32)), (.int w1), (.int w2)]) := V44
  have N44 := Fr.snoc X44 N0 ge_a0
  refine own_st (fun zw zk => st44 zw zk) ?_
  have Z44 : n0 ≤ h44.size := Nat.le_trans Z0 (Keep.of_wr W44).1
  have Kp44 := (Keep.refl h0 [a0]).wr W44 (Or.inl (List.mem_of_getElem? (i := 0) rfl))
  refine own_st (fun zw zk => XS.iloadN X44.here hx rfl (hb hby d3_11) rfl zk) ?_
  refine own_st (fun zw zk => XS.iconst X44.here hx rfl (hb hby d3_12) zk) ?_
  refine own_st (fun zw zk => XS.icmpNo X44.here hx rfl (hb hby d3_13) rfl (tlt (by decide : (1 : Int32) < (3 : Int32))).2.2.2 zk) ?_
  refine own_st (fun zw zk => XS.aloadN X44.here hx rfl (hb hby d3_16) rfl rfl zk) ?_
  refine own_st (fun zw zk => XS.iconst X44.here hx rfl (hb hby d3_17) zk) ?_
  refine own_st (fun zw zk => XS.iloadN X44.here hx rfl (hb hby d3_18) rfl zk) ?_
  refine own_st (fun zw zk => XS.iconst X44.here hx rfl (hb hby d3_19) zk) ?_
  show own_Go p e below G (T44.setTop (mkF m 20 #[.val (.ref a0), .val (.int (3 : Int32)), .val (.int p2), .val (.int p3), .val (.int p4)] [(.int (-1 : Int32)), (.int p3), (.int (1 : Int32)), (.ref a0)]))
  refine own_st (fun zw zk => XS.ixor X44.here hx rfl (hb hby d3_20) rfl zk) ?_
  refine own_st (fun zw zk => XS.i2b X44.here hx rfl (hb hby d3_21) rfl zk) ?_
  obtain ⟨T45, h45, X45, e45, W45, V45, st45⟩ := own_bst X44 hx hZ e44 F0_44 (j := (1 : Int32)) (1) (by decide) (by decide) (Nat.le_of_ble_eq_true rfl) (g := (mkF m 22 #[.val (.ref a0), .val (.int (3 : Int32)), .val (.int p2), .val (.int p3), .val (.int p4)] [(.int ((p3 ^^^ (-1 : Int32)).toInt8.toInt32)), (.int (1 : Int32)), (.ref a0)])) rfl rfl (hb hby d3_22)
  have F0_45 : own_L Z h45 a0 .byte ([(.int (((p2 ^^^ (-1 : Int32)).toInt8.toInt32).toInt8.toInt32)), (.int (((p3 ^^^ (-1 : Int32)).toInt8.toInt32).toInt8.toInt32)), (.int w2)]) := V45
  have N45 := Fr.snoc X45 N44 ge_a0
  refine own_st (fun zw zk => st45 zw zk) ?_
  have Z45 : n0 ≤ h45.size := Nat.le_trans Z44 (Keep.of_wr W45).1
  have Kp45 := Kp44.wr W45 (Or.inl (List.mem_of_getElem? (i := 0) rfl))
  refine own_st (fun zw zk => XS.iloadN X45.here hx rfl (hb hby d3_23) rfl zk) ?_
  refine own_st (fun zw zk => XS.iconst X45.here hx rfl (hb hby d3_24) zk) ?_
  refine own_st (fun zw zk => XS.icmpNo X45.here hx rfl (hb hby d3_25) rfl (tlt (by decide : (2 : Int32) < (3 : Int32))).2.2.2 zk) ?_
  refine own_st (fun zw zk => XS.aloadN X45.here hx rfl (hb hby d3_28) rfl rfl zk) ?_
  refine own_st (fun zw zk => XS.iconst X45.here hx rfl (hb hby d3_29) zk) ?_
  show own_Go p e below G (T45.setTop (mkF m 30 #[.val (.ref a0), .val (.int (3 : Int32)), .val (.int p2), .val (.int p3), .val (.int p4)] [(.int (2 : Int32)), (.ref a0)]))
  refine own_st (fun zw zk => XS.iload X45.here hx rfl (hb hby d3_30) rfl zk) ?_
  refine own_st (fun zw zk => XS.iconst X45.here hx rfl (hb hby d3_32) zk) ?_
  refine own_st (fun zw zk => XS.ixor X45.here hx rfl (hb hby d3_33) rfl zk) ?_
  refine own_st (fun zw zk => XS.i2b X45.here hx rfl (hb hby d3_34) rfl zk) ?_
  obtain ⟨T46, h46, X46, e46, W46, V46, st46⟩ := own_bst X45 hx hZ e45 F0_45 (j := (2 : Int32)) (2) (by decide) (by decide) (Nat.le_of_ble_eq_true rfl) (g := (mkF m 35 #[.val (.ref a0), .val (.int (3 : Int32)), .val (.int p2), .val (.int p3), .val (.int p4)] [(.int ((p4 ^^^ (-1 : Int32)).toInt8.toInt32)), (.int (2 : Int32)), (.ref a0)])) rfl rfl (hb hby d3_35)
  have F0_46 : own_L Z h46 a0 .byte ([(.int (((p2 ^^^ (-1 : Int32)).toInt8.toInt32).toInt8.toInt32)), (.int (((p3 ^^^ (-1 : Int32)).toInt8.toInt32).toInt8.toInt32)), (.int (((p4 ^^^ (-1 : Int32)).toInt8.toInt32).toInt8.toInt32))]) := V46
  have N46 := Fr.snoc X46 N45 ge_a0
  refine own_st (fun zw zk => st46 zw zk) ?_
  have Z46 : n0 ≤ h46.size := Nat.le_trans Z45 (Keep.of_wr W46).1
  have Kp46 := Kp45.wr W46 (Or.inl (List.mem_of_getElem? (i := 0) rfl))
  subst hG
  obtain ⟨fs, hr, hrun, hended, hW, hsame⟩ := X46.leave (v := none) (fun _ => rfl)
  refine ⟨_, X46.returnOut hx Bd.returns (hb hby d3_36) hr, _, hrun, hended, _, _, rfl, ?_, ⟨_, rfl⟩, hW, hsame.mono (by decide) (by decide)⟩
  show Q_s3 Z a0 p1 p2 p3 p4 w0 w1 w2 h0 n0 _ T46.heap _
  rw [e46]
  exact ⟨rfl, N46, Kp46, F0_46⟩
theorem d5_46 : decode method_2_code 46 = .ok (.aload_n 0, 1) := by decide +kernel
theorem d5_47 : decode method_2_code 47 = .ok (.iconst 2, 1) := by decide +kernel
theorem d5_48 : decode method_2_code 48 = .ok (.baload, 1) := by decide +kernel
theorem d5_49 : decode method_2_code 49 = .ok (.iload 4, 2) := by decide +kernel
theorem d5_51 : decode method_2_code 51 = .ok (.i2b, 1) := by decide +kernel
theorem d5_52 : decode method_2_code 52 = .ok (.if_icmp .eq 5, 3) := by decide +kernel
theorem ef_rm_m3 (m : MethodId) (a0 : Addr) (p1 : Int32) (p2 : Int32) (p3 : Int32) (p4 : Int32) : entryFrame m #[(.ref a0), (.int p1), (.int p2), (.int p3), (.int p4)] 5 = mkF m 0 #[.val (.ref a0), .val (.int p1), .val (.int p2), .val (.int p3), .val (.int p4)] [] := by first | (simp [entryFrame, mkF, argsToLocals, Value.category]; done) | rfl
def Q_m3 (Z : State) (a0 : Addr) (p1 : Int32) (p2 : Int32) (p3 : Int32) (p4 : Int32) (w0 : Int32) (w1 : Int32) (w2 : Int32) (h0 : Heap) (n0 : Nat) (rv : Option Value) (hq : Heap) (Lq : List Loc) : Prop := rv = some (.int (1 : Int32)) ∧ Fr n0 Lq ∧ hq = h0
set_option maxRecDepth 65536 in
set_option maxHeartbeats 40000000 in
theorem rm_m3 (l : Launch) (Z : State) (a0 : Array Value) (hw : ∀ d ∈ tables_1, d.before a0 Z = true) (ws : List Jvm.Cond) (a0 : Addr) (p1 : Int32) (p2 : Int32) (p3 : Int32) (p4 : Int32) (w0 : Int32) (w1 : Int32) (w2 : Int32) (h0 : Heap) (n0 : Nat) (Z0 : n0 ≤ h0.size) (F0_ : own_L Z h0 a0 .byte ([(.int w0), (.int w1), (.int w2)])) (hn : p1 = (3 : Int32)) (he0 : w0 = (p2.toInt8.toInt32)) (he1 : w1 = (p3.toInt8.toInt32)) (he2 : w2 = (p4.toInt8.toInt32)) :
    MetFree l (⟨"com/example/attestrum/attestrum/schemes/der/AlgorithmIdentifierParametersPinLaw", "matches", "([BIIII)Z"⟩ : MethodName) (head1 (Jvm.Cond.code (⟨"com/example/attestrum/attestrum/schemes/der/AlgorithmIdentifierParametersPinLaw", "matches", "([BIIII)Z"⟩ : MethodName) method_2_code 5 (some .boolean) :: ws) ({ frames := 0, cells := 0, slots := 0, locals := 0 } : Room)) (fun za U => za = #[(.ref a0), (.int p1), (.int p2), (.int p3), (.int p4)] ∧ Z.Warmed39 U.vm ∧ U.heap = h0) (fun _ _ _ _ _ => True) (fun _ U o U' => ∃ rv Lq, o = .returned rv ∧ Q_m3 Z a0 p1 p2 p3 p4 w0 w1 w2 h0 n0 rv U'.heap Lq ∧ FrameEnd U o U' Lq ({ frames := 0, cells := 0, slots := 0, locals := 0 } : Room).cells ({ frames := 0, cells := 0, slots := 0, locals := 0 } : Room).slots) := by
  refine MetFree.of_bodySF (plainFor_of_name pn_1) hisR ?_
  intro p e s m args below meth c s₁ Bd hml0 hP hK
  obtain ⟨rfl, hZ, hh⟩ := hP
  have hx := Bd.exec
  have hby := Bd.bytes
  have hml : c.maxLocals = 5 := hml0
  have hown : s.vm.findClass "com/example/attestrum/attestrum/schemes/der/AlgorithmIdentifierParametersPinLaw" = some m.cls := findClass_of_methodNamed Bd.named
  have hnm := (name_of_methodNamed Bd.named Bd.method).1
  have X0 : Stand p l e ({ frames := 0, cells := 0, slots := 0, locals := 0 } : Room) s m #[(.ref a0), (.int p1), (.int p2), (.int p3), (.int p4)] below meth c s₁ [] 0 0 := Stand.of_body Bd
  have e0 : s₁.heap = h0 := by rw [← hh, Bd.state]; rfl
  have N0 := Fr.nil n0
  refine own_out (own_nm fun G hG => own_st (fun zt zk => castTop (ef_rm_m3 m a0 p1 p2 p3 p4) zk) ?_)
  show own_Go p e below G (s₁.setTop (mkF m 0 #[.val (.ref a0), .val (.int p1), .val (.int p2), .val (.int p3), .val (.int p4)] []))
  rw [hn]
  refine own_st (fun zw zk => XS.aloadN X0.here hx rfl (hb hby d5_0) rfl rfl zk) ?_
  refine own_st (fun zw zk => XS.ifnullNo X0.here hx rfl (hb hby d5_1) rfl zk) ?_
  refine own_st (fun zw zk => XS.aloadN X0.here hx rfl (hb hby d5_4) rfl rfl zk) ?_
  refine own_st (fun zw zk => own_len X0 hx hZ e0 F0_ (z := (3 : Int32)) (rfl) (g := (mkF m 5 #[.val (.ref a0), .val (.int (3 : Int32)), .val (.int p2), .val (.int p3), .val (.int p4)] [(.ref a0)])) rfl rfl (hb hby d5_5) _ zk) ?_
  refine own_st (fun zw zk => XS.iloadN X0.here hx rfl (hb hby d5_6) rfl zk) ?_
  refine own_st (fun zw zk => XS.icmpYes X0.here hx rfl (pc0 := 7) (pc' := 12) rfl (hb hby d5_7) rfl (teq (by decide : (3 : Int32) = (3 : Int32))).1 (by decide) (by decide) zk) ?_
  refine own_st (fun zw zk => XS.iloadN X0.here hx rfl (hb hby d5_12) rfl zk) ?_
  refine own_st (fun zw zk => XS.ifNo X0.here hx rfl (hb hby d5_13) rfl ((if0 _ _).trans (tlt (by decide : (0 : Int32) < (3 : Int32))).2.2.2) zk) ?_
  show own_Go p e below G (s₁.setTop (mkF m 16 #[.val (.ref a0), .val (.int (3 : Int32)), .val (.int p2), .val (.int p3), .val (.int p4)] []))
  refine own_st (fun zw zk => XS.aloadN X0.here hx rfl (hb hby d5_16) rfl rfl zk) ?_
  refine own_st (fun zw zk => XS.iconst X0.here hx rfl (hb hby d5_17) zk) ?_
  refine own_st (fun zw zk => own_bld X0 hx hZ e0 F0_ (j := (0 : Int32)) (v := (.int w0)) (i := 0) (by decide) (by decide) rfl (g := (mkF m 18 #[.val (.ref a0), .val (.int (3 : Int32)), .val (.int p2), .val (.int p3), .val (.int p4)] [(.int (0 : Int32)), (.ref a0)])) rfl rfl (hb hby d5_18) _ zk) ?_
  refine own_st (fun zw zk => XS.iloadN X0.here hx rfl (hb hby d5_19) rfl zk) ?_
  refine own_st (fun zw zk => XS.i2b X0.here hx rfl (hb hby d5_20) rfl zk) ?_
  have hc21 : w0 = (p2.toInt8.toInt32) := he0
  refine own_st (fun zw zk => XS.icmpYes X0.here hx rfl (pc0 := 21) (pc' := 26) rfl (hb hby d5_21) rfl (teq hc21).1 (by decide) (by decide) zk) ?_
  refine own_st (fun zw zk => XS.iloadN X0.here hx rfl (hb hby d5_26) rfl zk) ?_
  refine own_st (fun zw zk => XS.iconst X0.here hx rfl (hb hby d5_27) zk) ?_
  show own_Go p e below G (s₁.setTop (mkF m 28 #[.val (.ref a0), .val (.int (3 : Int32)), .val (.int p2), .val (.int p3), .val (.int p4)] [(.int (1 : Int32)), (.int (3 : Int32))]))
  refine own_st (fun zw zk => XS.icmpNo X0.here hx rfl (hb hby d5_28) rfl (tlt (by decide : (1 : Int32) < (3 : Int32))).2.2.2 zk) ?_
  refine own_st (fun zw zk => XS.aloadN X0.here hx rfl (hb hby d5_31) rfl rfl zk) ?_
  refine own_st (fun zw zk => XS.iconst X0.here hx rfl (hb hby d5_32) zk) ?_
  refine own_st (fun zw zk => own_bld X0 hx hZ e0 F0_ (j := (1 : Int32)) (v := (.int w1)) (i := 1) (by decide) (by decide) rfl (g := (mkF m 33 #[.val (.ref a0), .val (.int (3 : Int32)), .val (.int p2), .val (.int p3), .val (.int p4)] [(.int (1 : Int32)), (.ref a0)])) rfl rfl (hb hby d5_33) _ zk) ?_
  refine own_st (fun zw zk => XS.iloadN X0.here hx rfl (hb hby d5_34) rfl zk) ?_
  refine own_st (fun zw zk => XS.i2b X0.here hx rfl (hb hby d5_35) rfl zk) ?_
  have hc36 : w1 = (p3.toInt8.toInt32) := he1
  refine own_st (fun zw zk => XS.icmpYes X0.here hx rfl (pc0 := 36) (pc' := 41) rfl (hb hby d5_36) rfl (teq hc36).1 (by decide) (by decide) zk) ?_
  refine own_st (fun zw zk => XS.iloadN X0.here hx rfl (hb hby d5_41) rfl zk) ?_
  show own_Go p e below G (s₁.setTop (mkF m 42 #[.val (.ref a0), .val (.int (3 : Int32)), .val (.int p2), .val (.int p3), .val (.int p4)] [(.int (3 : Int32))]))
  refine own_st (fun zw zk => XS.iconst X0.here hx rfl (hb hby d5_42) zk) ?_
  refine own_st (fun zw zk => XS.icmpNo X0.here hx rfl (hb hby d5_43) rfl (tlt (by decide : (2 : Int32) < (3 : Int32))).2.2.2 zk) ?_
  refine own_st (fun zw zk => XS.aloadN X0.here hx rfl (hb hby d5_46) rfl rfl zk) ?_
  refine own_st (fun zw zk => XS.iconst X0.here hx rfl (hb hby d5_47) zk) ?_
  refine own_st (fun zw zk => own_bld X0 hx hZ e0 F0_ (j := (2 : Int32)) (v := (.int w2)) (i := 2) (by decide) (by decide) rfl (g := (mkF m 48 #[.val (.ref a0), .val (.int (3 : Int32)), .val (.int p2), .val (.int p3), .val (.int p4)] [(.int (2 : Int32)), (.ref a0)])) rfl rfl (hb hby d5_48) _ zk) ?_
  refine own_st (fun zw zk => XS.iload X0.here hx rfl (hb hby d5_49) rfl zk) ?_
  refine own_st (fun zw zk => XS.i2b X0.here hx rfl (hb hby d5_51) rfl zk) ?_
  have hc52 : w2 = (p4.toInt8.toInt32) := he2
  refine own_st (fun zw zk => XS.icmpYes X0.here hx rfl (pc0 := 52) (pc' := 57) rfl (hb hby d5_52) rfl (teq hc52).1 (by decide) (by decide) zk) ?_
  show own_Go p e below G (s₁.setTop (mkF m 57 #[.val (.ref a0), .val (.int (3 : Int32)), .val (.int p2), .val (.int p3), .val (.int p4)] []))
  refine own_st (fun zw zk => XS.iconst X0.here hx rfl (hb hby d5_57) zk) ?_
  subst hG
  obtain ⟨fs, hr, hrun, hended, hW, hsame⟩ := X0.leave (v := some (.int (1 : Int32))) (fun h => by rw [Bd.returns] at h; cases h)
  refine ⟨_, retN X0 hx (t := .boolean) Bd.returns (by simp) (hb hby d5_58) hr, _, hrun, hended, _, _, rfl, ?_, ⟨_, rfl⟩, hW, hsame.mono (by decide) (by decide)⟩
  show Q_m3 Z a0 p1 p2 p3 p4 w0 w1 w2 h0 n0 _ s₁.heap _
  rw [e0]
  exact ⟨rfl, N0, rfl⟩
theorem pd_0 : parseMethodDescriptor "(Ljava/lang/String;[B)V" = some ⟨[(.object "java/lang/String"), (.array .byte)], none⟩ := by decide +kernel
theorem pd_1 : parseMethodDescriptor "([BIIII)V" = some ⟨[(.array .byte), .int, .int, .int, .int], none⟩ := by decide +kernel
theorem pd_2 : parseMethodDescriptor "()[B" = some ⟨[], some (.array .byte)⟩ := by decide +kernel
theorem pd_3 : parseMethodDescriptor "([BIIII)Z" = some ⟨[(.array .byte), .int, .int, .int, .int], some .boolean⟩ := by decide +kernel
theorem ef_rm0 (m : MethodId) (p0 : Int32) (p1 : Int32) (p2 : Int32) (p3 : Int32) : entryFrame m #[(.int p0), (.int p1), (.int p2), (.int p3)] maxLocals = mkF m 0 #[.val (.int p0), .val (.int p1), .val (.int p2), .val (.int p3), .unset, .unset, .unset, .unset, .unset, .unset, .unset, .unset, .unset, .unset, .unset] [] := by first | (simp [entryFrame, mkF, argsToLocals, Value.category, maxLocals]; done) | rfl
def Q0 (Z : State) (p0 : Int32) (p1 : Int32) (p2 : Int32) (p3 : Int32) (h0 : Heap) (n0 : Nat) (rv : Option Value) (hq : Heap) (Lq : List Loc) : Prop := rv = some (.int 1) ∧ Fr n0 Lq
set_option maxRecDepth 65536 in
set_option maxHeartbeats 40000000 in
theorem rm0 (l : Launch) (Z : State) (a0 : Array Value) (hw : ∀ d ∈ tables_1, d.before a0 Z = true) (ws : List Jvm.Cond) (p0 : Int32) (p1 : Int32) (p2 : Int32) (p3 : Int32) (h0 : Heap) (n0 : Nat) (Z0 : n0 ≤ h0.size) :
    MetFree l x (head1 (Jvm.Cond.code x code maxLocals ret :: ws) room_1) (fun za U => za = #[(.int p0), (.int p1), (.int p2), (.int p3)] ∧ Z.Warmed39 U.vm ∧ U.heap = h0) (fun _ _ _ _ _ => True) (fun _ U o U' => ∃ rv Lq, o = .returned rv ∧ Q0 Z p0 p1 p2 p3 h0 n0 rv U'.heap Lq ∧ ReturnedEndW U o U' Lq room_1.cells room_1.slots) := by
  refine MetFree.of_bodySF (plainFor_of_name pn_1) hisR ?_
  intro p e s m args below meth c s₁ Bd hml0 hP hK
  obtain ⟨rfl, hZ, hh⟩ := hP
  have hx := Bd.exec
  have hby := Bd.bytes
  have hml : c.maxLocals = 15 := hml0
  have hown : s.vm.findClass "com/example/attestrum/attestrum/schemes/der/AlgorithmIdentifierParametersPinLaw" = some m.cls := findClass_of_methodNamed Bd.named
  have hnm := (name_of_methodNamed Bd.named Bd.method).1
  have X0 : Stand p l e room_1 s m #[(.int p0), (.int p1), (.int p2), (.int p3)] below meth c s₁ [] 0 0 := Stand.of_body Bd
  have e0 : s₁.heap = h0 := by rw [← hh, Bd.state]; rfl
  have N0 := Fr.nil n0
  refine own_out (own_nm fun G hG => own_st (fun zt zk => castTop (ef_rm0 m p0 p1 p2 p3) zk) ?_)
  show own_Go p e below G (s₁.setTop (mkF m 0 #[.val (.int p0), .val (.int p1), .val (.int p2), .val (.int p3), .unset, .unset, .unset, .unset, .unset, .unset, .unset, .unset, .unset, .unset, .unset] []))
  refine own_st (fun zw zk => XS.iloadN X0.here hx rfl (hb hby at_0) rfl zk) ?_
  refine own_st (fun zw zk => XS.iconst X0.here hx rfl (hb hby at_1) zk) ?_
  refine own_st (fun zw zk => XS.iand X0.here hx rfl (hb hby at_2) rfl zk) ?_
  refine own_st (fun zw zk => XS.istore X0.here hx rfl (hb hby at_3) rfl rfl zk) ?_
  show own_Go p e below G (s₁.setTop (mkF m 5 #[.val (.int p0), .val (.int p1), .val (.int p2), .val (.int p3), .val (.int (p3 &&& (3 : Int32))), .unset, .unset, .unset, .unset, .unset, .unset, .unset, .unset, .unset, .unset] []))
  generalize hn4 : (p3 &&& (3 : Int32)) = n4
  rcases (hn4 ▸ own_and3 p3) with rfl | rfl | rfl | rfl
  · refine own_st (fun zw zk => XS.iloadN X0.here hx rfl (hb hby at_5) rfl zk) ?_
    refine own_st (fun zw zk => XS.iconst X0.here hx rfl (hb hby at_6) zk) ?_
    refine own_st (fun zw zk => XS.iand X0.here hx rfl (hb hby at_7) rfl zk) ?_
    by_cases hc8 : (p3 &&& (4 : Int32)) = (0 : Int32)
    · refine own_st (fun zw zk => XS.ifYes X0.here hx rfl (pc0 := 8) (pc' := 15) rfl (hb hby at_8) rfl ((if0 _ _).trans (teq hc8).1) (by decide) (by decide) zk) ?_
      refine own_st (fun zw zk => XS.iconst X0.here hx rfl (hb hby at_15) zk) ?_
      refine own_st (fun zw zk => XS.istore X0.here hx rfl (hb hby at_16) rfl rfl zk) ?_
      show own_Go p e below G (s₁.setTop (mkF m 18 #[.val (.int p0), .val (.int p1), .val (.int p2), .val (.int p3), .val (.int (0 : Int32)), .val (.int (0 : Int32)), .unset, .unset, .unset, .unset, .unset, .unset, .unset, .unset, .unset] []))
      refine own_st (fun zw zk => XS.iconst X0.here hx rfl (hb hby at_18) zk) ?_
      obtain ⟨T47, h47, k47, X47, e47, E47, A47, B47, st47⟩ := newPE X0 hx hZ (hw _ (List.mem_of_getElem? (i := 0) rfl)) e0 (g := (mkF m 19 #[.val (.int p0), .val (.int p1), .val (.int p2), .val (.int p3), .val (.int (0 : Int32)), .val (.int (0 : Int32)), .unset, .unset, .unset, .unset, .unset, .unset, .unset, .unset, .unset] [(.int (0 : Int32))])) rfl (hb hby at_19) rfl (by decide) (cap := 0) (by decide) (by decide) (by decide) (by decide) (ad := "[B") (by decide)
      obtain ⟨b47, g47⟩ : ∃ z, z = h0.size := ⟨_, rfl⟩
      rw [← g47] at A47 B47 st47
      have G47 : n0 ≤ b47 := Nat.le_trans Z0 (Nat.le_of_eq g47.symm)
      have Z47 : n0 ≤ h47.size := Nat.le_trans Z0 E47.1
      have V47 : own_L Z h47 b47 .byte ([]) := own_L.new A47
      refine own_st (fun zw zk => st47 zw zk) ?_
      refine own_st (fun zw zk => XS.astore X47.here hx rfl (hb hby at_21) rfl rfl rfl zk) ?_
      show own_Go p e below G (T47.setTop (mkF m 23 #[.val (.int p0), .val (.int p1), .val (.int p2), .val (.int p3), .val (.int (0 : Int32)), .val (.int (0 : Int32)), .val (.ref b47), .unset, .unset, .unset, .unset, .unset, .unset, .unset, .unset] []))
      refine own_st (fun zw zk => XS.iconst X47.here hx rfl (hb hby at_23) zk) ?_
      obtain ⟨T48, h48, k48, X48, e48, E48, A48, B48, st48⟩ := newPE X47 hx hZ (hw _ (List.mem_of_getElem? (i := 0) rfl)) e47 (g := (mkF m 24 #[.val (.int p0), .val (.int p1), .val (.int p2), .val (.int p3), .val (.int (0 : Int32)), .val (.int (0 : Int32)), .val (.ref b47), .unset, .unset, .unset, .unset, .unset, .unset, .unset, .unset] [(.int (1 : Int32))])) rfl (hb hby at_24) rfl (by decide) (cap := 1) (by decide) (by decide) (by decide) (by decide) (ad := "[B") (by decide)
      obtain ⟨b48, g48⟩ : ∃ z, z = h47.size := ⟨_, rfl⟩
      rw [← g48] at A48 B48 st48
      have G48 : n0 ≤ b48 := Nat.le_trans Z47 (Nat.le_of_eq g48.symm)
      have ne_b47_b48 : b47 ≠ b48 := Nat.ne_of_lt (Nat.lt_of_lt_of_le V47.lt (Nat.le_of_eq g48.symm))
      have Vb47_48 := V47.ext E48
      have Bb47_48 := B47.ext E48
      have Z48 : n0 ≤ h48.size := Nat.le_trans Z47 E48.1
      have V48 : own_L Z h48 b48 .byte ([(.int (0 : Int32))]) := own_L.new A48
      refine own_st (fun zw zk => st48 zw zk) ?_
      refine own_st (fun zw zk => XS.dup X48.here hx rfl (hb hby at_26) rfl rfl zk) ?_
      refine own_st (fun zw zk => XS.iconst X48.here hx rfl (hb hby at_27) zk) ?_
      refine own_st (fun zw zk => XS.iloadN X48.here hx rfl (hb hby at_28) rfl zk) ?_
      refine own_st (fun zw zk => XS.i2b X48.here hx rfl (hb hby at_29) rfl zk) ?_
      obtain ⟨T49, h49, X49, e49, W49, V49, st49⟩ := own_bst X48 hx hZ e48 V48 (j := (0 : Int32)) (0) (by decide) (by decide) (Nat.le_of_ble_eq_true rfl) (g := (mkF m 30 #[.val (.int p0), .val (.int p1), .val (.int p2), .val (.int p3), .val (.int (0 : Int32)), .val (.int (0 : Int32)), .val (.ref b47), .unset, .unset, .unset, .unset, .unset, .unset, .unset, .unset] [(.int (p0.toInt8.toInt32)), (.int (0 : Int32)), (.ref b48), (.ref b48)])) rfl rfl (hb hby at_30)
      have Vb48_49 : own_L Z h49 b48 .byte ([(.int ((p0.toInt8.toInt32).toInt8.toInt32))]) := V49
      have N49 := Fr.snoc X49 N0 G48
      refine own_st (fun zw zk => st49 zw zk) ?_
      have Vb47_49 := Vb47_48.other W49 ne_b47_b48
      have Bb47_49 := Bb47_48.wr W49
      have Bb48_49 := B48.wr W49
      have Z49 : n0 ≤ h49.size := Nat.le_trans Z48 (Keep.of_wr W49).1
      refine own_st (fun zw zk => XS.astore X49.here hx rfl (hb hby at_31) rfl rfl rfl zk) ?_
      show own_Go p e below G (T49.setTop (mkF m 33 #[.val (.int p0), .val (.int p1), .val (.int p2), .val (.int p3), .val (.int (0 : Int32)), .val (.int (0 : Int32)), .val (.ref b47), .val (.ref b48), .unset, .unset, .unset, .unset, .unset, .unset, .unset] []))
      refine own_st (fun zw zk => XS.iconst X49.here hx rfl (hb hby at_33) zk) ?_
      obtain ⟨T50, h50, k50, X50, e50, E50, A50, B50, st50⟩ := newPE X49 hx hZ (hw _ (List.mem_of_getElem? (i := 0) rfl)) e49 (g := (mkF m 34 #[.val (.int p0), .val (.int p1), .val (.int p2), .val (.int p3), .val (.int (0 : Int32)), .val (.int (0 : Int32)), .val (.ref b47), .val (.ref b48), .unset, .unset, .unset, .unset, .unset, .unset, .unset] [(.int (2 : Int32))])) rfl (hb hby at_34) rfl (by decide) (cap := 2) (by decide) (by decide) (by decide) (by decide) (ad := "[B") (by decide)
      obtain ⟨b50, g50⟩ : ∃ z, z = h49.size := ⟨_, rfl⟩
      rw [← g50] at A50 B50 st50
      have G50 : n0 ≤ b50 := Nat.le_trans Z49 (Nat.le_of_eq g50.symm)
      have ne_b47_b50 : b47 ≠ b50 := Nat.ne_of_lt (Nat.lt_of_lt_of_le Vb47_49.lt (Nat.le_of_eq g50.symm))
      have ne_b48_b50 : b48 ≠ b50 := Nat.ne_of_lt (Nat.lt_of_lt_of_le Bb48_49.lt (Nat.le_of_eq g50.symm))
      have Vb47_50 := Vb47_49.ext E50
      have Bb47_50 := Bb47_49.ext E50
      have Bb48_50 := Bb48_49.ext E50
      have Vb48_50 := Vb48_49.ext E50
      have Z50 : n0 ≤ h50.size := Nat.le_trans Z49 E50.1
      have V50 : own_L Z h50 b50 .byte ([(.int (0 : Int32)), (.int (0 : Int32))]) := own_L.new A50
      refine own_st (fun zw zk => st50 zw zk) ?_
      refine own_st (fun zw zk => XS.dup X50.here hx rfl (hb hby at_36) rfl rfl zk) ?_
      refine own_st (fun zw zk => XS.iconst X50.here hx rfl (hb hby at_37) zk) ?_
      refine own_st (fun zw zk => XS.iloadN X50.here hx rfl (hb hby at_38) rfl zk) ?_
      refine own_st (fun zw zk => XS.i2b X50.here hx rfl (hb hby at_39) rfl zk) ?_
      obtain ⟨T51, h51, X51, e51, W51, V51, st51⟩ := own_bst X50 hx hZ e50 V50 (j := (0 : Int32)) (0) (by decide) (by decide) (Nat.le_of_ble_eq_true rfl) (g := (mkF m 40 #[.val (.int p0), .val (.int p1), .val (.int p2), .val (.int p3), .val (.int (0 : Int32)), .val (.int (0 : Int32)), .val (.ref b47), .val (.ref b48), .unset, .unset, .unset, .unset, .unset, .unset, .unset] [(.int (p0.toInt8.toInt32)), (.int (0 : Int32)), (.ref b50), (.ref b50)])) rfl rfl (hb hby at_40)
      have Vb50_51 : own_L Z h51 b50 .byte ([(.int ((p0.toInt8.toInt32).toInt8.toInt32)), (.int (0 : Int32))]) := V51
      have N51 := Fr.snoc X51 N49 G50
      refine own_st (fun zw zk => st51 zw zk) ?_
      have Vb47_51 := Vb47_50.other W51 ne_b47_b50
      have Bb47_51 := Bb47_50.wr W51
      have Bb48_51 := Bb48_50.wr W51
      have Vb48_51 := Vb48_50.other W51 ne_b48_b50
      have Bb50_51 := B50.wr W51
      have Z51 : n0 ≤ h51.size := Nat.le_trans Z50 (Keep.of_wr W51).1
      refine own_st (fun zw zk => XS.dup X51.here hx rfl (hb hby at_41) rfl rfl zk) ?_
      show own_Go p e below G (T51.setTop (mkF m 42 #[.val (.int p0), .val (.int p1), .val (.int p2), .val (.int p3), .val (.int (0 : Int32)), .val (.int (0 : Int32)), .val (.ref b47), .val (.ref b48), .unset, .unset, .unset, .unset, .unset, .unset, .unset] [(.ref b50), (.ref b50)]))
      refine own_st (fun zw zk => XS.iconst X51.here hx rfl (hb hby at_42) zk) ?_
      refine own_st (fun zw zk => XS.iloadN X51.here hx rfl (hb hby at_43) rfl zk) ?_
      refine own_st (fun zw zk => XS.i2b X51.here hx rfl (hb hby at_44) rfl zk) ?_
      obtain ⟨T52, h52, X52, e52, W52, V52, st52⟩ := own_bst X51 hx hZ e51 Vb50_51 (j := (1 : Int32)) (1) (by decide) (by decide) (Nat.le_of_ble_eq_true rfl) (g := (mkF m 45 #[.val (.int p0), .val (.int p1), .val (.int p2), .val (.int p3), .val (.int (0 : Int32)), .val (.int (0 : Int32)), .val (.ref b47), .val (.ref b48), .unset, .unset, .unset, .unset, .unset, .unset, .unset] [(.int (p1.toInt8.toInt32)), (.int (1 : Int32)), (.ref b50), (.ref b50)])) rfl rfl (hb hby at_45)
      have Vb50_52 : own_L Z h52 b50 .byte ([(.int ((p0.toInt8.toInt32).toInt8.toInt32)), (.int ((p1.toInt8.toInt32).toInt8.toInt32))]) := V52
      have N52 := Fr.snoc X52 N51 G50
      refine own_st (fun zw zk => st52 zw zk) ?_
      have Vb47_52 := Vb47_51.other W52 ne_b47_b50
      have Bb47_52 := Bb47_51.wr W52
      have Bb48_52 := Bb48_51.wr W52
      have Vb48_52 := Vb48_51.other W52 ne_b48_b50
      have Bb50_52 := Bb50_51.wr W52
      have Z52 : n0 ≤ h52.size := Nat.le_trans Z51 (Keep.of_wr W52).1
      refine own_st (fun zw zk => XS.astore X52.here hx rfl (hb hby at_46) rfl rfl rfl zk) ?_
      show own_Go p e below G (T52.setTop (mkF m 48 #[.val (.int p0), .val (.int p1), .val (.int p2), .val (.int p3), .val (.int (0 : Int32)), .val (.int (0 : Int32)), .val (.ref b47), .val (.ref b48), .val (.ref b50), .unset, .unset, .unset, .unset, .unset, .unset] []))
      refine own_st (fun zw zk => XS.iconst X52.here hx rfl (hb hby at_48) zk) ?_
      obtain ⟨T53, h53, k53, X53, e53, E53, A53, B53, st53⟩ := newPE X52 hx hZ (hw _ (List.mem_of_getElem? (i := 0) rfl)) e52 (g := (mkF m 49 #[.val (.int p0), .val (.int p1), .val (.int p2), .val (.int p3), .val (.int (0 : Int32)), .val (.int (0 : Int32)), .val (.ref b47), .val (.ref b48), .val (.ref b50), .unset, .unset, .unset, .unset, .unset, .unset] [(.int (3 : Int32))])) rfl (hb hby at_49) rfl (by decide) (cap := 3) (by decide) (by decide) (by decide) (by decide) (ad := "[B") (by decide)
      obtain ⟨b53, g53⟩ : ∃ z, z = h52.size := ⟨_, rfl⟩
      rw [← g53] at A53 B53 st53
      have G53 : n0 ≤ b53 := Nat.le_trans Z52 (Nat.le_of_eq g53.symm)
      have ne_b47_b53 : b47 ≠ b53 := Nat.ne_of_lt (Nat.lt_of_lt_of_le Vb47_52.lt (Nat.le_of_eq g53.symm))
      have ne_b48_b53 : b48 ≠ b53 := Nat.ne_of_lt (Nat.lt_of_lt_of_le Bb48_52.lt (Nat.le_of_eq g53.symm))
      have ne_b50_b53 : b50 ≠ b53 := Nat.ne_of_lt (Nat.lt_of_lt_of_le Bb50_52.lt (Nat.le_of_eq g53.symm))
      have Vb47_53 := Vb47_52.ext E53
      have Bb47_53 := Bb47_52.ext E53
      have Bb48_53 := Bb48_52.ext E53
      have Vb48_53 := Vb48_52.ext E53
      have Bb50_53 := Bb50_52.ext E53
      have Vb50_53 := Vb50_52.ext E53
      have Z53 : n0 ≤ h53.size := Nat.le_trans Z52 E53.1
      have V53 : own_L Z h53 b53 .byte ([(.int (0 : Int32)), (.int (0 : Int32)), (.int (0 : Int32))]) := own_L.new A53
      refine own_st (fun zw zk => st53 zw zk) ?_
      refine own_st (fun zw zk => XS.dup X53.here hx rfl (hb hby at_51) rfl rfl zk) ?_
      refine own_st (fun zw zk => XS.iconst X53.here hx rfl (hb hby at_52) zk) ?_
      refine own_st (fun zw zk => XS.iloadN X53.here hx rfl (hb hby at_53) rfl zk) ?_
      refine own_st (fun zw zk => XS.i2b X53.here hx rfl (hb hby at_54) rfl zk) ?_
      obtain ⟨T54, h54, X54, e54, W54, V54, st54⟩ := own_bst X53 hx hZ e53 V53 (j := (0 : Int32)) (0) (by decide) (by decide) (Nat.le_of_ble_eq_true rfl) (g := (mkF m 55 #[.val (.int p0), .val (.int p1), .val (.int p2), .val (.int p3), .val (.int (0 : Int32)), .val (.int (0 : Int32)), .val (.ref b47), .val (.ref b48), .val (.ref b50), .unset, .unset, .unset, .unset, .unset, .unset] [(.int (p0.toInt8.toInt32)), (.int (0 : Int32)), (.ref b53), (.ref b53)])) rfl rfl (hb hby at_55)
      have Vb53_54 : own_L Z h54 b53 .byte ([(.int ((p0.toInt8.toInt32).toInt8.toInt32)), (.int (0 : Int32)), (.int (0 : Int32))]) := V54
      have N54 := Fr.snoc X54 N52 G53
      refine own_st (fun zw zk => st54 zw zk) ?_
      have Vb47_54 := Vb47_53.other W54 ne_b47_b53
      have Bb47_54 := Bb47_53.wr W54
      have Bb48_54 := Bb48_53.wr W54
      have Vb48_54 := Vb48_53.other W54 ne_b48_b53
      have Bb50_54 := Bb50_53.wr W54
      have Vb50_54 := Vb50_53.other W54 ne_b50_b53
      have Bb53_54 := B53.wr W54
      have Z54 : n0 ≤ h54.size := Nat.le_trans Z53 (Keep.of_wr W54).1
      refine own_st (fun zw zk => XS.dup X54.here hx rfl (hb hby at_56) rfl rfl zk) ?_
      show own_Go p e below G (T54.setTop (mkF m 57 #[.val (.int p0), .val (.int p1), .val (.int p2), .val (.int p3), .val (.int (0 : Int32)), .val (.int (0 : Int32)), .val (.ref b47), .val (.ref b48), .val (.ref b50), .unset, .unset, .unset, .unset, .unset, .unset] [(.ref b53), (.ref b53)]))
      refine own_st (fun zw zk => XS.iconst X54.here hx rfl (hb hby at_57) zk) ?_
      refine own_st (fun zw zk => XS.iloadN X54.here hx rfl (hb hby at_58) rfl zk) ?_
      refine own_st (fun zw zk => XS.i2b X54.here hx rfl (hb hby at_59) rfl zk) ?_
      obtain ⟨T55, h55, X55, e55, W55, V55, st55⟩ := own_bst X54 hx hZ e54 Vb53_54 (j := (1 : Int32)) (1) (by decide) (by decide) (Nat.le_of_ble_eq_true rfl) (g := (mkF m 60 #[.val (.int p0), .val (.int p1), .val (.int p2), .val (.int p3), .val (.int (0 : Int32)), .val (.int (0 : Int32)), .val (.ref b47), .val (.ref b48), .val (.ref b50), .unset, .unset, .unset, .unset, .unset, .unset] [(.int (p1.toInt8.toInt32)), (.int (1 : Int32)), (.ref b53), (.ref b53)])) rfl rfl (hb hby at_60)
      have Vb53_55 : own_L Z h55 b53 .byte ([(.int ((p0.toInt8.toInt32).toInt8.toInt32)), (.int ((p1.toInt8.toInt32).toInt8.toInt32)), (.int (0 : Int32))]) := V55
      have N55 := Fr.snoc X55 N54 G53
      refine own_st (fun zw zk => st55 zw zk) ?_
      have Vb47_55 := Vb47_54.other W55 ne_b47_b53
      have Bb47_55 := Bb47_54.wr W55
      have Bb48_55 := Bb48_54.wr W55
      have Vb48_55 := Vb48_54.other W55 ne_b48_b53
      have Bb50_55 := Bb50_54.wr W55
      have Vb50_55 := Vb50_54.other W55 ne_b50_b53
      have Bb53_55 := Bb53_54.wr W55
      have Z55 : n0 ≤ h55.size := Nat.le_trans Z54 (Keep.of_wr W55).1
      refine own_st (fun zw zk => XS.dup X55.here hx rfl (hb hby at_61) rfl rfl zk) ?_
      refine own_st (fun zw zk => XS.iconst X55.here hx rfl (hb hby at_62) zk) ?_
      refine own_st (fun zw zk => XS.iloadN X55.here hx rfl (hb hby at_63) rfl zk) ?_
      refine own_st (fun zw zk => XS.i2b X55.here hx rfl (hb hby at_64) rfl zk) ?_
      show own_Go p e below G (T55.setTop (mkF m 65 #[.val (.int p0), .val (.int p1), .val (.int p2), .val (.int p3), .val (.int (0 : Int32)), .val (.int (0 : Int32)), .val (.ref b47), .val (.ref b48), .val (.ref b50), .unset, .unset, .unset, .unset, .unset, .unset] [(.int (p2.toInt8.toInt32)), (.int (2 : Int32)), (.ref b53), (.ref b53)]))
      obtain ⟨T56, h56, X56, e56, W56, V56, st56⟩ := own_bst X55 hx hZ e55 Vb53_55 (j := (2 : Int32)) (2) (by decide) (by decide) (Nat.le_of_ble_eq_true rfl) (g := (mkF m 65 #[.val (.int p0), .val (.int p1), .val (.int p2), .val (.int p3), .val (.int (0 : Int32)), .val (.int (0 : Int32)), .val (.ref b47), .val (.ref b48), .val (.ref b50), .unset, .unset, .unset, .unset, .unset, .unset] [(.int (p2.toInt8.toInt32)), (.int (2 : Int32)), (.ref b53), (.ref b53)])) rfl rfl (hb hby at_65)
      have Vb53_56 : own_L Z h56 b53 .byte ([(.int ((p0.toInt8.toInt32).toInt8.toInt32)), (.int ((p1.toInt8.toInt32).toInt8.toInt32)), (.int ((p2.toInt8.toInt32).toInt8.toInt32))]) := V56
      have N56 := Fr.snoc X56 N55 G53
      refine own_st (fun zw zk => st56 zw zk) ?_
      have Vb47_56 := Vb47_55.other W56 ne_b47_b53
      have Bb47_56 := Bb47_55.wr W56
      have Bb48_56 := Bb48_55.wr W56
      have Vb48_56 := Vb48_55.other W56 ne_b48_b53
      have Bb50_56 := Bb50_55.wr W56
      have Vb50_56 := Vb50_55.other W56 ne_b50_b53
      have Bb53_56 := Bb53_55.wr W56
      have Z56 : n0 ≤ h56.size := Nat.le_trans Z55 (Keep.of_wr W56).1
      refine own_st (fun zw zk => XS.astore X56.here hx rfl (hb hby at_66) rfl rfl rfl zk) ?_
      show own_Go p e below G (T56.setTop (mkF m 68 #[.val (.int p0), .val (.int p1), .val (.int p2), .val (.int p3), .val (.int (0 : Int32)), .val (.int (0 : Int32)), .val (.ref b47), .val (.ref b48), .val (.ref b50), .val (.ref b53), .unset, .unset, .unset, .unset, .unset] []))
      refine own_st (fun zw zk => XS.iload X56.here hx rfl (hb hby at_68) rfl zk) ?_
      refine own_st (fun zw zk => XS.ifNo X56.here hx rfl (hb hby at_70) rfl ((if0 _ _).trans (teq (by decide : (0 : Int32) = (0 : Int32))).2) zk) ?_
      refine own_st (fun zw zk => XS.aload X56.here hx rfl (hb hby at_73) rfl rfl zk) ?_
      refine own_st (fun zw zk => XS.goto X56.here hx rfl (pc0 := 75) (pc' := 102) rfl (hb hby at_75) (by decide) (by decide) zk) ?_
      show own_Go p e below G (T56.setTop (mkF m 102 #[.val (.int p0), .val (.int p1), .val (.int p2), .val (.int p3), .val (.int (0 : Int32)), .val (.int (0 : Int32)), .val (.ref b47), .val (.ref b48), .val (.ref b50), .val (.ref b53), .unset, .unset, .unset, .unset, .unset] [(.ref b47)]))
      refine own_st (fun zw zk => XS.astore X56.here hx rfl (hb hby at_102) rfl rfl rfl zk) ?_
      show own_Go p e below G (T56.setTop (mkF m 104 #[.val (.int p0), .val (.int p1), .val (.int p2), .val (.int p3), .val (.int (0 : Int32)), .val (.int (0 : Int32)), .val (.ref b47), .val (.ref b48), .val (.ref b50), .val (.ref b53), .val (.ref b47), .unset, .unset, .unset, .unset] []))
      refine own_st (fun zw zk => XS.iload X56.here hx rfl (hb hby at_104) rfl zk) ?_
      refine own_st (fun zw zk => XS.ifYes X56.here hx rfl (pc0 := 106) (pc' := 113) rfl (hb hby at_106) rfl ((if0 _ _).trans (teq (by decide : (0 : Int32) = (0 : Int32))).1) (by decide) (by decide) zk) ?_
      refine own_st (fun zw zk => XS.aload X56.here hx rfl (hb hby at_113) rfl rfl zk) ?_
      refine own_st (fun zw zk => XS.astore X56.here hx rfl (hb hby at_115) rfl rfl rfl zk) ?_
      show own_Go p e below G (T56.setTop (mkF m 117 #[.val (.int p0), .val (.int p1), .val (.int p2), .val (.int p3), .val (.int (0 : Int32)), .val (.int (0 : Int32)), .val (.ref b47), .val (.ref b48), .val (.ref b50), .val (.ref b53), .val (.ref b47), .val (.ref b47), .unset, .unset, .unset] []))
      obtain ⟨T57, h57, X57, e57, E57, A57, D57, -, st57⟩ := newO X56 hx hZ hown (hw _ (List.mem_of_getElem? (i := 1) rfl)) (hw _ (List.mem_of_getElem? (i := 2) rfl)) (hw _ (List.mem_of_getElem? (i := 3) rfl)) e56 (g := (mkF m 117 #[.val (.int p0), .val (.int p1), .val (.int p2), .val (.int p3), .val (.int (0 : Int32)), .val (.int (0 : Int32)), .val (.ref b47), .val (.ref b48), .val (.ref b50), .val (.ref b53), .val (.ref b47), .val (.ref b47), .unset, .unset, .unset] [])) rfl (hb hby at_117) (by decide) (by decide)
      obtain ⟨b57, g57⟩ : ∃ z, z = h56.size := ⟨_, rfl⟩
      rw [← g57] at A57 D57 st57
      have G57 : n0 ≤ b57 := Nat.le_trans Z56 (Nat.le_of_eq g57.symm)
      have ne_b47_b57 : b47 ≠ b57 := Nat.ne_of_lt (Nat.lt_of_lt_of_le Vb47_56.lt (Nat.le_of_eq g57.symm))
      have ne_b48_b57 : b48 ≠ b57 := Nat.ne_of_lt (Nat.lt_of_lt_of_le Bb48_56.lt (Nat.le_of_eq g57.symm))
      have ne_b50_b57 : b50 ≠ b57 := Nat.ne_of_lt (Nat.lt_of_lt_of_le Bb50_56.lt (Nat.le_of_eq g57.symm))
      have ne_b53_b57 : b53 ≠ b57 := Nat.ne_of_lt (Nat.lt_of_lt_of_le Bb53_56.lt (Nat.le_of_eq g57.symm))
      have Vb47_57 := Vb47_56.ext E57
      have Bb47_57 := Bb47_56.ext E57
      have Bb48_57 := Bb48_56.ext E57
      have Vb48_57 := Vb48_56.ext E57
      have Bb50_57 := Bb50_56.ext E57
      have Vb50_57 := Vb50_56.ext E57
      have Bb53_57 := Bb53_56.ext E57
      have Vb53_57 := Vb53_56.ext E57
      have Z57 : n0 ≤ h57.size := Nat.le_trans Z56 E57.1
      have Fb57oid : Fld Z h57 b57 "com/example/attestrum/attestrum/schemes/der/AlgorithmIdentifier" "oid" "Ljava/lang/String;" .null := D57 (Or.inr (hw _ (List.mem_of_getElem? (i := 18) rfl))) (ty := (.object "java/lang/String")) (by decide)
      have Fb57parameters : Fld Z h57 b57 "com/example/attestrum/attestrum/schemes/der/AlgorithmIdentifier" "parameters" "[B" .null := D57 (Or.inr (hw _ (List.mem_of_getElem? (i := 29) rfl))) (ty := (.array .byte)) (by decide)
      refine own_st (fun zw zk => st57 zw zk) ?_
      refine own_st (fun zw zk => XS.dup X57.here hx rfl (hb hby at_120) rfl rfl zk) ?_
      have wS58 : ∀ z ∈ Bundle.stringAtoms, z.before a0 Z = true := by
        intro z hz
        simp only [Bundle.stringAtoms, List.mem_cons, List.not_mem_nil, or_false] at hz
        rcases hz with rfl | rfl | rfl | rfl | rfl | rfl | rfl
        · exact (hw _ (List.mem_of_getElem? (i := 5) rfl))
        · exact (hw _ (List.mem_of_getElem? (i := 6) rfl))
        · exact (hw _ (List.mem_of_getElem? (i := 0) rfl))
        · exact (hw _ (List.mem_of_getElem? (i := 7) rfl))
        · exact (hw _ (List.mem_of_getElem? (i := 8) rfl))
        · exact (hw _ (List.mem_of_getElem? (i := 9) rfl))
        · exact (hw _ (List.mem_of_getElem? (i := 10) rfl))
      obtain ⟨b58, T58, h58, k58, X58, e58, E58, hS, Zk58, hZ', hown', st58⟩ := ldcS (s := s) (vm0 := s.vm) X57 hx hZ hown (hw _ (List.mem_of_getElem? (i := 4) rfl)) wS58 e57 ((State.WarmedH.refl s).since 0) (Nat.zero_le _) (g := (mkF m 121 #[.val (.int p0), .val (.int p1), .val (.int p2), .val (.int p3), .val (.int (0 : Int32)), .val (.int (0 : Int32)), .val (.ref b47), .val (.ref b48), .val (.ref b50), .val (.ref b53), .val (.ref b47), .val (.ref b47), .unset, .unset, .unset] [(.ref b57), (.ref b57)])) rfl (hb hby at_121) (n := 12) (by decide) (by decide) (by decide) (by decide)
      refine own_st (fun zw zk => st58 zw zk) ?_
      have Vb47_58 := Vb47_57.ext E58
      have Bb47_58 := Bb47_57.ext E58
      have Bb48_58 := Bb48_57.ext E58
      have Vb48_58 := Vb48_57.ext E58
      have Bb50_58 := Bb50_57.ext E58
      have Vb50_58 := Vb50_57.ext E58
      have Bb53_58 := Bb53_57.ext E58
      have Vb53_58 := Vb53_57.ext E58
      have Fb57oid_58 := Fb57oid.ext E58
      have Fb57parameters_58 := Fb57parameters.ext E58
      have Ab57_58 := A57.ext E58
      have Z58 : n0 ≤ h58.size := Nat.le_trans Z57 E58.1
      refine own_st (fun zw zk => XS.aload X58.here hx rfl (hb hby at_123) rfl rfl zk) ?_
      obtain ⟨_, _, ⟨T59, L59, k59, n59⟩, -, X59, ⟨Lc59, hQ59, l59, y59, z59⟩, st59⟩ := X58.specialBack hx (y := (⟨"com/example/attestrum/attestrum/schemes/der/AlgorithmIdentifier", "<init>", "(Ljava/lang/String;[B)V"⟩ : MethodName)) rfl hown' (mvT hZ' (hw _ (List.mem_of_getElem? (i := 11) rfl))) (mvT hZ' (hw _ (List.mem_of_getElem? (i := 12) rfl))) (mvT hZ' (hw _ (List.mem_of_getElem? (i := 13) rfl))) (by decide) (backOf (W := 1) (rm_i0 l Z a0 hw [] b57 b58 b47 h58 n0 Z58 (Ab57_58) (Fb57oid_58) (Fb57parameters_58) (Vb47_58) (Bb47_58) (G57) ((Ne.symm ne_b47_b57)) (own_fit0)) hZ' (hw _ (List.mem_of_getElem? (i := 13) rfl)) (hw _ (List.mem_of_getElem? (i := 3) rfl)) (by decide) (by decide)) (g := (mkF m 125 #[.val (.int p0), .val (.int p1), .val (.int p2), .val (.int p3), .val (.int (0 : Int32)), .val (.int (0 : Int32)), .val (.ref b47), .val (.ref b48), .val (.ref b50), .val (.ref b53), .val (.ref b47), .val (.ref b47), .unset, .unset, .unset] [(.ref b47), (.ref b58), (.ref b57), (.ref b57)])) rfl (by rw [hml]; rfl) (Steps.refl _) (a := b57) (argsL := [(.ref b58), (.ref b47)]) (rest := [(.ref b57)]) (lenOf pd_0 rfl) rfl (by show 2 * 0 + _ ≤ _; exact Nat.le_of_eq rfl) (hb hby at_125) (fun _ _ => ⟨rfl, e58, (by decide : 7 + 1 ≤ _), (by decide : 24 + 0 ≤ _)⟩)
      dsimp only [Pt.U, Pt.locs, Pt.cells, Pt.slots] at X59 l59 y59 z59 st59 hQ59
      subst l59 y59 z59
      obtain ⟨rfl, N59q, tt59, sztt59, K59, O59_0, O59_1, O59_2, O59_3⟩ := hQ59
      have ne_b47_tt59 : b47 ≠ tt59 := Nat.ne_of_lt (Nat.lt_of_lt_of_le Vb47_58.lt sztt59)
      have ne_b48_tt59 : b48 ≠ tt59 := Nat.ne_of_lt (Nat.lt_of_lt_of_le Bb48_58.lt sztt59)
      have ne_b50_tt59 : b50 ≠ tt59 := Nat.ne_of_lt (Nat.lt_of_lt_of_le Bb50_58.lt sztt59)
      have ne_b53_tt59 : b53 ≠ tt59 := Nat.ne_of_lt (Nat.lt_of_lt_of_le Bb53_58.lt sztt59)
      have ne_b57_tt59 : b57 ≠ tt59 := Nat.ne_of_lt (Nat.lt_of_lt_of_le Fb57oid_58.lt sztt59)
      have Gtt59 : n0 ≤ tt59 := Nat.le_trans Z58 sztt59
      have Zk59 := Nat.le_trans Zk58 K59.1
      have Vb47_59 := Vb47_58.keep K59 (ninS ne_b47_b57 nin0)
      have Bb47_59 := Bb47_58.keep K59
      have Bb48_59 := Bb48_58.keep K59
      have Vb48_59 := Vb48_58.keep K59 (ninS ne_b48_b57 nin0)
      have Bb50_59 := Bb50_58.keep K59
      have Vb50_59 := Vb50_58.keep K59 (ninS ne_b50_b57 nin0)
      have Bb53_59 := Bb53_58.keep K59
      have Vb53_59 := Vb53_58.keep K59 (ninS ne_b53_b57 nin0)
      have Ab57_59 := Ab57_58.keep K59
      have Z59 : n0 ≤ T59.heap.size := Nat.le_trans Z58 K59.1
      have N59 := Fr.app N56 N59q
      refine own_jp st59 ?_
      refine own_st (fun zw zk => XS.astore X59.here hx rfl (hb hby at_128) rfl rfl rfl zk) ?_
      show own_Go p e below G (T59.setTop (mkF m 130 #[.val (.int p0), .val (.int p1), .val (.int p2), .val (.int p3), .val (.int (0 : Int32)), .val (.int (0 : Int32)), .val (.ref b47), .val (.ref b48), .val (.ref b50), .val (.ref b53), .val (.ref b47), .val (.ref b47), .val (.ref b57), .unset, .unset] []))
      refine own_st (fun zw zk => XS.aload X59.here hx rfl (hb hby at_130) rfl rfl zk) ?_
      refine own_st (fun zw zk => XS.ifnonnullYes X59.here hx rfl (pc0 := 132) (pc' := 165) rfl (hb hby at_132) rfl (by decide) (by decide) zk) ?_
      refine own_st (fun zw zk => XS.aload X59.here hx rfl (hb hby at_165) rfl rfl zk) ?_
      refine own_st (fun zw zk => XS.iload X59.here hx rfl (hb hby at_167) rfl zk) ?_
      refine own_st (fun zw zk => XS.iloadN X59.here hx rfl (hb hby at_169) rfl zk) ?_
      refine own_st (fun zw zk => XS.iloadN X59.here hx rfl (hb hby at_170) rfl zk) ?_
      refine own_st (fun zw zk => XS.iloadN X59.here hx rfl (hb hby at_171) rfl zk) ?_
      obtain ⟨_, _, ⟨T60, L60, k60, n60⟩, -, X60, ⟨Lc60, hQ60, l60, y60, z60⟩, st60⟩ := Jvm.LawKit.callS X59 hx (y := (⟨"com/example/attestrum/attestrum/schemes/der/AlgorithmIdentifierParametersPinLaw", "spoil", "([BIIII)V"⟩ : MethodName)) hown' (mvT hZ' (hw _ (List.mem_of_getElem? (i := 30) rfl))) (mvT hZ' (hw _ (List.mem_of_getElem? (i := 31) rfl))) (mvT hZ' (hw _ (List.mem_of_getElem? (i := 32) rfl))) (mvT hZ' (hw _ (List.mem_of_getElem? (i := 33) rfl))) (by decide) (backOf (W := 0) (rm_s0 l Z a0 hw [] b47 (0 : Int32) p0 p1 p2 T59.heap n0 Z59 (Vb47_59) (G47) (rfl)) hZ' (hw _ (List.mem_of_getElem? (i := 33) rfl)) (hw _ (List.mem_of_getElem? (i := 32) rfl)) (by decide) (by decide)) (g := (mkF m 172 #[.val (.int p0), .val (.int p1), .val (.int p2), .val (.int p3), .val (.int (0 : Int32)), .val (.int (0 : Int32)), .val (.ref b47), .val (.ref b48), .val (.ref b50), .val (.ref b53), .val (.ref b47), .val (.ref b47), .val (.ref b57), .unset, .unset] [(.int p2), (.int p1), (.int p0), (.int (0 : Int32)), (.ref b47)])) rfl (by rw [hml]; rfl) (argsL := [(.ref b47), (.int (0 : Int32)), (.int p0), (.int p1), (.int p2)]) (rest := []) (lenOf pd_1 rfl) rfl (by show 2 * 0 + _ ≤ _; exact Nat.le_of_eq rfl) (hb hby at_172) (fun _ _ => ⟨rfl, rfl, (by decide : 8 + 0 ≤ _), (by decide : 24 + 0 ≤ _)⟩)
      dsimp only [Pt.U, Pt.locs, Pt.cells, Pt.slots] at X60 l60 y60 z60 st60 hQ60
      subst l60 y60 z60
      obtain ⟨rfl, N60q, K60, O60_0⟩ := hQ60
      have Zk60 := Nat.le_trans Zk59 K60.1
      have Bb47_60 := Bb47_59.keep K60
      have Bb48_60 := Bb48_59.keep K60
      have Vb48_60 := Vb48_59.keep K60 (ninS (Ne.symm ne_b47_b48) nin0)
      have Bb50_60 := Bb50_59.keep K60
      have Vb50_60 := Vb50_59.keep K60 (ninS (Ne.symm ne_b47_b50) nin0)
      have Bb53_60 := Bb53_59.keep K60
      have Vb53_60 := Vb53_59.keep K60 (ninS (Ne.symm ne_b47_b53) nin0)
      have Ob57E_60 := O59_0.keep K60
      have Ob57parameters_60 := O59_1.keep K60 (ninS (Ne.symm ne_b47_b57) nin0)
      have Ott59L_60 := O59_2.keep K60 (ninS (Ne.symm ne_b47_tt59) nin0)
      have Ott59E_60 := O59_3.keep K60
      have Z60 : n0 ≤ T60.heap.size := Nat.le_trans Z59 K60.1
      have N60 := Fr.app N59 N60q
      refine own_st (fun zw zk => st60 zw zk) ?_
      show own_Go p e below G (T60.setTop (mkF m 175 #[.val (.int p0), .val (.int p1), .val (.int p2), .val (.int p3), .val (.int (0 : Int32)), .val (.int (0 : Int32)), .val (.ref b47), .val (.ref b48), .val (.ref b50), .val (.ref b53), .val (.ref b47), .val (.ref b47), .val (.ref b57), .unset, .unset] []))
      refine own_st (fun zw zk => XS.aload X60.here hx rfl (hb hby at_175) rfl rfl zk) ?_
      obtain ⟨cq61, kq61, q61a, q61b, q61c⟩ := isOf hZ' rfl Ob57E_60
      obtain ⟨_, _, ⟨T61, L61, k61, n61⟩, -, X61, ⟨Lc61, hQ61, l61, y61, z61⟩, st61⟩ := X60.virtualBack hx (y := (⟨"com/example/attestrum/attestrum/schemes/der/AlgorithmIdentifier", "parameters", "()[B"⟩ : MethodName)) (z := (⟨"com/example/attestrum/attestrum/schemes/der/AlgorithmIdentifier", "parameters", "()[B"⟩ : MethodName)) hown' (mvT hZ' (hw _ (List.mem_of_getElem? (i := 34) rfl))) (mvT hZ' (hw _ (List.mem_of_getElem? (i := 35) rfl))) (notFace_of_selects (args := #[]) (mvT hZ' (hw _ (List.mem_of_getElem? (i := 37) rfl)))) (mvT hZ' (hw _ (List.mem_of_getElem? (i := 37) rfl))) (mvT hZ' (hw _ (List.mem_of_getElem? (i := 36) rfl))) (by decide) (backOf (W := 0) (rm_p0 l Z a0 hw [] b57 tt59 T60.heap n0 Z60 (Ob57parameters_60) (Ott59L_60) (Ott59E_60) (own_fit0)) hZ' (hw _ (List.mem_of_getElem? (i := 38) rfl)) (hw _ (List.mem_of_getElem? (i := 3) rfl)) (by decide) (by decide)) q61a q61c (g := (mkF m 177 #[.val (.int p0), .val (.int p1), .val (.int p2), .val (.int p3), .val (.int (0 : Int32)), .val (.int (0 : Int32)), .val (.ref b47), .val (.ref b48), .val (.ref b50), .val (.ref b53), .val (.ref b47), .val (.ref b47), .val (.ref b57), .unset, .unset] [(.ref b57)])) rfl (by rw [hml]; rfl) (Steps.refl _) (argsL := []) (rest := []) (lenOf pd_2 rfl) rfl (by show 2 * 0 + _ ≤ _; exact Nat.le_of_eq rfl) (hb hby at_177) (fun _ _ => ⟨rfl, rfl, (by decide : 8 + 1 ≤ _), (by decide : 24 + 0 ≤ _)⟩)
      dsimp only [Pt.U, Pt.locs, Pt.cells, Pt.slots] at X61 l61 y61 z61 st61 hQ61
      subst l61 y61 z61
      obtain ⟨b61, rfl, N61q, sz61, K61, R61_0, R61_1⟩ := hQ61
      have ne_b47_b61 : b47 ≠ b61 := Nat.ne_of_lt (Nat.lt_of_lt_of_le Bb47_60.lt sz61)
      have ne_b48_b61 : b48 ≠ b61 := Nat.ne_of_lt (Nat.lt_of_lt_of_le Bb48_60.lt sz61)
      have ne_b50_b61 : b50 ≠ b61 := Nat.ne_of_lt (Nat.lt_of_lt_of_le Bb50_60.lt sz61)
      have ne_b53_b61 : b53 ≠ b61 := Nat.ne_of_lt (Nat.lt_of_lt_of_le Bb53_60.lt sz61)
      have ne_b57_b61 : b57 ≠ b61 := Nat.ne_of_lt (Nat.lt_of_lt_of_le Ob57E_60.lt sz61)
      have ne_tt59_b61 : tt59 ≠ b61 := Nat.ne_of_lt (Nat.lt_of_lt_of_le Ott59L_60.lt sz61)
      have G61 : n0 ≤ b61 := Nat.le_trans Z60 sz61
      have Zk61 := Nat.le_trans Zk60 K61.1
      have Bb47_61 := Bb47_60.keep K61
      have Bb48_61 := Bb48_60.keep K61
      have Vb48_61 := Vb48_60.keep K61 nin0
      have Bb50_61 := Bb50_60.keep K61
      have Vb50_61 := Vb50_60.keep K61 nin0
      have Bb53_61 := Bb53_60.keep K61
      have Vb53_61 := Vb53_60.keep K61 nin0
      have Ob57E_61 := Ob57E_60.keep K61
      have Ob57parameters_61 := Ob57parameters_60.keep K61 nin0
      have Ott59L_61 := Ott59L_60.keep K61 nin0
      have Ott59E_61 := Ott59E_60.keep K61
      have Ob47L_61 := O60_0.keep K61 nin0
      have Z61 : n0 ≤ T61.heap.size := Nat.le_trans Z60 K61.1
      have N61 := Fr.app N60 N61q
      refine own_jp st61 ?_
      refine own_st (fun zw zk => XS.astore X61.here hx rfl (hb hby at_180) rfl rfl rfl zk) ?_
      show own_Go p e below G (T61.setTop (mkF m 182 #[.val (.int p0), .val (.int p1), .val (.int p2), .val (.int p3), .val (.int (0 : Int32)), .val (.int (0 : Int32)), .val (.ref b47), .val (.ref b48), .val (.ref b50), .val (.ref b53), .val (.ref b47), .val (.ref b47), .val (.ref b57), .val (.ref b61), .unset] []))
      refine own_st (fun zw zk => XS.aload X61.here hx rfl (hb hby at_182) rfl rfl zk) ?_
      refine own_st (fun zw zk => XS.aload X61.here hx rfl (hb hby at_184) rfl rfl zk) ?_
      refine own_st (fun zw zk => Jvm.RoadKit.acmp (g := (mkF m 186 #[.val (.int p0), .val (.int p1), .val (.int p2), .val (.int p3), .val (.int (0 : Int32)), .val (.int (0 : Int32)), .val (.ref b47), .val (.ref b48), .val (.ref b50), .val (.ref b53), .val (.ref b47), .val (.ref b47), .val (.ref b57), .val (.ref b61), .unset] [(.ref b47), (.ref b61)])) X61 hx rfl rfl rfl (pc0 := 186) (pc' := 191) (same := false) rfl (hb hby at_186) rfl (decide_eq_false fun q => (Ne.symm ne_b47_b61) (Value.ref.inj q)) (by decide) (by decide) zk) ?_
      refine own_st (fun zw zk => XS.aload X61.here hx rfl (hb hby at_191) rfl rfl zk) ?_
      refine own_st (fun zw zk => XS.iload X61.here hx rfl (hb hby at_193) rfl zk) ?_
      refine own_st (fun zw zk => XS.iloadN X61.here hx rfl (hb hby at_195) rfl zk) ?_
      refine own_st (fun zw zk => XS.iloadN X61.here hx rfl (hb hby at_196) rfl zk) ?_
      refine own_st (fun zw zk => XS.iloadN X61.here hx rfl (hb hby at_197) rfl zk) ?_
      show own_Go p e below G (T61.setTop (mkF m 198 #[.val (.int p0), .val (.int p1), .val (.int p2), .val (.int p3), .val (.int (0 : Int32)), .val (.int (0 : Int32)), .val (.ref b47), .val (.ref b48), .val (.ref b50), .val (.ref b53), .val (.ref b47), .val (.ref b47), .val (.ref b57), .val (.ref b61), .unset] [(.int p2), (.int p1), (.int p0), (.int (0 : Int32)), (.ref b61)]))
      obtain ⟨_, _, ⟨T62, L62, k62, n62⟩, -, X62, ⟨Lc62, hQ62, l62, y62, z62⟩, st62⟩ := Jvm.LawKit.callS X61 hx (y := (⟨"com/example/attestrum/attestrum/schemes/der/AlgorithmIdentifierParametersPinLaw", "matches", "([BIIII)Z"⟩ : MethodName)) hown' (mvT hZ' (hw _ (List.mem_of_getElem? (i := 39) rfl))) (mvT hZ' (hw _ (List.mem_of_getElem? (i := 40) rfl))) (mvT hZ' (hw _ (List.mem_of_getElem? (i := 32) rfl))) (mvT hZ' (hw _ (List.mem_of_getElem? (i := 41) rfl))) (by decide) (backOf (W := 0) (rm_m0 l Z a0 hw [] b61 (0 : Int32) p0 p1 p2 T61.heap n0 Z61 (R61_0) (rfl)) hZ' (hw _ (List.mem_of_getElem? (i := 41) rfl)) (hw _ (List.mem_of_getElem? (i := 32) rfl)) (by decide) (by decide)) (g := (mkF m 198 #[.val (.int p0), .val (.int p1), .val (.int p2), .val (.int p3), .val (.int (0 : Int32)), .val (.int (0 : Int32)), .val (.ref b47), .val (.ref b48), .val (.ref b50), .val (.ref b53), .val (.ref b47), .val (.ref b47), .val (.ref b57), .val (.ref b61), .unset] [(.int p2), (.int p1), (.int p0), (.int (0 : Int32)), (.ref b61)])) rfl (by rw [hml]; rfl) (argsL := [(.ref b61), (.int (0 : Int32)), (.int p0), (.int p1), (.int p2)]) (rest := []) (lenOf pd_3 rfl) rfl (by show 2 * 0 + _ ≤ _; exact Nat.le_of_eq rfl) (hb hby at_198) (fun _ _ => ⟨rfl, rfl, (by decide : 9 + 0 ≤ _), (by decide : 24 + 0 ≤ _)⟩)
      dsimp only [Pt.U, Pt.locs, Pt.cells, Pt.slots] at X62 l62 y62 z62 st62 hQ62
      subst l62 y62 z62
      obtain ⟨rfl, N62q, e62⟩ := hQ62
      have N62 := Fr.app N61 N62q
      refine own_st (fun zw zk => st62 zw zk) ?_
      refine own_st (fun zw zk => XS.ifYes X62.here hx rfl (pc0 := 201) (pc' := 206) rfl (hb hby at_201) rfl ((if0 _ _).trans (feq (by decide : ¬ ((1 : Int32) = (0 : Int32)))).2) (by decide) (by decide) zk) ?_
      refine own_st (fun zw zk => XS.aload X62.here hx rfl (hb hby at_206) rfl rfl zk) ?_
      refine own_st (fun zw zk => XS.iload X62.here hx rfl (hb hby at_208) rfl zk) ?_
      refine own_st (fun zw zk => XS.iloadN X62.here hx rfl (hb hby at_210) rfl zk) ?_
      refine own_st (fun zw zk => XS.iloadN X62.here hx rfl (hb hby at_211) rfl zk) ?_
      refine own_st (fun zw zk => XS.iloadN X62.here hx rfl (hb hby at_212) rfl zk) ?_
      obtain ⟨_, _, ⟨T63, L63, k63, n63⟩, -, X63, ⟨Lc63, hQ63, l63, y63, z63⟩, st63⟩ := Jvm.LawKit.callS X62 hx (y := (⟨"com/example/attestrum/attestrum/schemes/der/AlgorithmIdentifierParametersPinLaw", "spoil", "([BIIII)V"⟩ : MethodName)) hown' (mvT hZ' (hw _ (List.mem_of_getElem? (i := 30) rfl))) (mvT hZ' (hw _ (List.mem_of_getElem? (i := 31) rfl))) (mvT hZ' (hw _ (List.mem_of_getElem? (i := 32) rfl))) (mvT hZ' (hw _ (List.mem_of_getElem? (i := 33) rfl))) (by decide) (backOf (W := 0) (rm_s0 l Z a0 hw [] b61 (0 : Int32) p0 p1 p2 T61.heap n0 Z61 (R61_0) (G61) (rfl)) hZ' (hw _ (List.mem_of_getElem? (i := 33) rfl)) (hw _ (List.mem_of_getElem? (i := 32) rfl)) (by decide) (by decide)) (g := (mkF m 213 #[.val (.int p0), .val (.int p1), .val (.int p2), .val (.int p3), .val (.int (0 : Int32)), .val (.int (0 : Int32)), .val (.ref b47), .val (.ref b48), .val (.ref b50), .val (.ref b53), .val (.ref b47), .val (.ref b47), .val (.ref b57), .val (.ref b61), .unset] [(.int p2), (.int p1), (.int p0), (.int (0 : Int32)), (.ref b61)])) rfl (by rw [hml]; rfl) (argsL := [(.ref b61), (.int (0 : Int32)), (.int p0), (.int p1), (.int p2)]) (rest := []) (lenOf pd_1 rfl) rfl (by show 2 * 0 + _ ≤ _; exact Nat.le_of_eq rfl) (hb hby at_213) (fun _ _ => ⟨rfl, e62, (by decide : 9 + 0 ≤ _), (by decide : 24 + 0 ≤ _)⟩)
      dsimp only [Pt.U, Pt.locs, Pt.cells, Pt.slots] at X63 l63 y63 z63 st63 hQ63
      subst l63 y63 z63
      obtain ⟨rfl, N63q, K63, O63_0⟩ := hQ63
      have Zk63 := Nat.le_trans Zk61 K63.1
      have Bb47_63 := Bb47_61.keep K63
      have Bb48_63 := Bb48_61.keep K63
      have Vb48_63 := Vb48_61.keep K63 (ninS ne_b48_b61 nin0)
      have Bb50_63 := Bb50_61.keep K63
      have Vb50_63 := Vb50_61.keep K63 (ninS ne_b50_b61 nin0)
      have Bb53_63 := Bb53_61.keep K63
      have Vb53_63 := Vb53_61.keep K63 (ninS ne_b53_b61 nin0)
      have Ob57E_63 := Ob57E_61.keep K63
      have Ob57parameters_63 := Ob57parameters_61.keep K63 (ninS ne_b57_b61 nin0)
      have Ott59L_63 := Ott59L_61.keep K63 (ninS ne_tt59_b61 nin0)
      have Ott59E_63 := Ott59E_61.keep K63
      have Ob47L_63 := Ob47L_61.keep K63 (ninS ne_b47_b61 nin0)
      have Rb61E_63 := R61_1.keep K63
      have Z63 : n0 ≤ T63.heap.size := Nat.le_trans Z61 K63.1
      have N63 := Fr.app N62 N63q
      refine own_st (fun zw zk => st63 zw zk) ?_
      show own_Go p e below G (T63.setTop (mkF m 216 #[.val (.int p0), .val (.int p1), .val (.int p2), .val (.int p3), .val (.int (0 : Int32)), .val (.int (0 : Int32)), .val (.ref b47), .val (.ref b48), .val (.ref b50), .val (.ref b53), .val (.ref b47), .val (.ref b47), .val (.ref b57), .val (.ref b61), .unset] []))
      refine own_st (fun zw zk => XS.aload X63.here hx rfl (hb hby at_216) rfl rfl zk) ?_
      obtain ⟨cq64, kq64, q64a, q64b, q64c⟩ := isOf hZ' rfl Ob57E_63
      obtain ⟨_, _, ⟨T64, L64, k64, n64⟩, -, X64, ⟨Lc64, hQ64, l64, y64, z64⟩, st64⟩ := X63.virtualBack hx (y := (⟨"com/example/attestrum/attestrum/schemes/der/AlgorithmIdentifier", "parameters", "()[B"⟩ : MethodName)) (z := (⟨"com/example/attestrum/attestrum/schemes/der/AlgorithmIdentifier", "parameters", "()[B"⟩ : MethodName)) hown' (mvT hZ' (hw _ (List.mem_of_getElem? (i := 34) rfl))) (mvT hZ' (hw _ (List.mem_of_getElem? (i := 35) rfl))) (notFace_of_selects (args := #[]) (mvT hZ' (hw _ (List.mem_of_getElem? (i := 37) rfl)))) (mvT hZ' (hw _ (List.mem_of_getElem? (i := 37) rfl))) (mvT hZ' (hw _ (List.mem_of_getElem? (i := 36) rfl))) (by decide) (backOf (W := 0) (rm_p0 l Z a0 hw [] b57 tt59 T63.heap n0 Z63 (Ob57parameters_63) (Ott59L_63) (Ott59E_63) (own_fit0)) hZ' (hw _ (List.mem_of_getElem? (i := 38) rfl)) (hw _ (List.mem_of_getElem? (i := 3) rfl)) (by decide) (by decide)) q64a q64c (g := (mkF m 218 #[.val (.int p0), .val (.int p1), .val (.int p2), .val (.int p3), .val (.int (0 : Int32)), .val (.int (0 : Int32)), .val (.ref b47), .val (.ref b48), .val (.ref b50), .val (.ref b53), .val (.ref b47), .val (.ref b47), .val (.ref b57), .val (.ref b61), .unset] [(.ref b57)])) rfl (by rw [hml]; rfl) (Steps.refl _) (argsL := []) (rest := []) (lenOf pd_2 rfl) rfl (by show 2 * 0 + _ ≤ _; exact Nat.le_of_eq rfl) (hb hby at_218) (fun _ _ => ⟨rfl, rfl, (by decide : 9 + 1 ≤ _), (by decide : 24 + 0 ≤ _)⟩)
      dsimp only [Pt.U, Pt.locs, Pt.cells, Pt.slots] at X64 l64 y64 z64 st64 hQ64
      subst l64 y64 z64
      obtain ⟨b64, rfl, N64q, sz64, K64, R64_0, R64_1⟩ := hQ64
      have ne_b47_b64 : b47 ≠ b64 := Nat.ne_of_lt (Nat.lt_of_lt_of_le Bb47_63.lt sz64)
      have ne_b48_b64 : b48 ≠ b64 := Nat.ne_of_lt (Nat.lt_of_lt_of_le Bb48_63.lt sz64)
      have ne_b50_b64 : b50 ≠ b64 := Nat.ne_of_lt (Nat.lt_of_lt_of_le Bb50_63.lt sz64)
      have ne_b53_b64 : b53 ≠ b64 := Nat.ne_of_lt (Nat.lt_of_lt_of_le Bb53_63.lt sz64)
      have ne_b57_b64 : b57 ≠ b64 := Nat.ne_of_lt (Nat.lt_of_lt_of_le Ob57E_63.lt sz64)
      have ne_tt59_b64 : tt59 ≠ b64 := Nat.ne_of_lt (Nat.lt_of_lt_of_le Ott59L_63.lt sz64)
      have ne_b61_b64 : b61 ≠ b64 := Nat.ne_of_lt (Nat.lt_of_lt_of_le Rb61E_63.lt sz64)
      have G64 : n0 ≤ b64 := Nat.le_trans Z63 sz64
      have Zk64 := Nat.le_trans Zk63 K64.1
      have Bb47_64 := Bb47_63.keep K64
      have Bb48_64 := Bb48_63.keep K64
      have Vb48_64 := Vb48_63.keep K64 nin0
      have Bb50_64 := Bb50_63.keep K64
      have Vb50_64 := Vb50_63.keep K64 nin0
      have Bb53_64 := Bb53_63.keep K64
      have Vb53_64 := Vb53_63.keep K64 nin0
      have Ob57E_64 := Ob57E_63.keep K64
      have Ob57parameters_64 := Ob57parameters_63.keep K64 nin0
      have Ott59L_64 := Ott59L_63.keep K64 nin0
      have Ott59E_64 := Ott59E_63.keep K64
      have Ob47L_64 := Ob47L_63.keep K64 nin0
      have Rb61E_64 := Rb61E_63.keep K64
      have Ob61L_64 := O63_0.keep K64 nin0
      have Z64 : n0 ≤ T64.heap.size := Nat.le_trans Z63 K64.1
      have N64 := Fr.app N63 N64q
      refine own_jp st64 ?_
      refine own_st (fun zw zk => XS.astore X64.here hx rfl (hb hby at_221) rfl rfl rfl zk) ?_
      show own_Go p e below G (T64.setTop (mkF m 223 #[.val (.int p0), .val (.int p1), .val (.int p2), .val (.int p3), .val (.int (0 : Int32)), .val (.int (0 : Int32)), .val (.ref b47), .val (.ref b48), .val (.ref b50), .val (.ref b53), .val (.ref b47), .val (.ref b47), .val (.ref b57), .val (.ref b61), .val (.ref b64)] []))
      refine own_st (fun zw zk => XS.aload X64.here hx rfl (hb hby at_223) rfl rfl zk) ?_
      refine own_st (fun zw zk => XS.aload X64.here hx rfl (hb hby at_225) rfl rfl zk) ?_
      refine own_st (fun zw zk => Jvm.RoadKit.acmp (g := (mkF m 227 #[.val (.int p0), .val (.int p1), .val (.int p2), .val (.int p3), .val (.int (0 : Int32)), .val (.int (0 : Int32)), .val (.ref b47), .val (.ref b48), .val (.ref b50), .val (.ref b53), .val (.ref b47), .val (.ref b47), .val (.ref b57), .val (.ref b61), .val (.ref b64)] [(.ref b61), (.ref b64)])) X64 hx rfl rfl rfl (pc0 := 227) (pc' := 230) (same := false) rfl (hb hby at_227) rfl (decide_eq_false fun q => (Ne.symm ne_b61_b64) (Value.ref.inj q)) (by decide) (by decide) zk) ?_
      refine own_st (fun zw zk => XS.aload X64.here hx rfl (hb hby at_230) rfl rfl zk) ?_
      refine own_st (fun zw zk => XS.aload X64.here hx rfl (hb hby at_232) rfl rfl zk) ?_
      refine own_st (fun zw zk => Jvm.RoadKit.acmp (g := (mkF m 234 #[.val (.int p0), .val (.int p1), .val (.int p2), .val (.int p3), .val (.int (0 : Int32)), .val (.int (0 : Int32)), .val (.ref b47), .val (.ref b48), .val (.ref b50), .val (.ref b53), .val (.ref b47), .val (.ref b47), .val (.ref b57), .val (.ref b61), .val (.ref b64)] [(.ref b47), (.ref b64)])) X64 hx rfl rfl rfl (pc0 := 234) (pc' := 239) (same := false) rfl (hb hby at_234) rfl (decide_eq_false fun q => (Ne.symm ne_b47_b64) (Value.ref.inj q)) (by decide) (by decide) zk) ?_
      refine own_st (fun zw zk => XS.aload X64.here hx rfl (hb hby at_239) rfl rfl zk) ?_
      refine own_st (fun zw zk => XS.iload X64.here hx rfl (hb hby at_241) rfl zk) ?_
      show own_Go p e below G (T64.setTop (mkF m 243 #[.val (.int p0), .val (.int p1), .val (.int p2), .val (.int p3), .val (.int (0 : Int32)), .val (.int (0 : Int32)), .val (.ref b47), .val (.ref b48), .val (.ref b50), .val (.ref b53), .val (.ref b47), .val (.ref b47), .val (.ref b57), .val (.ref b61), .val (.ref b64)] [(.int (0 : Int32)), (.ref b64)]))
      refine own_st (fun zw zk => XS.iloadN X64.here hx rfl (hb hby at_243) rfl zk) ?_
      refine own_st (fun zw zk => XS.iloadN X64.here hx rfl (hb hby at_244) rfl zk) ?_
      refine own_st (fun zw zk => XS.iloadN X64.here hx rfl (hb hby at_245) rfl zk) ?_
      obtain ⟨_, _, ⟨T65, L65, k65, n65⟩, -, X65, ⟨Lc65, hQ65, l65, y65, z65⟩, st65⟩ := Jvm.LawKit.callS X64 hx (y := (⟨"com/example/attestrum/attestrum/schemes/der/AlgorithmIdentifierParametersPinLaw", "matches", "([BIIII)Z"⟩ : MethodName)) hown' (mvT hZ' (hw _ (List.mem_of_getElem? (i := 39) rfl))) (mvT hZ' (hw _ (List.mem_of_getElem? (i := 40) rfl))) (mvT hZ' (hw _ (List.mem_of_getElem? (i := 32) rfl))) (mvT hZ' (hw _ (List.mem_of_getElem? (i := 41) rfl))) (by decide) (backOf (W := 0) (rm_m0 l Z a0 hw [] b64 (0 : Int32) p0 p1 p2 T64.heap n0 Z64 (R64_0) (rfl)) hZ' (hw _ (List.mem_of_getElem? (i := 41) rfl)) (hw _ (List.mem_of_getElem? (i := 32) rfl)) (by decide) (by decide)) (g := (mkF m 246 #[.val (.int p0), .val (.int p1), .val (.int p2), .val (.int p3), .val (.int (0 : Int32)), .val (.int (0 : Int32)), .val (.ref b47), .val (.ref b48), .val (.ref b50), .val (.ref b53), .val (.ref b47), .val (.ref b47), .val (.ref b57), .val (.ref b61), .val (.ref b64)] [(.int p2), (.int p1), (.int p0), (.int (0 : Int32)), (.ref b64)])) rfl (by rw [hml]; rfl) (argsL := [(.ref b64), (.int (0 : Int32)), (.int p0), (.int p1), (.int p2)]) (rest := []) (lenOf pd_3 rfl) rfl (by show 2 * 0 + _ ≤ _; exact Nat.le_of_eq rfl) (hb hby at_246) (fun _ _ => ⟨rfl, rfl, (by decide : 10 + 0 ≤ _), (by decide : 24 + 0 ≤ _)⟩)
      dsimp only [Pt.U, Pt.locs, Pt.cells, Pt.slots] at X65 l65 y65 z65 st65 hQ65
      subst l65 y65 z65
      obtain ⟨rfl, N65q, e65⟩ := hQ65
      have N65 := Fr.app N64 N65q
      refine own_st (fun zw zk => st65 zw zk) ?_
      subst hG
      obtain ⟨fs, hr, hrun, hended, hRW⟩ := Jvm.Stand.leaveW (s := s) X65 hS (by rw [e65]; exact Zk64) (v := some (.int (1 : Int32))) (fun h => by rw [Bd.returns] at h; cases h)
      refine ⟨_, retN X65 hx (t := .boolean) Bd.returns (by simp) (hb hby at_249) hr, _, hrun, hended, _, _, rfl, ?_, hRW.1, hRW.2.1, hRW.2.2.1, hRW.2.2.2.mono (by decide) (by decide)⟩
      show Q0 Z p0 p1 p2 p3 h0 n0 _ T65.heap _
      rw [e65]
      exact ⟨rfl, N65⟩
    · refine own_st (fun zw zk => XS.ifNo X0.here hx rfl (hb hby at_8) rfl ((if0 _ _).trans (feq hc8).1) zk) ?_
      refine own_st (fun zw zk => XS.iconst X0.here hx rfl (hb hby at_11) zk) ?_
      refine own_st (fun zw zk => XS.goto X0.here hx rfl (pc0 := 12) (pc' := 16) rfl (hb hby at_12) (by decide) (by decide) zk) ?_
      show own_Go p e below G (s₁.setTop (mkF m 16 #[.val (.int p0), .val (.int p1), .val (.int p2), .val (.int p3), .val (.int (0 : Int32)), .unset, .unset, .unset, .unset, .unset, .unset, .unset, .unset, .unset, .unset] [(.int (1 : Int32))]))
      refine own_st (fun zw zk => XS.istore X0.here hx rfl (hb hby at_16) rfl rfl zk) ?_
      show own_Go p e below G (s₁.setTop (mkF m 18 #[.val (.int p0), .val (.int p1), .val (.int p2), .val (.int p3), .val (.int (0 : Int32)), .val (.int (1 : Int32)), .unset, .unset, .unset, .unset, .unset, .unset, .unset, .unset, .unset] []))
      refine own_st (fun zw zk => XS.iconst X0.here hx rfl (hb hby at_18) zk) ?_
      obtain ⟨T66, h66, k66, X66, e66, E66, A66, B66, st66⟩ := newPE X0 hx hZ (hw _ (List.mem_of_getElem? (i := 0) rfl)) e0 (g := (mkF m 19 #[.val (.int p0), .val (.int p1), .val (.int p2), .val (.int p3), .val (.int (0 : Int32)), .val (.int (1 : Int32)), .unset, .unset, .unset, .unset, .unset, .unset, .unset, .unset, .unset] [(.int (0 : Int32))])) rfl (hb hby at_19) rfl (by decide) (cap := 0) (by decide) (by decide) (by decide) (by decide) (ad := "[B") (by decide)
      obtain ⟨b66, g66⟩ : ∃ z, z = h0.size := ⟨_, rfl⟩
      rw [← g66] at A66 B66 st66
      have G66 : n0 ≤ b66 := Nat.le_trans Z0 (Nat.le_of_eq g66.symm)
      have Z66 : n0 ≤ h66.size := Nat.le_trans Z0 E66.1
      have V66 : own_L Z h66 b66 .byte ([]) := own_L.new A66
      refine own_st (fun zw zk => st66 zw zk) ?_
      refine own_st (fun zw zk => XS.astore X66.here hx rfl (hb hby at_21) rfl rfl rfl zk) ?_
      show own_Go p e below G (T66.setTop (mkF m 23 #[.val (.int p0), .val (.int p1), .val (.int p2), .val (.int p3), .val (.int (0 : Int32)), .val (.int (1 : Int32)), .val (.ref b66), .unset, .unset, .unset, .unset, .unset, .unset, .unset, .unset] []))
      refine own_st (fun zw zk => XS.iconst X66.here hx rfl (hb hby at_23) zk) ?_
      obtain ⟨T67, h67, k67, X67, e67, E67, A67, B67, st67⟩ := newPE X66 hx hZ (hw _ (List.mem_of_getElem? (i := 0) rfl)) e66 (g := (mkF m 24 #[.val (.int p0), .val (.int p1), .val (.int p2), .val (.int p3), .val (.int (0 : Int32)), .val (.int (1 : Int32)), .val (.ref b66), .unset, .unset, .unset, .unset, .unset, .unset, .unset, .unset] [(.int (1 : Int32))])) rfl (hb hby at_24) rfl (by decide) (cap := 1) (by decide) (by decide) (by decide) (by decide) (ad := "[B") (by decide)
      obtain ⟨b67, g67⟩ : ∃ z, z = h66.size := ⟨_, rfl⟩
      rw [← g67] at A67 B67 st67
      have G67 : n0 ≤ b67 := Nat.le_trans Z66 (Nat.le_of_eq g67.symm)
      have ne_b66_b67 : b66 ≠ b67 := Nat.ne_of_lt (Nat.lt_of_lt_of_le V66.lt (Nat.le_of_eq g67.symm))
      have Vb66_67 := V66.ext E67
      have Bb66_67 := B66.ext E67
      have Z67 : n0 ≤ h67.size := Nat.le_trans Z66 E67.1
      have V67 : own_L Z h67 b67 .byte ([(.int (0 : Int32))]) := own_L.new A67
      refine own_st (fun zw zk => st67 zw zk) ?_
      refine own_st (fun zw zk => XS.dup X67.here hx rfl (hb hby at_26) rfl rfl zk) ?_
      refine own_st (fun zw zk => XS.iconst X67.here hx rfl (hb hby at_27) zk) ?_
      refine own_st (fun zw zk => XS.iloadN X67.here hx rfl (hb hby at_28) rfl zk) ?_
      refine own_st (fun zw zk => XS.i2b X67.here hx rfl (hb hby at_29) rfl zk) ?_
      obtain ⟨T68, h68, X68, e68, W68, V68, st68⟩ := own_bst X67 hx hZ e67 V67 (j := (0 : Int32)) (0) (by decide) (by decide) (Nat.le_of_ble_eq_true rfl) (g := (mkF m 30 #[.val (.int p0), .val (.int p1), .val (.int p2), .val (.int p3), .val (.int (0 : Int32)), .val (.int (1 : Int32)), .val (.ref b66), .unset, .unset, .unset, .unset, .unset, .unset, .unset, .unset] [(.int (p0.toInt8.toInt32)), (.int (0 : Int32)), (.ref b67), (.ref b67)])) rfl rfl (hb hby at_30)
      have Vb67_68 : own_L Z h68 b67 .byte ([(.int ((p0.toInt8.toInt32).toInt8.toInt32))]) := V68
      have N68 := Fr.snoc X68 N0 G67
      refine own_st (fun zw zk => st68 zw zk) ?_
      have Vb66_68 := Vb66_67.other W68 ne_b66_b67
      have Bb66_68 := Bb66_67.wr W68
      have Bb67_68 := B67.wr W68
      have Z68 : n0 ≤ h68.size := Nat.le_trans Z67 (Keep.of_wr W68).1
      refine own_st (fun zw zk => XS.astore X68.here hx rfl (hb hby at_31) rfl rfl rfl zk) ?_
      show own_Go p e below G (T68.setTop (mkF m 33 #[.val (.int p0), .val (.int p1), .val (.int p2), .val (.int p3), .val (.int (0 : Int32)), .val (.int (1 : Int32)), .val (.ref b66), .val (.ref b67), .unset, .unset, .unset, .unset, .unset, .unset, .unset] []))
      refine own_st (fun zw zk => XS.iconst X68.here hx rfl (hb hby at_33) zk) ?_
      obtain ⟨T69, h69, k69, X69, e69, E69, A69, B69, st69⟩ := newPE X68 hx hZ (hw _ (List.mem_of_getElem? (i := 0) rfl)) e68 (g := (mkF m 34 #[.val (.int p0), .val (.int p1), .val (.int p2), .val (.int p3), .val (.int (0 : Int32)), .val (.int (1 : Int32)), .val (.ref b66), .val (.ref b67), .unset, .unset, .unset, .unset, .unset, .unset, .unset] [(.int (2 : Int32))])) rfl (hb hby at_34) rfl (by decide) (cap := 2) (by decide) (by decide) (by decide) (by decide) (ad := "[B") (by decide)
      obtain ⟨b69, g69⟩ : ∃ z, z = h68.size := ⟨_, rfl⟩
      rw [← g69] at A69 B69 st69
      have G69 : n0 ≤ b69 := Nat.le_trans Z68 (Nat.le_of_eq g69.symm)
      have ne_b66_b69 : b66 ≠ b69 := Nat.ne_of_lt (Nat.lt_of_lt_of_le Vb66_68.lt (Nat.le_of_eq g69.symm))
      have ne_b67_b69 : b67 ≠ b69 := Nat.ne_of_lt (Nat.lt_of_lt_of_le Bb67_68.lt (Nat.le_of_eq g69.symm))
      have Vb66_69 := Vb66_68.ext E69
      have Bb66_69 := Bb66_68.ext E69
      have Bb67_69 := Bb67_68.ext E69
      have Vb67_69 := Vb67_68.ext E69
      have Z69 : n0 ≤ h69.size := Nat.le_trans Z68 E69.1
      have V69 : own_L Z h69 b69 .byte ([(.int (0 : Int32)), (.int (0 : Int32))]) := own_L.new A69
      refine own_st (fun zw zk => st69 zw zk) ?_
      refine own_st (fun zw zk => XS.dup X69.here hx rfl (hb hby at_36) rfl rfl zk) ?_
      refine own_st (fun zw zk => XS.iconst X69.here hx rfl (hb hby at_37) zk) ?_
      refine own_st (fun zw zk => XS.iloadN X69.here hx rfl (hb hby at_38) rfl zk) ?_
      refine own_st (fun zw zk => XS.i2b X69.here hx rfl (hb hby at_39) rfl zk) ?_
      obtain ⟨T70, h70, X70, e70, W70, V70, st70⟩ := own_bst X69 hx hZ e69 V69 (j := (0 : Int32)) (0) (by decide) (by decide) (Nat.le_of_ble_eq_true rfl) (g := (mkF m 40 #[.val (.int p0), .val (.int p1), .val (.int p2), .val (.int p3), .val (.int (0 : Int32)), .val (.int (1 : Int32)), .val (.ref b66), .val (.ref b67), .unset, .unset, .unset, .unset, .unset, .unset, .unset] [(.int (p0.toInt8.toInt32)), (.int (0 : Int32)), (.ref b69), (.ref b69)])) rfl rfl (hb hby at_40)
      have Vb69_70 : own_L Z h70 b69 .byte ([(.int ((p0.toInt8.toInt32).toInt8.toInt32)), (.int (0 : Int32))]) := V70
      have N70 := Fr.snoc X70 N68 G69
      refine own_st (fun zw zk => st70 zw zk) ?_
      have Vb66_70 := Vb66_69.other W70 ne_b66_b69
      have Bb66_70 := Bb66_69.wr W70
      have Bb67_70 := Bb67_69.wr W70
      have Vb67_70 := Vb67_69.other W70 ne_b67_b69
      have Bb69_70 := B69.wr W70
      have Z70 : n0 ≤ h70.size := Nat.le_trans Z69 (Keep.of_wr W70).1
      refine own_st (fun zw zk => XS.dup X70.here hx rfl (hb hby at_41) rfl rfl zk) ?_
      show own_Go p e below G (T70.setTop (mkF m 42 #[.val (.int p0), .val (.int p1), .val (.int p2), .val (.int p3), .val (.int (0 : Int32)), .val (.int (1 : Int32)), .val (.ref b66), .val (.ref b67), .unset, .unset, .unset, .unset, .unset, .unset, .unset] [(.ref b69), (.ref b69)]))
      refine own_st (fun zw zk => XS.iconst X70.here hx rfl (hb hby at_42) zk) ?_
      refine own_st (fun zw zk => XS.iloadN X70.here hx rfl (hb hby at_43) rfl zk) ?_
      refine own_st (fun zw zk => XS.i2b X70.here hx rfl (hb hby at_44) rfl zk) ?_
      obtain ⟨T71, h71, X71, e71, W71, V71, st71⟩ := own_bst X70 hx hZ e70 Vb69_70 (j := (1 : Int32)) (1) (by decide) (by decide) (Nat.le_of_ble_eq_true rfl) (g := (mkF m 45 #[.val (.int p0), .val (.int p1), .val (.int p2), .val (.int p3), .val (.int (0 : Int32)), .val (.int (1 : Int32)), .val (.ref b66), .val (.ref b67), .unset, .unset, .unset, .unset, .unset, .unset, .unset] [(.int (p1.toInt8.toInt32)), (.int (1 : Int32)), (.ref b69), (.ref b69)])) rfl rfl (hb hby at_45)
      have Vb69_71 : own_L Z h71 b69 .byte ([(.int ((p0.toInt8.toInt32).toInt8.toInt32)), (.int ((p1.toInt8.toInt32).toInt8.toInt32))]) := V71
      have N71 := Fr.snoc X71 N70 G69
      refine own_st (fun zw zk => st71 zw zk) ?_
      have Vb66_71 := Vb66_70.other W71 ne_b66_b69
      have Bb66_71 := Bb66_70.wr W71
      have Bb67_71 := Bb67_70.wr W71
      have Vb67_71 := Vb67_70.other W71 ne_b67_b69
      have Bb69_71 := Bb69_70.wr W71
      have Z71 : n0 ≤ h71.size := Nat.le_trans Z70 (Keep.of_wr W71).1
      refine own_st (fun zw zk => XS.astore X71.here hx rfl (hb hby at_46) rfl rfl rfl zk) ?_
      show own_Go p e below G (T71.setTop (mkF m 48 #[.val (.int p0), .val (.int p1), .val (.int p2), .val (.int p3), .val (.int (0 : Int32)), .val (.int (1 : Int32)), .val (.ref b66), .val (.ref b67), .val (.ref b69), .unset, .unset, .unset, .unset, .unset, .unset] []))
      refine own_st (fun zw zk => XS.iconst X71.here hx rfl (hb hby at_48) zk) ?_
      obtain ⟨T72, h72, k72, X72, e72, E72, A72, B72, st72⟩ := newPE X71 hx hZ (hw _ (List.mem_of_getElem? (i := 0) rfl)) e71 (g := (mkF m 49 #[.val (.int p0), .val (.int p1), .val (.int p2), .val (.int p3), .val (.int (0 : Int32)), .val (.int (1 : Int32)), .val (.ref b66), .val (.ref b67), .val (.ref b69), .unset, .unset, .unset, .unset, .unset, .unset] [(.int (3 : Int32))])) rfl (hb hby at_49) rfl (by decide) (cap := 3) (by decide) (by decide) (by decide) (by decide) (ad := "[B") (by decide)
      obtain ⟨b72, g72⟩ : ∃ z, z = h71.size := ⟨_, rfl⟩
      rw [← g72] at A72 B72 st72
      have G72 : n0 ≤ b72 := Nat.le_trans Z71 (Nat.le_of_eq g72.symm)
      have ne_b66_b72 : b66 ≠ b72 := Nat.ne_of_lt (Nat.lt_of_lt_of_le Vb66_71.lt (Nat.le_of_eq g72.symm))
      have ne_b67_b72 : b67 ≠ b72 := Nat.ne_of_lt (Nat.lt_of_lt_of_le Bb67_71.lt (Nat.le_of_eq g72.symm))
      have ne_b69_b72 : b69 ≠ b72 := Nat.ne_of_lt (Nat.lt_of_lt_of_le Bb69_71.lt (Nat.le_of_eq g72.symm))
      have Vb66_72 := Vb66_71.ext E72
      have Bb66_72 := Bb66_71.ext E72
      have Bb67_72 := Bb67_71.ext E72
      have Vb67_72 := Vb67_71.ext E72
      have Bb69_72 := Bb69_71.ext E72
      have Vb69_72 := Vb69_71.ext E72
      have Z72 : n0 ≤ h72.size := Nat.le_trans Z71 E72.1
      have V72 : own_L Z h72 b72 .byte ([(.int (0 : Int32)), (.int (0 : Int32)), (.int (0 : Int32))]) := own_L.new A72
      refine own_st (fun zw zk => st72 zw zk) ?_
      refine own_st (fun zw zk => XS.dup X72.here hx rfl (hb hby at_51) rfl rfl zk) ?_
      refine own_st (fun zw zk => XS.iconst X72.here hx rfl (hb hby at_52) zk) ?_
      refine own_st (fun zw zk => XS.iloadN X72.here hx rfl (hb hby at_53) rfl zk) ?_
      refine own_st (fun zw zk => XS.i2b X72.here hx rfl (hb hby at_54) rfl zk) ?_
      obtain ⟨T73, h73, X73, e73, W73, V73, st73⟩ := own_bst X72 hx hZ e72 V72 (j := (0 : Int32)) (0) (by decide) (by decide) (Nat.le_of_ble_eq_true rfl) (g := (mkF m 55 #[.val (.int p0), .val (.int p1), .val (.int p2), .val (.int p3), .val (.int (0 : Int32)), .val (.int (1 : Int32)), .val (.ref b66), .val (.ref b67), .val (.ref b69), .unset, .unset, .unset, .unset, .unset, .unset] [(.int (p0.toInt8.toInt32)), (.int (0 : Int32)), (.ref b72), (.ref b72)])) rfl rfl (hb hby at_55)
      have Vb72_73 : own_L Z h73 b72 .byte ([(.int ((p0.toInt8.toInt32).toInt8.toInt32)), (.int (0 : Int32)), (.int (0 : Int32))]) := V73
      have N73 := Fr.snoc X73 N71 G72
      refine own_st (fun zw zk => st73 zw zk) ?_
      have Vb66_73 := Vb66_72.other W73 ne_b66_b72
      have Bb66_73 := Bb66_72.wr W73
      have Bb67_73 := Bb67_72.wr W73
      have Vb67_73 := Vb67_72.other W73 ne_b67_b72
      have Bb69_73 := Bb69_72.wr W73
      have Vb69_73 := Vb69_72.other W73 ne_b69_b72
      have Bb72_73 := B72.wr W73
      have Z73 : n0 ≤ h73.size := Nat.le_trans Z72 (Keep.of_wr W73).1
      refine own_st (fun zw zk => XS.dup X73.here hx rfl (hb hby at_56) rfl rfl zk) ?_
      show own_Go p e below G (T73.setTop (mkF m 57 #[.val (.int p0), .val (.int p1), .val (.int p2), .val (.int p3), .val (.int (0 : Int32)), .val (.int (1 : Int32)), .val (.ref b66), .val (.ref b67), .val (.ref b69), .unset, .unset, .unset, .unset, .unset, .unset] [(.ref b72), (.ref b72)]))
      refine own_st (fun zw zk => XS.iconst X73.here hx rfl (hb hby at_57) zk) ?_
      refine own_st (fun zw zk => XS.iloadN X73.here hx rfl (hb hby at_58) rfl zk) ?_
      refine own_st (fun zw zk => XS.i2b X73.here hx rfl (hb hby at_59) rfl zk) ?_
      obtain ⟨T74, h74, X74, e74, W74, V74, st74⟩ := own_bst X73 hx hZ e73 Vb72_73 (j := (1 : Int32)) (1) (by decide) (by decide) (Nat.le_of_ble_eq_true rfl) (g := (mkF m 60 #[.val (.int p0), .val (.int p1), .val (.int p2), .val (.int p3), .val (.int (0 : Int32)), .val (.int (1 : Int32)), .val (.ref b66), .val (.ref b67), .val (.ref b69), .unset, .unset, .unset, .unset, .unset, .unset] [(.int (p1.toInt8.toInt32)), (.int (1 : Int32)), (.ref b72), (.ref b72)])) rfl rfl (hb hby at_60)
      have Vb72_74 : own_L Z h74 b72 .byte ([(.int ((p0.toInt8.toInt32).toInt8.toInt32)), (.int ((p1.toInt8.toInt32).toInt8.toInt32)), (.int (0 : Int32))]) := V74
      have N74 := Fr.snoc X74 N73 G72
      refine own_st (fun zw zk => st74 zw zk) ?_
      have Vb66_74 := Vb66_73.other W74 ne_b66_b72
      have Bb66_74 := Bb66_73.wr W74
      have Bb67_74 := Bb67_73.wr W74
      have Vb67_74 := Vb67_73.other W74 ne_b67_b72
      have Bb69_74 := Bb69_73.wr W74
      have Vb69_74 := Vb69_73.other W74 ne_b69_b72
      have Bb72_74 := Bb72_73.wr W74
      have Z74 : n0 ≤ h74.size := Nat.le_trans Z73 (Keep.of_wr W74).1
      refine own_st (fun zw zk => XS.dup X74.here hx rfl (hb hby at_61) rfl rfl zk) ?_
      refine own_st (fun zw zk => XS.iconst X74.here hx rfl (hb hby at_62) zk) ?_
      refine own_st (fun zw zk => XS.iloadN X74.here hx rfl (hb hby at_63) rfl zk) ?_
      refine own_st (fun zw zk => XS.i2b X74.here hx rfl (hb hby at_64) rfl zk) ?_
      show own_Go p e below G (T74.setTop (mkF m 65 #[.val (.int p0), .val (.int p1), .val (.int p2), .val (.int p3), .val (.int (0 : Int32)), .val (.int (1 : Int32)), .val (.ref b66), .val (.ref b67), .val (.ref b69), .unset, .unset, .unset, .unset, .unset, .unset] [(.int (p2.toInt8.toInt32)), (.int (2 : Int32)), (.ref b72), (.ref b72)]))
      obtain ⟨T75, h75, X75, e75, W75, V75, st75⟩ := own_bst X74 hx hZ e74 Vb72_74 (j := (2 : Int32)) (2) (by decide) (by decide) (Nat.le_of_ble_eq_true rfl) (g := (mkF m 65 #[.val (.int p0), .val (.int p1), .val (.int p2), .val (.int p3), .val (.int (0 : Int32)), .val (.int (1 : Int32)), .val (.ref b66), .val (.ref b67), .val (.ref b69), .unset, .unset, .unset, .unset, .unset, .unset] [(.int (p2.toInt8.toInt32)), (.int (2 : Int32)), (.ref b72), (.ref b72)])) rfl rfl (hb hby at_65)
      have Vb72_75 : own_L Z h75 b72 .byte ([(.int ((p0.toInt8.toInt32).toInt8.toInt32)), (.int ((p1.toInt8.toInt32).toInt8.toInt32)), (.int ((p2.toInt8.toInt32).toInt8.toInt32))]) := V75
      have N75 := Fr.snoc X75 N74 G72
      refine own_st (fun zw zk => st75 zw zk) ?_
      have Vb66_75 := Vb66_74.other W75 ne_b66_b72
      have Bb66_75 := Bb66_74.wr W75
      have Bb67_75 := Bb67_74.wr W75
      have Vb67_75 := Vb67_74.other W75 ne_b67_b72
      have Bb69_75 := Bb69_74.wr W75
      have Vb69_75 := Vb69_74.other W75 ne_b69_b72
      have Bb72_75 := Bb72_74.wr W75
      have Z75 : n0 ≤ h75.size := Nat.le_trans Z74 (Keep.of_wr W75).1
      refine own_st (fun zw zk => XS.astore X75.here hx rfl (hb hby at_66) rfl rfl rfl zk) ?_
      show own_Go p e below G (T75.setTop (mkF m 68 #[.val (.int p0), .val (.int p1), .val (.int p2), .val (.int p3), .val (.int (0 : Int32)), .val (.int (1 : Int32)), .val (.ref b66), .val (.ref b67), .val (.ref b69), .val (.ref b72), .unset, .unset, .unset, .unset, .unset] []))
      refine own_st (fun zw zk => XS.iload X75.here hx rfl (hb hby at_68) rfl zk) ?_
      refine own_st (fun zw zk => XS.ifNo X75.here hx rfl (hb hby at_70) rfl ((if0 _ _).trans (teq (by decide : (0 : Int32) = (0 : Int32))).2) zk) ?_
      refine own_st (fun zw zk => XS.aload X75.here hx rfl (hb hby at_73) rfl rfl zk) ?_
      refine own_st (fun zw zk => XS.goto X75.here hx rfl (pc0 := 75) (pc' := 102) rfl (hb hby at_75) (by decide) (by decide) zk) ?_
      show own_Go p e below G (T75.setTop (mkF m 102 #[.val (.int p0), .val (.int p1), .val (.int p2), .val (.int p3), .val (.int (0 : Int32)), .val (.int (1 : Int32)), .val (.ref b66), .val (.ref b67), .val (.ref b69), .val (.ref b72), .unset, .unset, .unset, .unset, .unset] [(.ref b66)]))
      refine own_st (fun zw zk => XS.astore X75.here hx rfl (hb hby at_102) rfl rfl rfl zk) ?_
      show own_Go p e below G (T75.setTop (mkF m 104 #[.val (.int p0), .val (.int p1), .val (.int p2), .val (.int p3), .val (.int (0 : Int32)), .val (.int (1 : Int32)), .val (.ref b66), .val (.ref b67), .val (.ref b69), .val (.ref b72), .val (.ref b66), .unset, .unset, .unset, .unset] []))
      refine own_st (fun zw zk => XS.iload X75.here hx rfl (hb hby at_104) rfl zk) ?_
      refine own_st (fun zw zk => XS.ifNo X75.here hx rfl (hb hby at_106) rfl ((if0 _ _).trans (feq (by decide : ¬ ((1 : Int32) = (0 : Int32)))).1) zk) ?_
      refine own_st (fun zw zk => XS.aconstNull X75.here hx rfl (hb hby at_109) zk) ?_
      refine own_st (fun zw zk => XS.goto X75.here hx rfl (pc0 := 110) (pc' := 115) rfl (hb hby at_110) (by decide) (by decide) zk) ?_
      show own_Go p e below G (T75.setTop (mkF m 115 #[.val (.int p0), .val (.int p1), .val (.int p2), .val (.int p3), .val (.int (0 : Int32)), .val (.int (1 : Int32)), .val (.ref b66), .val (.ref b67), .val (.ref b69), .val (.ref b72), .val (.ref b66), .unset, .unset, .unset, .unset] [.null]))
      refine own_st (fun zw zk => XS.astore X75.here hx rfl (hb hby at_115) rfl rfl rfl zk) ?_
      show own_Go p e below G (T75.setTop (mkF m 117 #[.val (.int p0), .val (.int p1), .val (.int p2), .val (.int p3), .val (.int (0 : Int32)), .val (.int (1 : Int32)), .val (.ref b66), .val (.ref b67), .val (.ref b69), .val (.ref b72), .val (.ref b66), .val .null, .unset, .unset, .unset] []))
      obtain ⟨T76, h76, X76, e76, E76, A76, D76, -, st76⟩ := newO X75 hx hZ hown (hw _ (List.mem_of_getElem? (i := 1) rfl)) (hw _ (List.mem_of_getElem? (i := 2) rfl)) (hw _ (List.mem_of_getElem? (i := 3) rfl)) e75 (g := (mkF m 117 #[.val (.int p0), .val (.int p1), .val (.int p2), .val (.int p3), .val (.int (0 : Int32)), .val (.int (1 : Int32)), .val (.ref b66), .val (.ref b67), .val (.ref b69), .val (.ref b72), .val (.ref b66), .val .null, .unset, .unset, .unset] [])) rfl (hb hby at_117) (by decide) (by decide)
      obtain ⟨b76, g76⟩ : ∃ z, z = h75.size := ⟨_, rfl⟩
      rw [← g76] at A76 D76 st76
      have G76 : n0 ≤ b76 := Nat.le_trans Z75 (Nat.le_of_eq g76.symm)
      have ne_b66_b76 : b66 ≠ b76 := Nat.ne_of_lt (Nat.lt_of_lt_of_le Vb66_75.lt (Nat.le_of_eq g76.symm))
      have ne_b67_b76 : b67 ≠ b76 := Nat.ne_of_lt (Nat.lt_of_lt_of_le Bb67_75.lt (Nat.le_of_eq g76.symm))
      have ne_b69_b76 : b69 ≠ b76 := Nat.ne_of_lt (Nat.lt_of_lt_of_le Bb69_75.lt (Nat.le_of_eq g76.symm))
      have ne_b72_b76 : b72 ≠ b76 := Nat.ne_of_lt (Nat.lt_of_lt_of_le Bb72_75.lt (Nat.le_of_eq g76.symm))
      have Vb66_76 := Vb66_75.ext E76
      have Bb66_76 := Bb66_75.ext E76
      have Bb67_76 := Bb67_75.ext E76
      have Vb67_76 := Vb67_75.ext E76
      have Bb69_76 := Bb69_75.ext E76
      have Vb69_76 := Vb69_75.ext E76
      have Bb72_76 := Bb72_75.ext E76
      have Vb72_76 := Vb72_75.ext E76
      have Z76 : n0 ≤ h76.size := Nat.le_trans Z75 E76.1
      have Fb76oid : Fld Z h76 b76 "com/example/attestrum/attestrum/schemes/der/AlgorithmIdentifier" "oid" "Ljava/lang/String;" .null := D76 (Or.inr (hw _ (List.mem_of_getElem? (i := 18) rfl))) (ty := (.object "java/lang/String")) (by decide)
      have Fb76parameters : Fld Z h76 b76 "com/example/attestrum/attestrum/schemes/der/AlgorithmIdentifier" "parameters" "[B" .null := D76 (Or.inr (hw _ (List.mem_of_getElem? (i := 29) rfl))) (ty := (.array .byte)) (by decide)
      refine own_st (fun zw zk => st76 zw zk) ?_
      refine own_st (fun zw zk => XS.dup X76.here hx rfl (hb hby at_120) rfl rfl zk) ?_
      have wS77 : ∀ z ∈ Bundle.stringAtoms, z.before a0 Z = true := by
        intro z hz
        simp only [Bundle.stringAtoms, List.mem_cons, List.not_mem_nil, or_false] at hz
        rcases hz with rfl | rfl | rfl | rfl | rfl | rfl | rfl
        · exact (hw _ (List.mem_of_getElem? (i := 5) rfl))
        · exact (hw _ (List.mem_of_getElem? (i := 6) rfl))
        · exact (hw _ (List.mem_of_getElem? (i := 0) rfl))
        · exact (hw _ (List.mem_of_getElem? (i := 7) rfl))
        · exact (hw _ (List.mem_of_getElem? (i := 8) rfl))
        · exact (hw _ (List.mem_of_getElem? (i := 9) rfl))
        · exact (hw _ (List.mem_of_getElem? (i := 10) rfl))
      obtain ⟨b77, T77, h77, k77, X77, e77, E77, hS, Zk77, hZ', hown', st77⟩ := ldcS (s := s) (vm0 := s.vm) X76 hx hZ hown (hw _ (List.mem_of_getElem? (i := 4) rfl)) wS77 e76 ((State.WarmedH.refl s).since 0) (Nat.zero_le _) (g := (mkF m 121 #[.val (.int p0), .val (.int p1), .val (.int p2), .val (.int p3), .val (.int (0 : Int32)), .val (.int (1 : Int32)), .val (.ref b66), .val (.ref b67), .val (.ref b69), .val (.ref b72), .val (.ref b66), .val .null, .unset, .unset, .unset] [(.ref b76), (.ref b76)])) rfl (hb hby at_121) (n := 12) (by decide) (by decide) (by decide) (by decide)
      refine own_st (fun zw zk => st77 zw zk) ?_
      have Vb66_77 := Vb66_76.ext E77
      have Bb66_77 := Bb66_76.ext E77
      have Bb67_77 := Bb67_76.ext E77
      have Vb67_77 := Vb67_76.ext E77
      have Bb69_77 := Bb69_76.ext E77
      have Vb69_77 := Vb69_76.ext E77
      have Bb72_77 := Bb72_76.ext E77
      have Vb72_77 := Vb72_76.ext E77
      have Fb76oid_77 := Fb76oid.ext E77
      have Fb76parameters_77 := Fb76parameters.ext E77
      have Ab76_77 := A76.ext E77
      have Z77 : n0 ≤ h77.size := Nat.le_trans Z76 E77.1
      refine own_st (fun zw zk => XS.aload X77.here hx rfl (hb hby at_123) rfl rfl zk) ?_
      obtain ⟨_, _, ⟨T78, L78, k78, n78⟩, -, X78, ⟨Lc78, hQ78, l78, y78, z78⟩, st78⟩ := X77.specialBack hx (y := (⟨"com/example/attestrum/attestrum/schemes/der/AlgorithmIdentifier", "<init>", "(Ljava/lang/String;[B)V"⟩ : MethodName)) rfl hown' (mvT hZ' (hw _ (List.mem_of_getElem? (i := 11) rfl))) (mvT hZ' (hw _ (List.mem_of_getElem? (i := 12) rfl))) (mvT hZ' (hw _ (List.mem_of_getElem? (i := 13) rfl))) (by decide) (backOf (W := 1) (rm_in l Z a0 hw [] b76 b77 h77 n0 Z77 (Ab76_77) (Fb76oid_77) (Fb76parameters_77) (G76)) hZ' (hw _ (List.mem_of_getElem? (i := 13) rfl)) (hw _ (List.mem_of_getElem? (i := 3) rfl)) (by decide) (by decide)) (g := (mkF m 125 #[.val (.int p0), .val (.int p1), .val (.int p2), .val (.int p3), .val (.int (0 : Int32)), .val (.int (1 : Int32)), .val (.ref b66), .val (.ref b67), .val (.ref b69), .val (.ref b72), .val (.ref b66), .val .null, .unset, .unset, .unset] [.null, (.ref b77), (.ref b76), (.ref b76)])) rfl (by rw [hml]; rfl) (Steps.refl _) (a := b76) (argsL := [(.ref b77), .null]) (rest := [(.ref b76)]) (lenOf pd_0 rfl) rfl (by show 2 * 0 + _ ≤ _; exact Nat.le_of_eq rfl) (hb hby at_125) (fun _ _ => ⟨rfl, e77, (by decide : 7 + 0 ≤ _), (by decide : 24 + 0 ≤ _)⟩)
      dsimp only [Pt.U, Pt.locs, Pt.cells, Pt.slots] at X78 l78 y78 z78 st78 hQ78
      subst l78 y78 z78
      obtain ⟨rfl, N78q, K78, O78_0, O78_1⟩ := hQ78
      have Zk78 := Nat.le_trans Zk77 K78.1
      have Vb66_78 := Vb66_77.keep K78 (ninS ne_b66_b76 nin0)
      have Bb66_78 := Bb66_77.keep K78
      have Bb67_78 := Bb67_77.keep K78
      have Vb67_78 := Vb67_77.keep K78 (ninS ne_b67_b76 nin0)
      have Bb69_78 := Bb69_77.keep K78
      have Vb69_78 := Vb69_77.keep K78 (ninS ne_b69_b76 nin0)
      have Bb72_78 := Bb72_77.keep K78
      have Vb72_78 := Vb72_77.keep K78 (ninS ne_b72_b76 nin0)
      have Ab76_78 := Ab76_77.keep K78
      have Z78 : n0 ≤ T78.heap.size := Nat.le_trans Z77 K78.1
      have N78 := Fr.app N75 N78q
      refine own_jp st78 ?_
      refine own_st (fun zw zk => XS.astore X78.here hx rfl (hb hby at_128) rfl rfl rfl zk) ?_
      show own_Go p e below G (T78.setTop (mkF m 130 #[.val (.int p0), .val (.int p1), .val (.int p2), .val (.int p3), .val (.int (0 : Int32)), .val (.int (1 : Int32)), .val (.ref b66), .val (.ref b67), .val (.ref b69), .val (.ref b72), .val (.ref b66), .val .null, .val (.ref b76), .unset, .unset] []))
      refine own_st (fun zw zk => XS.aload X78.here hx rfl (hb hby at_130) rfl rfl zk) ?_
      refine own_st (fun zw zk => XS.ifnonnullNo X78.here hx rfl (hb hby at_132) rfl zk) ?_
      refine own_st (fun zw zk => XS.aload X78.here hx rfl (hb hby at_135) rfl rfl zk) ?_
      obtain ⟨cq79, kq79, q79a, q79b, q79c⟩ := isOf hZ' rfl O78_0
      obtain ⟨_, _, ⟨T79, L79, k79, n79⟩, -, X79, ⟨Lc79, hQ79, l79, y79, z79⟩, st79⟩ := X78.virtualBack hx (y := (⟨"com/example/attestrum/attestrum/schemes/der/AlgorithmIdentifier", "parameters", "()[B"⟩ : MethodName)) (z := (⟨"com/example/attestrum/attestrum/schemes/der/AlgorithmIdentifier", "parameters", "()[B"⟩ : MethodName)) hown' (mvT hZ' (hw _ (List.mem_of_getElem? (i := 34) rfl))) (mvT hZ' (hw _ (List.mem_of_getElem? (i := 35) rfl))) (notFace_of_selects (args := #[]) (mvT hZ' (hw _ (List.mem_of_getElem? (i := 37) rfl)))) (mvT hZ' (hw _ (List.mem_of_getElem? (i := 37) rfl))) (mvT hZ' (hw _ (List.mem_of_getElem? (i := 36) rfl))) (by decide) (backOf (W := 0) (rm_pn l Z a0 hw [] b76 T78.heap n0 Z78 (O78_1)) hZ' (hw _ (List.mem_of_getElem? (i := 38) rfl)) (hw _ (List.mem_of_getElem? (i := 3) rfl)) (by decide) (by decide)) q79a q79c (g := (mkF m 137 #[.val (.int p0), .val (.int p1), .val (.int p2), .val (.int p3), .val (.int (0 : Int32)), .val (.int (1 : Int32)), .val (.ref b66), .val (.ref b67), .val (.ref b69), .val (.ref b72), .val (.ref b66), .val .null, .val (.ref b76), .unset, .unset] [(.ref b76)])) rfl (by rw [hml]; rfl) (Steps.refl _) (argsL := []) (rest := []) (lenOf pd_2 rfl) rfl (by show 2 * 0 + _ ≤ _; exact Nat.le_of_eq rfl) (hb hby at_137) (fun _ _ => ⟨rfl, rfl, (by decide : 7 + 0 ≤ _), (by decide : 24 + 0 ≤ _)⟩)
      dsimp only [Pt.U, Pt.locs, Pt.cells, Pt.slots] at X79 l79 y79 z79 st79 hQ79
      subst l79 y79 z79
      obtain ⟨rfl, N79q, e79⟩ := hQ79
      have N79 := Fr.app N78 N79q
      refine own_jp st79 ?_
      refine own_st (fun zw zk => XS.astore X79.here hx rfl (hb hby at_140) rfl rfl rfl zk) ?_
      show own_Go p e below G (T79.setTop (mkF m 142 #[.val (.int p0), .val (.int p1), .val (.int p2), .val (.int p3), .val (.int (0 : Int32)), .val (.int (1 : Int32)), .val (.ref b66), .val (.ref b67), .val (.ref b69), .val (.ref b72), .val (.ref b66), .val .null, .val (.ref b76), .val .null, .unset] []))
      refine own_st (fun zw zk => XS.aload X79.here hx rfl (hb hby at_142) rfl rfl zk) ?_
      obtain ⟨cq80, kq80, q80a, q80b, q80c⟩ := isOf hZ' e79 O78_0
      obtain ⟨_, _, ⟨T80, L80, k80, n80⟩, -, X80, ⟨Lc80, hQ80, l80, y80, z80⟩, st80⟩ := X79.virtualBack hx (y := (⟨"com/example/attestrum/attestrum/schemes/der/AlgorithmIdentifier", "parameters", "()[B"⟩ : MethodName)) (z := (⟨"com/example/attestrum/attestrum/schemes/der/AlgorithmIdentifier", "parameters", "()[B"⟩ : MethodName)) hown' (mvT hZ' (hw _ (List.mem_of_getElem? (i := 34) rfl))) (mvT hZ' (hw _ (List.mem_of_getElem? (i := 35) rfl))) (notFace_of_selects (args := #[]) (mvT hZ' (hw _ (List.mem_of_getElem? (i := 37) rfl)))) (mvT hZ' (hw _ (List.mem_of_getElem? (i := 37) rfl))) (mvT hZ' (hw _ (List.mem_of_getElem? (i := 36) rfl))) (by decide) (backOf (W := 0) (rm_pn l Z a0 hw [] b76 T78.heap n0 Z78 (O78_1)) hZ' (hw _ (List.mem_of_getElem? (i := 38) rfl)) (hw _ (List.mem_of_getElem? (i := 3) rfl)) (by decide) (by decide)) q80a q80c (g := (mkF m 144 #[.val (.int p0), .val (.int p1), .val (.int p2), .val (.int p3), .val (.int (0 : Int32)), .val (.int (1 : Int32)), .val (.ref b66), .val (.ref b67), .val (.ref b69), .val (.ref b72), .val (.ref b66), .val .null, .val (.ref b76), .val .null, .unset] [(.ref b76)])) rfl (by rw [hml]; rfl) (Steps.refl _) (argsL := []) (rest := []) (lenOf pd_2 rfl) rfl (by show 2 * 0 + _ ≤ _; exact Nat.le_of_eq rfl) (hb hby at_144) (fun _ _ => ⟨rfl, e79, (by decide : 7 + 0 ≤ _), (by decide : 24 + 0 ≤ _)⟩)
      dsimp only [Pt.U, Pt.locs, Pt.cells, Pt.slots] at X80 l80 y80 z80 st80 hQ80
      subst l80 y80 z80
      obtain ⟨rfl, N80q, e80⟩ := hQ80
      have N80 := Fr.app N79 N80q
      refine own_jp st80 ?_
      refine own_st (fun zw zk => XS.astore X80.here hx rfl (hb hby at_147) rfl rfl rfl zk) ?_
      show own_Go p e below G (T80.setTop (mkF m 149 #[.val (.int p0), .val (.int p1), .val (.int p2), .val (.int p3), .val (.int (0 : Int32)), .val (.int (1 : Int32)), .val (.ref b66), .val (.ref b67), .val (.ref b69), .val (.ref b72), .val (.ref b66), .val .null, .val (.ref b76), .val .null, .val .null] []))
      refine own_st (fun zw zk => XS.aload X80.here hx rfl (hb hby at_149) rfl rfl zk) ?_
      refine own_st (fun zw zk => XS.ifnonnullNo X80.here hx rfl (hb hby at_151) rfl zk) ?_
      refine own_st (fun zw zk => XS.aload X80.here hx rfl (hb hby at_154) rfl rfl zk) ?_
      refine own_st (fun zw zk => XS.ifnonnullNo X80.here hx rfl (hb hby at_156) rfl zk) ?_
      refine own_st (fun zw zk => XS.iconst X80.here hx rfl (hb hby at_159) zk) ?_
      refine own_st (fun zw zk => XS.goto X80.here hx rfl (pc0 := 160) (pc' := 164) rfl (hb hby at_160) (by decide) (by decide) zk) ?_
      show own_Go p e below G (T80.setTop (mkF m 164 #[.val (.int p0), .val (.int p1), .val (.int p2), .val (.int p3), .val (.int (0 : Int32)), .val (.int (1 : Int32)), .val (.ref b66), .val (.ref b67), .val (.ref b69), .val (.ref b72), .val (.ref b66), .val .null, .val (.ref b76), .val .null, .val .null] [(.int (1 : Int32))]))
      subst hG
      obtain ⟨fs, hr, hrun, hended, hRW⟩ := Jvm.Stand.leaveW (s := s) X80 hS (by rw [e80]; exact Zk78) (v := some (.int (1 : Int32))) (fun h => by rw [Bd.returns] at h; cases h)
      refine ⟨_, retN X80 hx (t := .boolean) Bd.returns (by simp) (hb hby at_164) hr, _, hrun, hended, _, _, rfl, ?_, hRW.1, hRW.2.1, hRW.2.2.1, hRW.2.2.2.mono (by decide) (by decide)⟩
      show Q0 Z p0 p1 p2 p3 h0 n0 _ T80.heap _
      rw [e80]
      exact ⟨rfl, N80⟩
  · refine own_st (fun zw zk => XS.iloadN X0.here hx rfl (hb hby at_5) rfl zk) ?_
    refine own_st (fun zw zk => XS.iconst X0.here hx rfl (hb hby at_6) zk) ?_
    refine own_st (fun zw zk => XS.iand X0.here hx rfl (hb hby at_7) rfl zk) ?_
    by_cases hc8 : (p3 &&& (4 : Int32)) = (0 : Int32)
    · refine own_st (fun zw zk => XS.ifYes X0.here hx rfl (pc0 := 8) (pc' := 15) rfl (hb hby at_8) rfl ((if0 _ _).trans (teq hc8).1) (by decide) (by decide) zk) ?_
      refine own_st (fun zw zk => XS.iconst X0.here hx rfl (hb hby at_15) zk) ?_
      refine own_st (fun zw zk => XS.istore X0.here hx rfl (hb hby at_16) rfl rfl zk) ?_
      show own_Go p e below G (s₁.setTop (mkF m 18 #[.val (.int p0), .val (.int p1), .val (.int p2), .val (.int p3), .val (.int (1 : Int32)), .val (.int (0 : Int32)), .unset, .unset, .unset, .unset, .unset, .unset, .unset, .unset, .unset] []))
      refine own_st (fun zw zk => XS.iconst X0.here hx rfl (hb hby at_18) zk) ?_
      obtain ⟨T81, h81, k81, X81, e81, E81, A81, B81, st81⟩ := newPE X0 hx hZ (hw _ (List.mem_of_getElem? (i := 0) rfl)) e0 (g := (mkF m 19 #[.val (.int p0), .val (.int p1), .val (.int p2), .val (.int p3), .val (.int (1 : Int32)), .val (.int (0 : Int32)), .unset, .unset, .unset, .unset, .unset, .unset, .unset, .unset, .unset] [(.int (0 : Int32))])) rfl (hb hby at_19) rfl (by decide) (cap := 0) (by decide) (by decide) (by decide) (by decide) (ad := "[B") (by decide)
      obtain ⟨b81, g81⟩ : ∃ z, z = h0.size := ⟨_, rfl⟩
      rw [← g81] at A81 B81 st81
      have G81 : n0 ≤ b81 := Nat.le_trans Z0 (Nat.le_of_eq g81.symm)
      have Z81 : n0 ≤ h81.size := Nat.le_trans Z0 E81.1
      have V81 : own_L Z h81 b81 .byte ([]) := own_L.new A81
      refine own_st (fun zw zk => st81 zw zk) ?_
      refine own_st (fun zw zk => XS.astore X81.here hx rfl (hb hby at_21) rfl rfl rfl zk) ?_
      show own_Go p e below G (T81.setTop (mkF m 23 #[.val (.int p0), .val (.int p1), .val (.int p2), .val (.int p3), .val (.int (1 : Int32)), .val (.int (0 : Int32)), .val (.ref b81), .unset, .unset, .unset, .unset, .unset, .unset, .unset, .unset] []))
      refine own_st (fun zw zk => XS.iconst X81.here hx rfl (hb hby at_23) zk) ?_
      obtain ⟨T82, h82, k82, X82, e82, E82, A82, B82, st82⟩ := newPE X81 hx hZ (hw _ (List.mem_of_getElem? (i := 0) rfl)) e81 (g := (mkF m 24 #[.val (.int p0), .val (.int p1), .val (.int p2), .val (.int p3), .val (.int (1 : Int32)), .val (.int (0 : Int32)), .val (.ref b81), .unset, .unset, .unset, .unset, .unset, .unset, .unset, .unset] [(.int (1 : Int32))])) rfl (hb hby at_24) rfl (by decide) (cap := 1) (by decide) (by decide) (by decide) (by decide) (ad := "[B") (by decide)
      obtain ⟨b82, g82⟩ : ∃ z, z = h81.size := ⟨_, rfl⟩
      rw [← g82] at A82 B82 st82
      have G82 : n0 ≤ b82 := Nat.le_trans Z81 (Nat.le_of_eq g82.symm)
      have ne_b81_b82 : b81 ≠ b82 := Nat.ne_of_lt (Nat.lt_of_lt_of_le V81.lt (Nat.le_of_eq g82.symm))
      have Vb81_82 := V81.ext E82
      have Bb81_82 := B81.ext E82
      have Z82 : n0 ≤ h82.size := Nat.le_trans Z81 E82.1
      have V82 : own_L Z h82 b82 .byte ([(.int (0 : Int32))]) := own_L.new A82
      refine own_st (fun zw zk => st82 zw zk) ?_
      refine own_st (fun zw zk => XS.dup X82.here hx rfl (hb hby at_26) rfl rfl zk) ?_
      refine own_st (fun zw zk => XS.iconst X82.here hx rfl (hb hby at_27) zk) ?_
      refine own_st (fun zw zk => XS.iloadN X82.here hx rfl (hb hby at_28) rfl zk) ?_
      refine own_st (fun zw zk => XS.i2b X82.here hx rfl (hb hby at_29) rfl zk) ?_
      obtain ⟨T83, h83, X83, e83, W83, V83, st83⟩ := own_bst X82 hx hZ e82 V82 (j := (0 : Int32)) (0) (by decide) (by decide) (Nat.le_of_ble_eq_true rfl) (g := (mkF m 30 #[.val (.int p0), .val (.int p1), .val (.int p2), .val (.int p3), .val (.int (1 : Int32)), .val (.int (0 : Int32)), .val (.ref b81), .unset, .unset, .unset, .unset, .unset, .unset, .unset, .unset] [(.int (p0.toInt8.toInt32)), (.int (0 : Int32)), (.ref b82), (.ref b82)])) rfl rfl (hb hby at_30)
      have Vb82_83 : own_L Z h83 b82 .byte ([(.int ((p0.toInt8.toInt32).toInt8.toInt32))]) := V83
      have N83 := Fr.snoc X83 N0 G82
      refine own_st (fun zw zk => st83 zw zk) ?_
      have Vb81_83 := Vb81_82.other W83 ne_b81_b82
      have Bb81_83 := Bb81_82.wr W83
      have Bb82_83 := B82.wr W83
      have Z83 : n0 ≤ h83.size := Nat.le_trans Z82 (Keep.of_wr W83).1
      refine own_st (fun zw zk => XS.astore X83.here hx rfl (hb hby at_31) rfl rfl rfl zk) ?_
      show own_Go p e below G (T83.setTop (mkF m 33 #[.val (.int p0), .val (.int p1), .val (.int p2), .val (.int p3), .val (.int (1 : Int32)), .val (.int (0 : Int32)), .val (.ref b81), .val (.ref b82), .unset, .unset, .unset, .unset, .unset, .unset, .unset] []))
      refine own_st (fun zw zk => XS.iconst X83.here hx rfl (hb hby at_33) zk) ?_
      obtain ⟨T84, h84, k84, X84, e84, E84, A84, B84, st84⟩ := newPE X83 hx hZ (hw _ (List.mem_of_getElem? (i := 0) rfl)) e83 (g := (mkF m 34 #[.val (.int p0), .val (.int p1), .val (.int p2), .val (.int p3), .val (.int (1 : Int32)), .val (.int (0 : Int32)), .val (.ref b81), .val (.ref b82), .unset, .unset, .unset, .unset, .unset, .unset, .unset] [(.int (2 : Int32))])) rfl (hb hby at_34) rfl (by decide) (cap := 2) (by decide) (by decide) (by decide) (by decide) (ad := "[B") (by decide)
      obtain ⟨b84, g84⟩ : ∃ z, z = h83.size := ⟨_, rfl⟩
      rw [← g84] at A84 B84 st84
      have G84 : n0 ≤ b84 := Nat.le_trans Z83 (Nat.le_of_eq g84.symm)
      have ne_b81_b84 : b81 ≠ b84 := Nat.ne_of_lt (Nat.lt_of_lt_of_le Vb81_83.lt (Nat.le_of_eq g84.symm))
      have ne_b82_b84 : b82 ≠ b84 := Nat.ne_of_lt (Nat.lt_of_lt_of_le Bb82_83.lt (Nat.le_of_eq g84.symm))
      have Vb81_84 := Vb81_83.ext E84
      have Bb81_84 := Bb81_83.ext E84
      have Bb82_84 := Bb82_83.ext E84
      have Vb82_84 := Vb82_83.ext E84
      have Z84 : n0 ≤ h84.size := Nat.le_trans Z83 E84.1
      have V84 : own_L Z h84 b84 .byte ([(.int (0 : Int32)), (.int (0 : Int32))]) := own_L.new A84
      refine own_st (fun zw zk => st84 zw zk) ?_
      refine own_st (fun zw zk => XS.dup X84.here hx rfl (hb hby at_36) rfl rfl zk) ?_
      refine own_st (fun zw zk => XS.iconst X84.here hx rfl (hb hby at_37) zk) ?_
      refine own_st (fun zw zk => XS.iloadN X84.here hx rfl (hb hby at_38) rfl zk) ?_
      refine own_st (fun zw zk => XS.i2b X84.here hx rfl (hb hby at_39) rfl zk) ?_
      obtain ⟨T85, h85, X85, e85, W85, V85, st85⟩ := own_bst X84 hx hZ e84 V84 (j := (0 : Int32)) (0) (by decide) (by decide) (Nat.le_of_ble_eq_true rfl) (g := (mkF m 40 #[.val (.int p0), .val (.int p1), .val (.int p2), .val (.int p3), .val (.int (1 : Int32)), .val (.int (0 : Int32)), .val (.ref b81), .val (.ref b82), .unset, .unset, .unset, .unset, .unset, .unset, .unset] [(.int (p0.toInt8.toInt32)), (.int (0 : Int32)), (.ref b84), (.ref b84)])) rfl rfl (hb hby at_40)
      have Vb84_85 : own_L Z h85 b84 .byte ([(.int ((p0.toInt8.toInt32).toInt8.toInt32)), (.int (0 : Int32))]) := V85
      have N85 := Fr.snoc X85 N83 G84
      refine own_st (fun zw zk => st85 zw zk) ?_
      have Vb81_85 := Vb81_84.other W85 ne_b81_b84
      have Bb81_85 := Bb81_84.wr W85
      have Bb82_85 := Bb82_84.wr W85
      have Vb82_85 := Vb82_84.other W85 ne_b82_b84
      have Bb84_85 := B84.wr W85
      have Z85 : n0 ≤ h85.size := Nat.le_trans Z84 (Keep.of_wr W85).1
      refine own_st (fun zw zk => XS.dup X85.here hx rfl (hb hby at_41) rfl rfl zk) ?_
      show own_Go p e below G (T85.setTop (mkF m 42 #[.val (.int p0), .val (.int p1), .val (.int p2), .val (.int p3), .val (.int (1 : Int32)), .val (.int (0 : Int32)), .val (.ref b81), .val (.ref b82), .unset, .unset, .unset, .unset, .unset, .unset, .unset] [(.ref b84), (.ref b84)]))
      refine own_st (fun zw zk => XS.iconst X85.here hx rfl (hb hby at_42) zk) ?_
      refine own_st (fun zw zk => XS.iloadN X85.here hx rfl (hb hby at_43) rfl zk) ?_
      refine own_st (fun zw zk => XS.i2b X85.here hx rfl (hb hby at_44) rfl zk) ?_
      obtain ⟨T86, h86, X86, e86, W86, V86, st86⟩ := own_bst X85 hx hZ e85 Vb84_85 (j := (1 : Int32)) (1) (by decide) (by decide) (Nat.le_of_ble_eq_true rfl) (g := (mkF m 45 #[.val (.int p0), .val (.int p1), .val (.int p2), .val (.int p3), .val (.int (1 : Int32)), .val (.int (0 : Int32)), .val (.ref b81), .val (.ref b82), .unset, .unset, .unset, .unset, .unset, .unset, .unset] [(.int (p1.toInt8.toInt32)), (.int (1 : Int32)), (.ref b84), (.ref b84)])) rfl rfl (hb hby at_45)
      have Vb84_86 : own_L Z h86 b84 .byte ([(.int ((p0.toInt8.toInt32).toInt8.toInt32)), (.int ((p1.toInt8.toInt32).toInt8.toInt32))]) := V86
      have N86 := Fr.snoc X86 N85 G84
      refine own_st (fun zw zk => st86 zw zk) ?_
      have Vb81_86 := Vb81_85.other W86 ne_b81_b84
      have Bb81_86 := Bb81_85.wr W86
      have Bb82_86 := Bb82_85.wr W86
      have Vb82_86 := Vb82_85.other W86 ne_b82_b84
      have Bb84_86 := Bb84_85.wr W86
      have Z86 : n0 ≤ h86.size := Nat.le_trans Z85 (Keep.of_wr W86).1
      refine own_st (fun zw zk => XS.astore X86.here hx rfl (hb hby at_46) rfl rfl rfl zk) ?_
      show own_Go p e below G (T86.setTop (mkF m 48 #[.val (.int p0), .val (.int p1), .val (.int p2), .val (.int p3), .val (.int (1 : Int32)), .val (.int (0 : Int32)), .val (.ref b81), .val (.ref b82), .val (.ref b84), .unset, .unset, .unset, .unset, .unset, .unset] []))
      refine own_st (fun zw zk => XS.iconst X86.here hx rfl (hb hby at_48) zk) ?_
      obtain ⟨T87, h87, k87, X87, e87, E87, A87, B87, st87⟩ := newPE X86 hx hZ (hw _ (List.mem_of_getElem? (i := 0) rfl)) e86 (g := (mkF m 49 #[.val (.int p0), .val (.int p1), .val (.int p2), .val (.int p3), .val (.int (1 : Int32)), .val (.int (0 : Int32)), .val (.ref b81), .val (.ref b82), .val (.ref b84), .unset, .unset, .unset, .unset, .unset, .unset] [(.int (3 : Int32))])) rfl (hb hby at_49) rfl (by decide) (cap := 3) (by decide) (by decide) (by decide) (by decide) (ad := "[B") (by decide)
      obtain ⟨b87, g87⟩ : ∃ z, z = h86.size := ⟨_, rfl⟩
      rw [← g87] at A87 B87 st87
      have G87 : n0 ≤ b87 := Nat.le_trans Z86 (Nat.le_of_eq g87.symm)
      have ne_b81_b87 : b81 ≠ b87 := Nat.ne_of_lt (Nat.lt_of_lt_of_le Vb81_86.lt (Nat.le_of_eq g87.symm))
      have ne_b82_b87 : b82 ≠ b87 := Nat.ne_of_lt (Nat.lt_of_lt_of_le Bb82_86.lt (Nat.le_of_eq g87.symm))
      have ne_b84_b87 : b84 ≠ b87 := Nat.ne_of_lt (Nat.lt_of_lt_of_le Bb84_86.lt (Nat.le_of_eq g87.symm))
      have Vb81_87 := Vb81_86.ext E87
      have Bb81_87 := Bb81_86.ext E87
      have Bb82_87 := Bb82_86.ext E87
      have Vb82_87 := Vb82_86.ext E87
      have Bb84_87 := Bb84_86.ext E87
      have Vb84_87 := Vb84_86.ext E87
      have Z87 : n0 ≤ h87.size := Nat.le_trans Z86 E87.1
      have V87 : own_L Z h87 b87 .byte ([(.int (0 : Int32)), (.int (0 : Int32)), (.int (0 : Int32))]) := own_L.new A87
      refine own_st (fun zw zk => st87 zw zk) ?_
      refine own_st (fun zw zk => XS.dup X87.here hx rfl (hb hby at_51) rfl rfl zk) ?_
      refine own_st (fun zw zk => XS.iconst X87.here hx rfl (hb hby at_52) zk) ?_
      refine own_st (fun zw zk => XS.iloadN X87.here hx rfl (hb hby at_53) rfl zk) ?_
      refine own_st (fun zw zk => XS.i2b X87.here hx rfl (hb hby at_54) rfl zk) ?_
      obtain ⟨T88, h88, X88, e88, W88, V88, st88⟩ := own_bst X87 hx hZ e87 V87 (j := (0 : Int32)) (0) (by decide) (by decide) (Nat.le_of_ble_eq_true rfl) (g := (mkF m 55 #[.val (.int p0), .val (.int p1), .val (.int p2), .val (.int p3), .val (.int (1 : Int32)), .val (.int (0 : Int32)), .val (.ref b81), .val (.ref b82), .val (.ref b84), .unset, .unset, .unset, .unset, .unset, .unset] [(.int (p0.toInt8.toInt32)), (.int (0 : Int32)), (.ref b87), (.ref b87)])) rfl rfl (hb hby at_55)
      have Vb87_88 : own_L Z h88 b87 .byte ([(.int ((p0.toInt8.toInt32).toInt8.toInt32)), (.int (0 : Int32)), (.int (0 : Int32))]) := V88
      have N88 := Fr.snoc X88 N86 G87
      refine own_st (fun zw zk => st88 zw zk) ?_
      have Vb81_88 := Vb81_87.other W88 ne_b81_b87
      have Bb81_88 := Bb81_87.wr W88
      have Bb82_88 := Bb82_87.wr W88
      have Vb82_88 := Vb82_87.other W88 ne_b82_b87
      have Bb84_88 := Bb84_87.wr W88
      have Vb84_88 := Vb84_87.other W88 ne_b84_b87
      have Bb87_88 := B87.wr W88
      have Z88 : n0 ≤ h88.size := Nat.le_trans Z87 (Keep.of_wr W88).1
      refine own_st (fun zw zk => XS.dup X88.here hx rfl (hb hby at_56) rfl rfl zk) ?_
      show own_Go p e below G (T88.setTop (mkF m 57 #[.val (.int p0), .val (.int p1), .val (.int p2), .val (.int p3), .val (.int (1 : Int32)), .val (.int (0 : Int32)), .val (.ref b81), .val (.ref b82), .val (.ref b84), .unset, .unset, .unset, .unset, .unset, .unset] [(.ref b87), (.ref b87)]))
      refine own_st (fun zw zk => XS.iconst X88.here hx rfl (hb hby at_57) zk) ?_
      refine own_st (fun zw zk => XS.iloadN X88.here hx rfl (hb hby at_58) rfl zk) ?_
      refine own_st (fun zw zk => XS.i2b X88.here hx rfl (hb hby at_59) rfl zk) ?_
      obtain ⟨T89, h89, X89, e89, W89, V89, st89⟩ := own_bst X88 hx hZ e88 Vb87_88 (j := (1 : Int32)) (1) (by decide) (by decide) (Nat.le_of_ble_eq_true rfl) (g := (mkF m 60 #[.val (.int p0), .val (.int p1), .val (.int p2), .val (.int p3), .val (.int (1 : Int32)), .val (.int (0 : Int32)), .val (.ref b81), .val (.ref b82), .val (.ref b84), .unset, .unset, .unset, .unset, .unset, .unset] [(.int (p1.toInt8.toInt32)), (.int (1 : Int32)), (.ref b87), (.ref b87)])) rfl rfl (hb hby at_60)
      have Vb87_89 : own_L Z h89 b87 .byte ([(.int ((p0.toInt8.toInt32).toInt8.toInt32)), (.int ((p1.toInt8.toInt32).toInt8.toInt32)), (.int (0 : Int32))]) := V89
      have N89 := Fr.snoc X89 N88 G87
      refine own_st (fun zw zk => st89 zw zk) ?_
      have Vb81_89 := Vb81_88.other W89 ne_b81_b87
      have Bb81_89 := Bb81_88.wr W89
      have Bb82_89 := Bb82_88.wr W89
      have Vb82_89 := Vb82_88.other W89 ne_b82_b87
      have Bb84_89 := Bb84_88.wr W89
      have Vb84_89 := Vb84_88.other W89 ne_b84_b87
      have Bb87_89 := Bb87_88.wr W89
      have Z89 : n0 ≤ h89.size := Nat.le_trans Z88 (Keep.of_wr W89).1
      refine own_st (fun zw zk => XS.dup X89.here hx rfl (hb hby at_61) rfl rfl zk) ?_
      refine own_st (fun zw zk => XS.iconst X89.here hx rfl (hb hby at_62) zk) ?_
      refine own_st (fun zw zk => XS.iloadN X89.here hx rfl (hb hby at_63) rfl zk) ?_
      refine own_st (fun zw zk => XS.i2b X89.here hx rfl (hb hby at_64) rfl zk) ?_
      show own_Go p e below G (T89.setTop (mkF m 65 #[.val (.int p0), .val (.int p1), .val (.int p2), .val (.int p3), .val (.int (1 : Int32)), .val (.int (0 : Int32)), .val (.ref b81), .val (.ref b82), .val (.ref b84), .unset, .unset, .unset, .unset, .unset, .unset] [(.int (p2.toInt8.toInt32)), (.int (2 : Int32)), (.ref b87), (.ref b87)]))
      obtain ⟨T90, h90, X90, e90, W90, V90, st90⟩ := own_bst X89 hx hZ e89 Vb87_89 (j := (2 : Int32)) (2) (by decide) (by decide) (Nat.le_of_ble_eq_true rfl) (g := (mkF m 65 #[.val (.int p0), .val (.int p1), .val (.int p2), .val (.int p3), .val (.int (1 : Int32)), .val (.int (0 : Int32)), .val (.ref b81), .val (.ref b82), .val (.ref b84), .unset, .unset, .unset, .unset, .unset, .unset] [(.int (p2.toInt8.toInt32)), (.int (2 : Int32)), (.ref b87), (.ref b87)])) rfl rfl (hb hby at_65)
      have Vb87_90 : own_L Z h90 b87 .byte ([(.int ((p0.toInt8.toInt32).toInt8.toInt32)), (.int ((p1.toInt8.toInt32).toInt8.toInt32)), (.int ((p2.toInt8.toInt32).toInt8.toInt32))]) := V90
      have N90 := Fr.snoc X90 N89 G87
      refine own_st (fun zw zk => st90 zw zk) ?_
      have Vb81_90 := Vb81_89.other W90 ne_b81_b87
      have Bb81_90 := Bb81_89.wr W90
      have Bb82_90 := Bb82_89.wr W90
      have Vb82_90 := Vb82_89.other W90 ne_b82_b87
      have Bb84_90 := Bb84_89.wr W90
      have Vb84_90 := Vb84_89.other W90 ne_b84_b87
      have Bb87_90 := Bb87_89.wr W90
      have Z90 : n0 ≤ h90.size := Nat.le_trans Z89 (Keep.of_wr W90).1
      refine own_st (fun zw zk => XS.astore X90.here hx rfl (hb hby at_66) rfl rfl rfl zk) ?_
      show own_Go p e below G (T90.setTop (mkF m 68 #[.val (.int p0), .val (.int p1), .val (.int p2), .val (.int p3), .val (.int (1 : Int32)), .val (.int (0 : Int32)), .val (.ref b81), .val (.ref b82), .val (.ref b84), .val (.ref b87), .unset, .unset, .unset, .unset, .unset] []))
      refine own_st (fun zw zk => XS.iload X90.here hx rfl (hb hby at_68) rfl zk) ?_
      refine own_st (fun zw zk => XS.ifYes X90.here hx rfl (pc0 := 70) (pc' := 78) rfl (hb hby at_70) rfl ((if0 _ _).trans (feq (by decide : ¬ ((1 : Int32) = (0 : Int32)))).2) (by decide) (by decide) zk) ?_
      refine own_st (fun zw zk => XS.iload X90.here hx rfl (hb hby at_78) rfl zk) ?_
      refine own_st (fun zw zk => XS.iconst X90.here hx rfl (hb hby at_80) zk) ?_
      refine own_st (fun zw zk => XS.icmpNo X90.here hx rfl (hb hby at_81) rfl (teq (by decide : (1 : Int32) = (1 : Int32))).2 zk) ?_
      refine own_st (fun zw zk => XS.aload X90.here hx rfl (hb hby at_84) rfl rfl zk) ?_
      refine own_st (fun zw zk => XS.goto X90.here hx rfl (pc0 := 86) (pc' := 102) rfl (hb hby at_86) (by decide) (by decide) zk) ?_
      show own_Go p e below G (T90.setTop (mkF m 102 #[.val (.int p0), .val (.int p1), .val (.int p2), .val (.int p3), .val (.int (1 : Int32)), .val (.int (0 : Int32)), .val (.ref b81), .val (.ref b82), .val (.ref b84), .val (.ref b87), .unset, .unset, .unset, .unset, .unset] [(.ref b82)]))
      refine own_st (fun zw zk => XS.astore X90.here hx rfl (hb hby at_102) rfl rfl rfl zk) ?_
      show own_Go p e below G (T90.setTop (mkF m 104 #[.val (.int p0), .val (.int p1), .val (.int p2), .val (.int p3), .val (.int (1 : Int32)), .val (.int (0 : Int32)), .val (.ref b81), .val (.ref b82), .val (.ref b84), .val (.ref b87), .val (.ref b82), .unset, .unset, .unset, .unset] []))
      refine own_st (fun zw zk => XS.iload X90.here hx rfl (hb hby at_104) rfl zk) ?_
      refine own_st (fun zw zk => XS.ifYes X90.here hx rfl (pc0 := 106) (pc' := 113) rfl (hb hby at_106) rfl ((if0 _ _).trans (teq (by decide : (0 : Int32) = (0 : Int32))).1) (by decide) (by decide) zk) ?_
      refine own_st (fun zw zk => XS.aload X90.here hx rfl (hb hby at_113) rfl rfl zk) ?_
      refine own_st (fun zw zk => XS.astore X90.here hx rfl (hb hby at_115) rfl rfl rfl zk) ?_
      show own_Go p e below G (T90.setTop (mkF m 117 #[.val (.int p0), .val (.int p1), .val (.int p2), .val (.int p3), .val (.int (1 : Int32)), .val (.int (0 : Int32)), .val (.ref b81), .val (.ref b82), .val (.ref b84), .val (.ref b87), .val (.ref b82), .val (.ref b82), .unset, .unset, .unset] []))
      obtain ⟨T91, h91, X91, e91, E91, A91, D91, -, st91⟩ := newO X90 hx hZ hown (hw _ (List.mem_of_getElem? (i := 1) rfl)) (hw _ (List.mem_of_getElem? (i := 2) rfl)) (hw _ (List.mem_of_getElem? (i := 3) rfl)) e90 (g := (mkF m 117 #[.val (.int p0), .val (.int p1), .val (.int p2), .val (.int p3), .val (.int (1 : Int32)), .val (.int (0 : Int32)), .val (.ref b81), .val (.ref b82), .val (.ref b84), .val (.ref b87), .val (.ref b82), .val (.ref b82), .unset, .unset, .unset] [])) rfl (hb hby at_117) (by decide) (by decide)
      obtain ⟨b91, g91⟩ : ∃ z, z = h90.size := ⟨_, rfl⟩
      rw [← g91] at A91 D91 st91
      have G91 : n0 ≤ b91 := Nat.le_trans Z90 (Nat.le_of_eq g91.symm)
      have ne_b81_b91 : b81 ≠ b91 := Nat.ne_of_lt (Nat.lt_of_lt_of_le Vb81_90.lt (Nat.le_of_eq g91.symm))
      have ne_b82_b91 : b82 ≠ b91 := Nat.ne_of_lt (Nat.lt_of_lt_of_le Bb82_90.lt (Nat.le_of_eq g91.symm))
      have ne_b84_b91 : b84 ≠ b91 := Nat.ne_of_lt (Nat.lt_of_lt_of_le Bb84_90.lt (Nat.le_of_eq g91.symm))
      have ne_b87_b91 : b87 ≠ b91 := Nat.ne_of_lt (Nat.lt_of_lt_of_le Bb87_90.lt (Nat.le_of_eq g91.symm))
      have Vb81_91 := Vb81_90.ext E91
      have Bb81_91 := Bb81_90.ext E91
      have Bb82_91 := Bb82_90.ext E91
      have Vb82_91 := Vb82_90.ext E91
      have Bb84_91 := Bb84_90.ext E91
      have Vb84_91 := Vb84_90.ext E91
      have Bb87_91 := Bb87_90.ext E91
      have Vb87_91 := Vb87_90.ext E91
      have Z91 : n0 ≤ h91.size := Nat.le_trans Z90 E91.1
      have Fb91oid : Fld Z h91 b91 "com/example/attestrum/attestrum/schemes/der/AlgorithmIdentifier" "oid" "Ljava/lang/String;" .null := D91 (Or.inr (hw _ (List.mem_of_getElem? (i := 18) rfl))) (ty := (.object "java/lang/String")) (by decide)
      have Fb91parameters : Fld Z h91 b91 "com/example/attestrum/attestrum/schemes/der/AlgorithmIdentifier" "parameters" "[B" .null := D91 (Or.inr (hw _ (List.mem_of_getElem? (i := 29) rfl))) (ty := (.array .byte)) (by decide)
      refine own_st (fun zw zk => st91 zw zk) ?_
      refine own_st (fun zw zk => XS.dup X91.here hx rfl (hb hby at_120) rfl rfl zk) ?_
      have wS92 : ∀ z ∈ Bundle.stringAtoms, z.before a0 Z = true := by
        intro z hz
        simp only [Bundle.stringAtoms, List.mem_cons, List.not_mem_nil, or_false] at hz
        rcases hz with rfl | rfl | rfl | rfl | rfl | rfl | rfl
        · exact (hw _ (List.mem_of_getElem? (i := 5) rfl))
        · exact (hw _ (List.mem_of_getElem? (i := 6) rfl))
        · exact (hw _ (List.mem_of_getElem? (i := 0) rfl))
        · exact (hw _ (List.mem_of_getElem? (i := 7) rfl))
        · exact (hw _ (List.mem_of_getElem? (i := 8) rfl))
        · exact (hw _ (List.mem_of_getElem? (i := 9) rfl))
        · exact (hw _ (List.mem_of_getElem? (i := 10) rfl))
      obtain ⟨b92, T92, h92, k92, X92, e92, E92, hS, Zk92, hZ', hown', st92⟩ := ldcS (s := s) (vm0 := s.vm) X91 hx hZ hown (hw _ (List.mem_of_getElem? (i := 4) rfl)) wS92 e91 ((State.WarmedH.refl s).since 0) (Nat.zero_le _) (g := (mkF m 121 #[.val (.int p0), .val (.int p1), .val (.int p2), .val (.int p3), .val (.int (1 : Int32)), .val (.int (0 : Int32)), .val (.ref b81), .val (.ref b82), .val (.ref b84), .val (.ref b87), .val (.ref b82), .val (.ref b82), .unset, .unset, .unset] [(.ref b91), (.ref b91)])) rfl (hb hby at_121) (n := 12) (by decide) (by decide) (by decide) (by decide)
      refine own_st (fun zw zk => st92 zw zk) ?_
      have Vb81_92 := Vb81_91.ext E92
      have Bb81_92 := Bb81_91.ext E92
      have Bb82_92 := Bb82_91.ext E92
      have Vb82_92 := Vb82_91.ext E92
      have Bb84_92 := Bb84_91.ext E92
      have Vb84_92 := Vb84_91.ext E92
      have Bb87_92 := Bb87_91.ext E92
      have Vb87_92 := Vb87_91.ext E92
      have Fb91oid_92 := Fb91oid.ext E92
      have Fb91parameters_92 := Fb91parameters.ext E92
      have Ab91_92 := A91.ext E92
      have Z92 : n0 ≤ h92.size := Nat.le_trans Z91 E92.1
      refine own_st (fun zw zk => XS.aload X92.here hx rfl (hb hby at_123) rfl rfl zk) ?_
      obtain ⟨_, _, ⟨T93, L93, k93, n93⟩, -, X93, ⟨Lc93, hQ93, l93, y93, z93⟩, st93⟩ := X92.specialBack hx (y := (⟨"com/example/attestrum/attestrum/schemes/der/AlgorithmIdentifier", "<init>", "(Ljava/lang/String;[B)V"⟩ : MethodName)) rfl hown' (mvT hZ' (hw _ (List.mem_of_getElem? (i := 11) rfl))) (mvT hZ' (hw _ (List.mem_of_getElem? (i := 12) rfl))) (mvT hZ' (hw _ (List.mem_of_getElem? (i := 13) rfl))) (by decide) (backOf (W := 1) (rm_i1 l Z a0 hw [] b91 b92 b82 ((p0.toInt8.toInt32).toInt8.toInt32) h92 n0 Z92 (Ab91_92) (Fb91oid_92) (Fb91parameters_92) (Vb82_92) (Bb82_92) (G91) ((Ne.symm ne_b82_b91)) ((own_fitc own_fit0))) hZ' (hw _ (List.mem_of_getElem? (i := 13) rfl)) (hw _ (List.mem_of_getElem? (i := 3) rfl)) (by decide) (by decide)) (g := (mkF m 125 #[.val (.int p0), .val (.int p1), .val (.int p2), .val (.int p3), .val (.int (1 : Int32)), .val (.int (0 : Int32)), .val (.ref b81), .val (.ref b82), .val (.ref b84), .val (.ref b87), .val (.ref b82), .val (.ref b82), .unset, .unset, .unset] [(.ref b82), (.ref b92), (.ref b91), (.ref b91)])) rfl (by rw [hml]; rfl) (Steps.refl _) (a := b91) (argsL := [(.ref b92), (.ref b82)]) (rest := [(.ref b91)]) (lenOf pd_0 rfl) rfl (by show 2 * 0 + _ ≤ _; exact Nat.le_of_eq rfl) (hb hby at_125) (fun _ _ => ⟨rfl, e92, (by decide : 7 + 1 ≤ _), (by decide : 24 + 1 ≤ _)⟩)
      dsimp only [Pt.U, Pt.locs, Pt.cells, Pt.slots] at X93 l93 y93 z93 st93 hQ93
      subst l93 y93 z93
      obtain ⟨rfl, N93q, tt93, sztt93, K93, O93_0, O93_1, O93_2, O93_3⟩ := hQ93
      have ne_b81_tt93 : b81 ≠ tt93 := Nat.ne_of_lt (Nat.lt_of_lt_of_le Vb81_92.lt sztt93)
      have ne_b82_tt93 : b82 ≠ tt93 := Nat.ne_of_lt (Nat.lt_of_lt_of_le Bb82_92.lt sztt93)
      have ne_b84_tt93 : b84 ≠ tt93 := Nat.ne_of_lt (Nat.lt_of_lt_of_le Bb84_92.lt sztt93)
      have ne_b87_tt93 : b87 ≠ tt93 := Nat.ne_of_lt (Nat.lt_of_lt_of_le Bb87_92.lt sztt93)
      have ne_b91_tt93 : b91 ≠ tt93 := Nat.ne_of_lt (Nat.lt_of_lt_of_le Fb91oid_92.lt sztt93)
      have Gtt93 : n0 ≤ tt93 := Nat.le_trans Z92 sztt93
      have Zk93 := Nat.le_trans Zk92 K93.1
      have Vb81_93 := Vb81_92.keep K93 (ninS ne_b81_b91 nin0)
      have Bb81_93 := Bb81_92.keep K93
      have Bb82_93 := Bb82_92.keep K93
      have Vb82_93 := Vb82_92.keep K93 (ninS ne_b82_b91 nin0)
      have Bb84_93 := Bb84_92.keep K93
      have Vb84_93 := Vb84_92.keep K93 (ninS ne_b84_b91 nin0)
      have Bb87_93 := Bb87_92.keep K93
      have Vb87_93 := Vb87_92.keep K93 (ninS ne_b87_b91 nin0)
      have Ab91_93 := Ab91_92.keep K93
      have Z93 : n0 ≤ T93.heap.size := Nat.le_trans Z92 K93.1
      have N93 := Fr.app N90 N93q
      refine own_jp st93 ?_
      refine own_st (fun zw zk => XS.astore X93.here hx rfl (hb hby at_128) rfl rfl rfl zk) ?_
      show own_Go p e below G (T93.setTop (mkF m 130 #[.val (.int p0), .val (.int p1), .val (.int p2), .val (.int p3), .val (.int (1 : Int32)), .val (.int (0 : Int32)), .val (.ref b81), .val (.ref b82), .val (.ref b84), .val (.ref b87), .val (.ref b82), .val (.ref b82), .val (.ref b91), .unset, .unset] []))
      refine own_st (fun zw zk => XS.aload X93.here hx rfl (hb hby at_130) rfl rfl zk) ?_
      refine own_st (fun zw zk => XS.ifnonnullYes X93.here hx rfl (pc0 := 132) (pc' := 165) rfl (hb hby at_132) rfl (by decide) (by decide) zk) ?_
      refine own_st (fun zw zk => XS.aload X93.here hx rfl (hb hby at_165) rfl rfl zk) ?_
      refine own_st (fun zw zk => XS.iload X93.here hx rfl (hb hby at_167) rfl zk) ?_
      refine own_st (fun zw zk => XS.iloadN X93.here hx rfl (hb hby at_169) rfl zk) ?_
      refine own_st (fun zw zk => XS.iloadN X93.here hx rfl (hb hby at_170) rfl zk) ?_
      refine own_st (fun zw zk => XS.iloadN X93.here hx rfl (hb hby at_171) rfl zk) ?_
      obtain ⟨_, _, ⟨T94, L94, k94, n94⟩, -, X94, ⟨Lc94, hQ94, l94, y94, z94⟩, st94⟩ := Jvm.LawKit.callS X93 hx (y := (⟨"com/example/attestrum/attestrum/schemes/der/AlgorithmIdentifierParametersPinLaw", "spoil", "([BIIII)V"⟩ : MethodName)) hown' (mvT hZ' (hw _ (List.mem_of_getElem? (i := 30) rfl))) (mvT hZ' (hw _ (List.mem_of_getElem? (i := 31) rfl))) (mvT hZ' (hw _ (List.mem_of_getElem? (i := 32) rfl))) (mvT hZ' (hw _ (List.mem_of_getElem? (i := 33) rfl))) (by decide) (backOf (W := 0) (rm_s1 l Z a0 hw [] b82 (1 : Int32) p0 p1 p2 ((p0.toInt8.toInt32).toInt8.toInt32) T93.heap n0 Z93 (Vb82_93) (G82) (rfl)) hZ' (hw _ (List.mem_of_getElem? (i := 33) rfl)) (hw _ (List.mem_of_getElem? (i := 32) rfl)) (by decide) (by decide)) (g := (mkF m 172 #[.val (.int p0), .val (.int p1), .val (.int p2), .val (.int p3), .val (.int (1 : Int32)), .val (.int (0 : Int32)), .val (.ref b81), .val (.ref b82), .val (.ref b84), .val (.ref b87), .val (.ref b82), .val (.ref b82), .val (.ref b91), .unset, .unset] [(.int p2), (.int p1), (.int p0), (.int (1 : Int32)), (.ref b82)])) rfl (by rw [hml]; rfl) (argsL := [(.ref b82), (.int (1 : Int32)), (.int p0), (.int p1), (.int p2)]) (rest := []) (lenOf pd_1 rfl) rfl (by show 2 * 0 + _ ≤ _; exact Nat.le_of_eq rfl) (hb hby at_172) (fun _ _ => ⟨rfl, rfl, (by decide : 8 + 0 ≤ _), (by decide : 25 + 0 ≤ _)⟩)
      dsimp only [Pt.U, Pt.locs, Pt.cells, Pt.slots] at X94 l94 y94 z94 st94 hQ94
      subst l94 y94 z94
      obtain ⟨rfl, N94q, K94, O94_0⟩ := hQ94
      have Zk94 := Nat.le_trans Zk93 K94.1
      have Vb81_94 := Vb81_93.keep K94 (ninS ne_b81_b82 nin0)
      have Bb81_94 := Bb81_93.keep K94
      have Bb82_94 := Bb82_93.keep K94
      have Bb84_94 := Bb84_93.keep K94
      have Vb84_94 := Vb84_93.keep K94 (ninS (Ne.symm ne_b82_b84) nin0)
      have Bb87_94 := Bb87_93.keep K94
      have Vb87_94 := Vb87_93.keep K94 (ninS (Ne.symm ne_b82_b87) nin0)
      have Ob91E_94 := O93_0.keep K94
      have Ob91parameters_94 := O93_1.keep K94 (ninS (Ne.symm ne_b82_b91) nin0)
      have Ott93L_94 := O93_2.keep K94 (ninS (Ne.symm ne_b82_tt93) nin0)
      have Ott93E_94 := O93_3.keep K94
      have Z94 : n0 ≤ T94.heap.size := Nat.le_trans Z93 K94.1
      have N94 := Fr.app N93 N94q
      refine own_st (fun zw zk => st94 zw zk) ?_
      show own_Go p e below G (T94.setTop (mkF m 175 #[.val (.int p0), .val (.int p1), .val (.int p2), .val (.int p3), .val (.int (1 : Int32)), .val (.int (0 : Int32)), .val (.ref b81), .val (.ref b82), .val (.ref b84), .val (.ref b87), .val (.ref b82), .val (.ref b82), .val (.ref b91), .unset, .unset] []))
      refine own_st (fun zw zk => XS.aload X94.here hx rfl (hb hby at_175) rfl rfl zk) ?_
      obtain ⟨cq95, kq95, q95a, q95b, q95c⟩ := isOf hZ' rfl Ob91E_94
      obtain ⟨_, _, ⟨T95, L95, k95, n95⟩, -, X95, ⟨Lc95, hQ95, l95, y95, z95⟩, st95⟩ := X94.virtualBack hx (y := (⟨"com/example/attestrum/attestrum/schemes/der/AlgorithmIdentifier", "parameters", "()[B"⟩ : MethodName)) (z := (⟨"com/example/attestrum/attestrum/schemes/der/AlgorithmIdentifier", "parameters", "()[B"⟩ : MethodName)) hown' (mvT hZ' (hw _ (List.mem_of_getElem? (i := 34) rfl))) (mvT hZ' (hw _ (List.mem_of_getElem? (i := 35) rfl))) (notFace_of_selects (args := #[]) (mvT hZ' (hw _ (List.mem_of_getElem? (i := 37) rfl)))) (mvT hZ' (hw _ (List.mem_of_getElem? (i := 37) rfl))) (mvT hZ' (hw _ (List.mem_of_getElem? (i := 36) rfl))) (by decide) (backOf (W := 0) (rm_p1 l Z a0 hw [] b91 tt93 ((p0.toInt8.toInt32).toInt8.toInt32) T94.heap n0 Z94 (Ob91parameters_94) (Ott93L_94) (Ott93E_94) ((own_fitc own_fit0))) hZ' (hw _ (List.mem_of_getElem? (i := 38) rfl)) (hw _ (List.mem_of_getElem? (i := 3) rfl)) (by decide) (by decide)) q95a q95c (g := (mkF m 177 #[.val (.int p0), .val (.int p1), .val (.int p2), .val (.int p3), .val (.int (1 : Int32)), .val (.int (0 : Int32)), .val (.ref b81), .val (.ref b82), .val (.ref b84), .val (.ref b87), .val (.ref b82), .val (.ref b82), .val (.ref b91), .unset, .unset] [(.ref b91)])) rfl (by rw [hml]; rfl) (Steps.refl _) (argsL := []) (rest := []) (lenOf pd_2 rfl) rfl (by show 2 * 0 + _ ≤ _; exact Nat.le_of_eq rfl) (hb hby at_177) (fun _ _ => ⟨rfl, rfl, (by decide : 8 + 1 ≤ _), (by decide : 25 + 1 ≤ _)⟩)
      dsimp only [Pt.U, Pt.locs, Pt.cells, Pt.slots] at X95 l95 y95 z95 st95 hQ95
      subst l95 y95 z95
      obtain ⟨b95, rfl, N95q, sz95, K95, R95_0, R95_1⟩ := hQ95
      have ne_b81_b95 : b81 ≠ b95 := Nat.ne_of_lt (Nat.lt_of_lt_of_le Vb81_94.lt sz95)
      have ne_b82_b95 : b82 ≠ b95 := Nat.ne_of_lt (Nat.lt_of_lt_of_le Bb82_94.lt sz95)
      have ne_b84_b95 : b84 ≠ b95 := Nat.ne_of_lt (Nat.lt_of_lt_of_le Bb84_94.lt sz95)
      have ne_b87_b95 : b87 ≠ b95 := Nat.ne_of_lt (Nat.lt_of_lt_of_le Bb87_94.lt sz95)
      have ne_b91_b95 : b91 ≠ b95 := Nat.ne_of_lt (Nat.lt_of_lt_of_le Ob91E_94.lt sz95)
      have ne_tt93_b95 : tt93 ≠ b95 := Nat.ne_of_lt (Nat.lt_of_lt_of_le Ott93L_94.lt sz95)
      have G95 : n0 ≤ b95 := Nat.le_trans Z94 sz95
      have Zk95 := Nat.le_trans Zk94 K95.1
      have Vb81_95 := Vb81_94.keep K95 nin0
      have Bb81_95 := Bb81_94.keep K95
      have Bb82_95 := Bb82_94.keep K95
      have Bb84_95 := Bb84_94.keep K95
      have Vb84_95 := Vb84_94.keep K95 nin0
      have Bb87_95 := Bb87_94.keep K95
      have Vb87_95 := Vb87_94.keep K95 nin0
      have Ob91E_95 := Ob91E_94.keep K95
      have Ob91parameters_95 := Ob91parameters_94.keep K95 nin0
      have Ott93L_95 := Ott93L_94.keep K95 nin0
      have Ott93E_95 := Ott93E_94.keep K95
      have Ob82L_95 := O94_0.keep K95 nin0
      have Z95 : n0 ≤ T95.heap.size := Nat.le_trans Z94 K95.1
      have N95 := Fr.app N94 N95q
      refine own_jp st95 ?_
      refine own_st (fun zw zk => XS.astore X95.here hx rfl (hb hby at_180) rfl rfl rfl zk) ?_
      show own_Go p e below G (T95.setTop (mkF m 182 #[.val (.int p0), .val (.int p1), .val (.int p2), .val (.int p3), .val (.int (1 : Int32)), .val (.int (0 : Int32)), .val (.ref b81), .val (.ref b82), .val (.ref b84), .val (.ref b87), .val (.ref b82), .val (.ref b82), .val (.ref b91), .val (.ref b95), .unset] []))
      refine own_st (fun zw zk => XS.aload X95.here hx rfl (hb hby at_182) rfl rfl zk) ?_
      refine own_st (fun zw zk => XS.aload X95.here hx rfl (hb hby at_184) rfl rfl zk) ?_
      refine own_st (fun zw zk => Jvm.RoadKit.acmp (g := (mkF m 186 #[.val (.int p0), .val (.int p1), .val (.int p2), .val (.int p3), .val (.int (1 : Int32)), .val (.int (0 : Int32)), .val (.ref b81), .val (.ref b82), .val (.ref b84), .val (.ref b87), .val (.ref b82), .val (.ref b82), .val (.ref b91), .val (.ref b95), .unset] [(.ref b82), (.ref b95)])) X95 hx rfl rfl rfl (pc0 := 186) (pc' := 191) (same := false) rfl (hb hby at_186) rfl (decide_eq_false fun q => (Ne.symm ne_b82_b95) (Value.ref.inj q)) (by decide) (by decide) zk) ?_
      refine own_st (fun zw zk => XS.aload X95.here hx rfl (hb hby at_191) rfl rfl zk) ?_
      refine own_st (fun zw zk => XS.iload X95.here hx rfl (hb hby at_193) rfl zk) ?_
      refine own_st (fun zw zk => XS.iloadN X95.here hx rfl (hb hby at_195) rfl zk) ?_
      refine own_st (fun zw zk => XS.iloadN X95.here hx rfl (hb hby at_196) rfl zk) ?_
      refine own_st (fun zw zk => XS.iloadN X95.here hx rfl (hb hby at_197) rfl zk) ?_
      show own_Go p e below G (T95.setTop (mkF m 198 #[.val (.int p0), .val (.int p1), .val (.int p2), .val (.int p3), .val (.int (1 : Int32)), .val (.int (0 : Int32)), .val (.ref b81), .val (.ref b82), .val (.ref b84), .val (.ref b87), .val (.ref b82), .val (.ref b82), .val (.ref b91), .val (.ref b95), .unset] [(.int p2), (.int p1), (.int p0), (.int (1 : Int32)), (.ref b95)]))
      obtain ⟨_, _, ⟨T96, L96, k96, n96⟩, -, X96, ⟨Lc96, hQ96, l96, y96, z96⟩, st96⟩ := Jvm.LawKit.callS X95 hx (y := (⟨"com/example/attestrum/attestrum/schemes/der/AlgorithmIdentifierParametersPinLaw", "matches", "([BIIII)Z"⟩ : MethodName)) hown' (mvT hZ' (hw _ (List.mem_of_getElem? (i := 39) rfl))) (mvT hZ' (hw _ (List.mem_of_getElem? (i := 40) rfl))) (mvT hZ' (hw _ (List.mem_of_getElem? (i := 32) rfl))) (mvT hZ' (hw _ (List.mem_of_getElem? (i := 41) rfl))) (by decide) (backOf (W := 0) (rm_m1 l Z a0 hw [] b95 (1 : Int32) p0 p1 p2 ((p0.toInt8.toInt32).toInt8.toInt32) T95.heap n0 Z95 (R95_0) (rfl) (own_i2b _)) hZ' (hw _ (List.mem_of_getElem? (i := 41) rfl)) (hw _ (List.mem_of_getElem? (i := 32) rfl)) (by decide) (by decide)) (g := (mkF m 198 #[.val (.int p0), .val (.int p1), .val (.int p2), .val (.int p3), .val (.int (1 : Int32)), .val (.int (0 : Int32)), .val (.ref b81), .val (.ref b82), .val (.ref b84), .val (.ref b87), .val (.ref b82), .val (.ref b82), .val (.ref b91), .val (.ref b95), .unset] [(.int p2), (.int p1), (.int p0), (.int (1 : Int32)), (.ref b95)])) rfl (by rw [hml]; rfl) (argsL := [(.ref b95), (.int (1 : Int32)), (.int p0), (.int p1), (.int p2)]) (rest := []) (lenOf pd_3 rfl) rfl (by show 2 * 0 + _ ≤ _; exact Nat.le_of_eq rfl) (hb hby at_198) (fun _ _ => ⟨rfl, rfl, (by decide : 9 + 0 ≤ _), (by decide : 26 + 0 ≤ _)⟩)
      dsimp only [Pt.U, Pt.locs, Pt.cells, Pt.slots] at X96 l96 y96 z96 st96 hQ96
      subst l96 y96 z96
      obtain ⟨rfl, N96q, e96⟩ := hQ96
      have N96 := Fr.app N95 N96q
      refine own_st (fun zw zk => st96 zw zk) ?_
      refine own_st (fun zw zk => XS.ifYes X96.here hx rfl (pc0 := 201) (pc' := 206) rfl (hb hby at_201) rfl ((if0 _ _).trans (feq (by decide : ¬ ((1 : Int32) = (0 : Int32)))).2) (by decide) (by decide) zk) ?_
      refine own_st (fun zw zk => XS.aload X96.here hx rfl (hb hby at_206) rfl rfl zk) ?_
      refine own_st (fun zw zk => XS.iload X96.here hx rfl (hb hby at_208) rfl zk) ?_
      refine own_st (fun zw zk => XS.iloadN X96.here hx rfl (hb hby at_210) rfl zk) ?_
      refine own_st (fun zw zk => XS.iloadN X96.here hx rfl (hb hby at_211) rfl zk) ?_
      refine own_st (fun zw zk => XS.iloadN X96.here hx rfl (hb hby at_212) rfl zk) ?_
      obtain ⟨_, _, ⟨T97, L97, k97, n97⟩, -, X97, ⟨Lc97, hQ97, l97, y97, z97⟩, st97⟩ := Jvm.LawKit.callS X96 hx (y := (⟨"com/example/attestrum/attestrum/schemes/der/AlgorithmIdentifierParametersPinLaw", "spoil", "([BIIII)V"⟩ : MethodName)) hown' (mvT hZ' (hw _ (List.mem_of_getElem? (i := 30) rfl))) (mvT hZ' (hw _ (List.mem_of_getElem? (i := 31) rfl))) (mvT hZ' (hw _ (List.mem_of_getElem? (i := 32) rfl))) (mvT hZ' (hw _ (List.mem_of_getElem? (i := 33) rfl))) (by decide) (backOf (W := 0) (rm_s1 l Z a0 hw [] b95 (1 : Int32) p0 p1 p2 ((p0.toInt8.toInt32).toInt8.toInt32) T95.heap n0 Z95 (R95_0) (G95) (rfl)) hZ' (hw _ (List.mem_of_getElem? (i := 33) rfl)) (hw _ (List.mem_of_getElem? (i := 32) rfl)) (by decide) (by decide)) (g := (mkF m 213 #[.val (.int p0), .val (.int p1), .val (.int p2), .val (.int p3), .val (.int (1 : Int32)), .val (.int (0 : Int32)), .val (.ref b81), .val (.ref b82), .val (.ref b84), .val (.ref b87), .val (.ref b82), .val (.ref b82), .val (.ref b91), .val (.ref b95), .unset] [(.int p2), (.int p1), (.int p0), (.int (1 : Int32)), (.ref b95)])) rfl (by rw [hml]; rfl) (argsL := [(.ref b95), (.int (1 : Int32)), (.int p0), (.int p1), (.int p2)]) (rest := []) (lenOf pd_1 rfl) rfl (by show 2 * 0 + _ ≤ _; exact Nat.le_of_eq rfl) (hb hby at_213) (fun _ _ => ⟨rfl, e96, (by decide : 9 + 0 ≤ _), (by decide : 26 + 0 ≤ _)⟩)
      dsimp only [Pt.U, Pt.locs, Pt.cells, Pt.slots] at X97 l97 y97 z97 st97 hQ97
      subst l97 y97 z97
      obtain ⟨rfl, N97q, K97, O97_0⟩ := hQ97
      have Zk97 := Nat.le_trans Zk95 K97.1
      have Vb81_97 := Vb81_95.keep K97 (ninS ne_b81_b95 nin0)
      have Bb81_97 := Bb81_95.keep K97
      have Bb82_97 := Bb82_95.keep K97
      have Bb84_97 := Bb84_95.keep K97
      have Vb84_97 := Vb84_95.keep K97 (ninS ne_b84_b95 nin0)
      have Bb87_97 := Bb87_95.keep K97
      have Vb87_97 := Vb87_95.keep K97 (ninS ne_b87_b95 nin0)
      have Ob91E_97 := Ob91E_95.keep K97
      have Ob91parameters_97 := Ob91parameters_95.keep K97 (ninS ne_b91_b95 nin0)
      have Ott93L_97 := Ott93L_95.keep K97 (ninS ne_tt93_b95 nin0)
      have Ott93E_97 := Ott93E_95.keep K97
      have Ob82L_97 := Ob82L_95.keep K97 (ninS ne_b82_b95 nin0)
      have Rb95E_97 := R95_1.keep K97
      have Z97 : n0 ≤ T97.heap.size := Nat.le_trans Z95 K97.1
      have N97 := Fr.app N96 N97q
      refine own_st (fun zw zk => st97 zw zk) ?_
      show own_Go p e below G (T97.setTop (mkF m 216 #[.val (.int p0), .val (.int p1), .val (.int p2), .val (.int p3), .val (.int (1 : Int32)), .val (.int (0 : Int32)), .val (.ref b81), .val (.ref b82), .val (.ref b84), .val (.ref b87), .val (.ref b82), .val (.ref b82), .val (.ref b91), .val (.ref b95), .unset] []))
      refine own_st (fun zw zk => XS.aload X97.here hx rfl (hb hby at_216) rfl rfl zk) ?_
      obtain ⟨cq98, kq98, q98a, q98b, q98c⟩ := isOf hZ' rfl Ob91E_97
      obtain ⟨_, _, ⟨T98, L98, k98, n98⟩, -, X98, ⟨Lc98, hQ98, l98, y98, z98⟩, st98⟩ := X97.virtualBack hx (y := (⟨"com/example/attestrum/attestrum/schemes/der/AlgorithmIdentifier", "parameters", "()[B"⟩ : MethodName)) (z := (⟨"com/example/attestrum/attestrum/schemes/der/AlgorithmIdentifier", "parameters", "()[B"⟩ : MethodName)) hown' (mvT hZ' (hw _ (List.mem_of_getElem? (i := 34) rfl))) (mvT hZ' (hw _ (List.mem_of_getElem? (i := 35) rfl))) (notFace_of_selects (args := #[]) (mvT hZ' (hw _ (List.mem_of_getElem? (i := 37) rfl)))) (mvT hZ' (hw _ (List.mem_of_getElem? (i := 37) rfl))) (mvT hZ' (hw _ (List.mem_of_getElem? (i := 36) rfl))) (by decide) (backOf (W := 0) (rm_p1 l Z a0 hw [] b91 tt93 ((p0.toInt8.toInt32).toInt8.toInt32) T97.heap n0 Z97 (Ob91parameters_97) (Ott93L_97) (Ott93E_97) ((own_fitc own_fit0))) hZ' (hw _ (List.mem_of_getElem? (i := 38) rfl)) (hw _ (List.mem_of_getElem? (i := 3) rfl)) (by decide) (by decide)) q98a q98c (g := (mkF m 218 #[.val (.int p0), .val (.int p1), .val (.int p2), .val (.int p3), .val (.int (1 : Int32)), .val (.int (0 : Int32)), .val (.ref b81), .val (.ref b82), .val (.ref b84), .val (.ref b87), .val (.ref b82), .val (.ref b82), .val (.ref b91), .val (.ref b95), .unset] [(.ref b91)])) rfl (by rw [hml]; rfl) (Steps.refl _) (argsL := []) (rest := []) (lenOf pd_2 rfl) rfl (by show 2 * 0 + _ ≤ _; exact Nat.le_of_eq rfl) (hb hby at_218) (fun _ _ => ⟨rfl, rfl, (by decide : 9 + 1 ≤ _), (by decide : 26 + 1 ≤ _)⟩)
      dsimp only [Pt.U, Pt.locs, Pt.cells, Pt.slots] at X98 l98 y98 z98 st98 hQ98
      subst l98 y98 z98
      obtain ⟨b98, rfl, N98q, sz98, K98, R98_0, R98_1⟩ := hQ98
      have ne_b81_b98 : b81 ≠ b98 := Nat.ne_of_lt (Nat.lt_of_lt_of_le Vb81_97.lt sz98)
      have ne_b82_b98 : b82 ≠ b98 := Nat.ne_of_lt (Nat.lt_of_lt_of_le Bb82_97.lt sz98)
      have ne_b84_b98 : b84 ≠ b98 := Nat.ne_of_lt (Nat.lt_of_lt_of_le Bb84_97.lt sz98)
      have ne_b87_b98 : b87 ≠ b98 := Nat.ne_of_lt (Nat.lt_of_lt_of_le Bb87_97.lt sz98)
      have ne_b91_b98 : b91 ≠ b98 := Nat.ne_of_lt (Nat.lt_of_lt_of_le Ob91E_97.lt sz98)
      have ne_tt93_b98 : tt93 ≠ b98 := Nat.ne_of_lt (Nat.lt_of_lt_of_le Ott93L_97.lt sz98)
      have ne_b95_b98 : b95 ≠ b98 := Nat.ne_of_lt (Nat.lt_of_lt_of_le Rb95E_97.lt sz98)
      have G98 : n0 ≤ b98 := Nat.le_trans Z97 sz98
      have Zk98 := Nat.le_trans Zk97 K98.1
      have Vb81_98 := Vb81_97.keep K98 nin0
      have Bb81_98 := Bb81_97.keep K98
      have Bb82_98 := Bb82_97.keep K98
      have Bb84_98 := Bb84_97.keep K98
      have Vb84_98 := Vb84_97.keep K98 nin0
      have Bb87_98 := Bb87_97.keep K98
      have Vb87_98 := Vb87_97.keep K98 nin0
      have Ob91E_98 := Ob91E_97.keep K98
      have Ob91parameters_98 := Ob91parameters_97.keep K98 nin0
      have Ott93L_98 := Ott93L_97.keep K98 nin0
      have Ott93E_98 := Ott93E_97.keep K98
      have Ob82L_98 := Ob82L_97.keep K98 nin0
      have Rb95E_98 := Rb95E_97.keep K98
      have Ob95L_98 := O97_0.keep K98 nin0
      have Z98 : n0 ≤ T98.heap.size := Nat.le_trans Z97 K98.1
      have N98 := Fr.app N97 N98q
      refine own_jp st98 ?_
      refine own_st (fun zw zk => XS.astore X98.here hx rfl (hb hby at_221) rfl rfl rfl zk) ?_
      show own_Go p e below G (T98.setTop (mkF m 223 #[.val (.int p0), .val (.int p1), .val (.int p2), .val (.int p3), .val (.int (1 : Int32)), .val (.int (0 : Int32)), .val (.ref b81), .val (.ref b82), .val (.ref b84), .val (.ref b87), .val (.ref b82), .val (.ref b82), .val (.ref b91), .val (.ref b95), .val (.ref b98)] []))
      refine own_st (fun zw zk => XS.aload X98.here hx rfl (hb hby at_223) rfl rfl zk) ?_
      refine own_st (fun zw zk => XS.aload X98.here hx rfl (hb hby at_225) rfl rfl zk) ?_
      refine own_st (fun zw zk => Jvm.RoadKit.acmp (g := (mkF m 227 #[.val (.int p0), .val (.int p1), .val (.int p2), .val (.int p3), .val (.int (1 : Int32)), .val (.int (0 : Int32)), .val (.ref b81), .val (.ref b82), .val (.ref b84), .val (.ref b87), .val (.ref b82), .val (.ref b82), .val (.ref b91), .val (.ref b95), .val (.ref b98)] [(.ref b95), (.ref b98)])) X98 hx rfl rfl rfl (pc0 := 227) (pc' := 230) (same := false) rfl (hb hby at_227) rfl (decide_eq_false fun q => (Ne.symm ne_b95_b98) (Value.ref.inj q)) (by decide) (by decide) zk) ?_
      refine own_st (fun zw zk => XS.aload X98.here hx rfl (hb hby at_230) rfl rfl zk) ?_
      refine own_st (fun zw zk => XS.aload X98.here hx rfl (hb hby at_232) rfl rfl zk) ?_
      refine own_st (fun zw zk => Jvm.RoadKit.acmp (g := (mkF m 234 #[.val (.int p0), .val (.int p1), .val (.int p2), .val (.int p3), .val (.int (1 : Int32)), .val (.int (0 : Int32)), .val (.ref b81), .val (.ref b82), .val (.ref b84), .val (.ref b87), .val (.ref b82), .val (.ref b82), .val (.ref b91), .val (.ref b95), .val (.ref b98)] [(.ref b82), (.ref b98)])) X98 hx rfl rfl rfl (pc0 := 234) (pc' := 239) (same := false) rfl (hb hby at_234) rfl (decide_eq_false fun q => (Ne.symm ne_b82_b98) (Value.ref.inj q)) (by decide) (by decide) zk) ?_
      refine own_st (fun zw zk => XS.aload X98.here hx rfl (hb hby at_239) rfl rfl zk) ?_
      refine own_st (fun zw zk => XS.iload X98.here hx rfl (hb hby at_241) rfl zk) ?_
      show own_Go p e below G (T98.setTop (mkF m 243 #[.val (.int p0), .val (.int p1), .val (.int p2), .val (.int p3), .val (.int (1 : Int32)), .val (.int (0 : Int32)), .val (.ref b81), .val (.ref b82), .val (.ref b84), .val (.ref b87), .val (.ref b82), .val (.ref b82), .val (.ref b91), .val (.ref b95), .val (.ref b98)] [(.int (1 : Int32)), (.ref b98)]))
      refine own_st (fun zw zk => XS.iloadN X98.here hx rfl (hb hby at_243) rfl zk) ?_
      refine own_st (fun zw zk => XS.iloadN X98.here hx rfl (hb hby at_244) rfl zk) ?_
      refine own_st (fun zw zk => XS.iloadN X98.here hx rfl (hb hby at_245) rfl zk) ?_
      obtain ⟨_, _, ⟨T99, L99, k99, n99⟩, -, X99, ⟨Lc99, hQ99, l99, y99, z99⟩, st99⟩ := Jvm.LawKit.callS X98 hx (y := (⟨"com/example/attestrum/attestrum/schemes/der/AlgorithmIdentifierParametersPinLaw", "matches", "([BIIII)Z"⟩ : MethodName)) hown' (mvT hZ' (hw _ (List.mem_of_getElem? (i := 39) rfl))) (mvT hZ' (hw _ (List.mem_of_getElem? (i := 40) rfl))) (mvT hZ' (hw _ (List.mem_of_getElem? (i := 32) rfl))) (mvT hZ' (hw _ (List.mem_of_getElem? (i := 41) rfl))) (by decide) (backOf (W := 0) (rm_m1 l Z a0 hw [] b98 (1 : Int32) p0 p1 p2 ((p0.toInt8.toInt32).toInt8.toInt32) T98.heap n0 Z98 (R98_0) (rfl) (own_i2b _)) hZ' (hw _ (List.mem_of_getElem? (i := 41) rfl)) (hw _ (List.mem_of_getElem? (i := 32) rfl)) (by decide) (by decide)) (g := (mkF m 246 #[.val (.int p0), .val (.int p1), .val (.int p2), .val (.int p3), .val (.int (1 : Int32)), .val (.int (0 : Int32)), .val (.ref b81), .val (.ref b82), .val (.ref b84), .val (.ref b87), .val (.ref b82), .val (.ref b82), .val (.ref b91), .val (.ref b95), .val (.ref b98)] [(.int p2), (.int p1), (.int p0), (.int (1 : Int32)), (.ref b98)])) rfl (by rw [hml]; rfl) (argsL := [(.ref b98), (.int (1 : Int32)), (.int p0), (.int p1), (.int p2)]) (rest := []) (lenOf pd_3 rfl) rfl (by show 2 * 0 + _ ≤ _; exact Nat.le_of_eq rfl) (hb hby at_246) (fun _ _ => ⟨rfl, rfl, (by decide : 10 + 0 ≤ _), (by decide : 27 + 0 ≤ _)⟩)
      dsimp only [Pt.U, Pt.locs, Pt.cells, Pt.slots] at X99 l99 y99 z99 st99 hQ99
      subst l99 y99 z99
      obtain ⟨rfl, N99q, e99⟩ := hQ99
      have N99 := Fr.app N98 N99q
      refine own_st (fun zw zk => st99 zw zk) ?_
      subst hG
      obtain ⟨fs, hr, hrun, hended, hRW⟩ := Jvm.Stand.leaveW (s := s) X99 hS (by rw [e99]; exact Zk98) (v := some (.int (1 : Int32))) (fun h => by rw [Bd.returns] at h; cases h)
      refine ⟨_, retN X99 hx (t := .boolean) Bd.returns (by simp) (hb hby at_249) hr, _, hrun, hended, _, _, rfl, ?_, hRW.1, hRW.2.1, hRW.2.2.1, hRW.2.2.2.mono (by decide) (by decide)⟩
      show Q0 Z p0 p1 p2 p3 h0 n0 _ T99.heap _
      rw [e99]
      exact ⟨rfl, N99⟩
    · refine own_st (fun zw zk => XS.ifNo X0.here hx rfl (hb hby at_8) rfl ((if0 _ _).trans (feq hc8).1) zk) ?_
      refine own_st (fun zw zk => XS.iconst X0.here hx rfl (hb hby at_11) zk) ?_
      refine own_st (fun zw zk => XS.goto X0.here hx rfl (pc0 := 12) (pc' := 16) rfl (hb hby at_12) (by decide) (by decide) zk) ?_
      show own_Go p e below G (s₁.setTop (mkF m 16 #[.val (.int p0), .val (.int p1), .val (.int p2), .val (.int p3), .val (.int (1 : Int32)), .unset, .unset, .unset, .unset, .unset, .unset, .unset, .unset, .unset, .unset] [(.int (1 : Int32))]))
      refine own_st (fun zw zk => XS.istore X0.here hx rfl (hb hby at_16) rfl rfl zk) ?_
      show own_Go p e below G (s₁.setTop (mkF m 18 #[.val (.int p0), .val (.int p1), .val (.int p2), .val (.int p3), .val (.int (1 : Int32)), .val (.int (1 : Int32)), .unset, .unset, .unset, .unset, .unset, .unset, .unset, .unset, .unset] []))
      refine own_st (fun zw zk => XS.iconst X0.here hx rfl (hb hby at_18) zk) ?_
      obtain ⟨T100, h100, k100, X100, e100, E100, A100, B100, st100⟩ := newPE X0 hx hZ (hw _ (List.mem_of_getElem? (i := 0) rfl)) e0 (g := (mkF m 19 #[.val (.int p0), .val (.int p1), .val (.int p2), .val (.int p3), .val (.int (1 : Int32)), .val (.int (1 : Int32)), .unset, .unset, .unset, .unset, .unset, .unset, .unset, .unset, .unset] [(.int (0 : Int32))])) rfl (hb hby at_19) rfl (by decide) (cap := 0) (by decide) (by decide) (by decide) (by decide) (ad := "[B") (by decide)
      obtain ⟨b100, g100⟩ : ∃ z, z = h0.size := ⟨_, rfl⟩
      rw [← g100] at A100 B100 st100
      have G100 : n0 ≤ b100 := Nat.le_trans Z0 (Nat.le_of_eq g100.symm)
      have Z100 : n0 ≤ h100.size := Nat.le_trans Z0 E100.1
      have V100 : own_L Z h100 b100 .byte ([]) := own_L.new A100
      refine own_st (fun zw zk => st100 zw zk) ?_
      refine own_st (fun zw zk => XS.astore X100.here hx rfl (hb hby at_21) rfl rfl rfl zk) ?_
      show own_Go p e below G (T100.setTop (mkF m 23 #[.val (.int p0), .val (.int p1), .val (.int p2), .val (.int p3), .val (.int (1 : Int32)), .val (.int (1 : Int32)), .val (.ref b100), .unset, .unset, .unset, .unset, .unset, .unset, .unset, .unset] []))
      refine own_st (fun zw zk => XS.iconst X100.here hx rfl (hb hby at_23) zk) ?_
      obtain ⟨T101, h101, k101, X101, e101, E101, A101, B101, st101⟩ := newPE X100 hx hZ (hw _ (List.mem_of_getElem? (i := 0) rfl)) e100 (g := (mkF m 24 #[.val (.int p0), .val (.int p1), .val (.int p2), .val (.int p3), .val (.int (1 : Int32)), .val (.int (1 : Int32)), .val (.ref b100), .unset, .unset, .unset, .unset, .unset, .unset, .unset, .unset] [(.int (1 : Int32))])) rfl (hb hby at_24) rfl (by decide) (cap := 1) (by decide) (by decide) (by decide) (by decide) (ad := "[B") (by decide)
      obtain ⟨b101, g101⟩ : ∃ z, z = h100.size := ⟨_, rfl⟩
      rw [← g101] at A101 B101 st101
      have G101 : n0 ≤ b101 := Nat.le_trans Z100 (Nat.le_of_eq g101.symm)
      have ne_b100_b101 : b100 ≠ b101 := Nat.ne_of_lt (Nat.lt_of_lt_of_le V100.lt (Nat.le_of_eq g101.symm))
      have Vb100_101 := V100.ext E101
      have Bb100_101 := B100.ext E101
      have Z101 : n0 ≤ h101.size := Nat.le_trans Z100 E101.1
      have V101 : own_L Z h101 b101 .byte ([(.int (0 : Int32))]) := own_L.new A101
      refine own_st (fun zw zk => st101 zw zk) ?_
      refine own_st (fun zw zk => XS.dup X101.here hx rfl (hb hby at_26) rfl rfl zk) ?_
      refine own_st (fun zw zk => XS.iconst X101.here hx rfl (hb hby at_27) zk) ?_
      refine own_st (fun zw zk => XS.iloadN X101.here hx rfl (hb hby at_28) rfl zk) ?_
      refine own_st (fun zw zk => XS.i2b X101.here hx rfl (hb hby at_29) rfl zk) ?_
      obtain ⟨T102, h102, X102, e102, W102, V102, st102⟩ := own_bst X101 hx hZ e101 V101 (j := (0 : Int32)) (0) (by decide) (by decide) (Nat.le_of_ble_eq_true rfl) (g := (mkF m 30 #[.val (.int p0), .val (.int p1), .val (.int p2), .val (.int p3), .val (.int (1 : Int32)), .val (.int (1 : Int32)), .val (.ref b100), .unset, .unset, .unset, .unset, .unset, .unset, .unset, .unset] [(.int (p0.toInt8.toInt32)), (.int (0 : Int32)), (.ref b101), (.ref b101)])) rfl rfl (hb hby at_30)
      have Vb101_102 : own_L Z h102 b101 .byte ([(.int ((p0.toInt8.toInt32).toInt8.toInt32))]) := V102
      have N102 := Fr.snoc X102 N0 G101
      refine own_st (fun zw zk => st102 zw zk) ?_
      have Vb100_102 := Vb100_101.other W102 ne_b100_b101
      have Bb100_102 := Bb100_101.wr W102
      have Bb101_102 := B101.wr W102
      have Z102 : n0 ≤ h102.size := Nat.le_trans Z101 (Keep.of_wr W102).1
      refine own_st (fun zw zk => XS.astore X102.here hx rfl (hb hby at_31) rfl rfl rfl zk) ?_
      show own_Go p e below G (T102.setTop (mkF m 33 #[.val (.int p0), .val (.int p1), .val (.int p2), .val (.int p3), .val (.int (1 : Int32)), .val (.int (1 : Int32)), .val (.ref b100), .val (.ref b101), .unset, .unset, .unset, .unset, .unset, .unset, .unset] []))
      refine own_st (fun zw zk => XS.iconst X102.here hx rfl (hb hby at_33) zk) ?_
      obtain ⟨T103, h103, k103, X103, e103, E103, A103, B103, st103⟩ := newPE X102 hx hZ (hw _ (List.mem_of_getElem? (i := 0) rfl)) e102 (g := (mkF m 34 #[.val (.int p0), .val (.int p1), .val (.int p2), .val (.int p3), .val (.int (1 : Int32)), .val (.int (1 : Int32)), .val (.ref b100), .val (.ref b101), .unset, .unset, .unset, .unset, .unset, .unset, .unset] [(.int (2 : Int32))])) rfl (hb hby at_34) rfl (by decide) (cap := 2) (by decide) (by decide) (by decide) (by decide) (ad := "[B") (by decide)
      obtain ⟨b103, g103⟩ : ∃ z, z = h102.size := ⟨_, rfl⟩
      rw [← g103] at A103 B103 st103
      have G103 : n0 ≤ b103 := Nat.le_trans Z102 (Nat.le_of_eq g103.symm)
      have ne_b100_b103 : b100 ≠ b103 := Nat.ne_of_lt (Nat.lt_of_lt_of_le Vb100_102.lt (Nat.le_of_eq g103.symm))
      have ne_b101_b103 : b101 ≠ b103 := Nat.ne_of_lt (Nat.lt_of_lt_of_le Bb101_102.lt (Nat.le_of_eq g103.symm))
      have Vb100_103 := Vb100_102.ext E103
      have Bb100_103 := Bb100_102.ext E103
      have Bb101_103 := Bb101_102.ext E103
      have Vb101_103 := Vb101_102.ext E103
      have Z103 : n0 ≤ h103.size := Nat.le_trans Z102 E103.1
      have V103 : own_L Z h103 b103 .byte ([(.int (0 : Int32)), (.int (0 : Int32))]) := own_L.new A103
      refine own_st (fun zw zk => st103 zw zk) ?_
      refine own_st (fun zw zk => XS.dup X103.here hx rfl (hb hby at_36) rfl rfl zk) ?_
      refine own_st (fun zw zk => XS.iconst X103.here hx rfl (hb hby at_37) zk) ?_
      refine own_st (fun zw zk => XS.iloadN X103.here hx rfl (hb hby at_38) rfl zk) ?_
      refine own_st (fun zw zk => XS.i2b X103.here hx rfl (hb hby at_39) rfl zk) ?_
      obtain ⟨T104, h104, X104, e104, W104, V104, st104⟩ := own_bst X103 hx hZ e103 V103 (j := (0 : Int32)) (0) (by decide) (by decide) (Nat.le_of_ble_eq_true rfl) (g := (mkF m 40 #[.val (.int p0), .val (.int p1), .val (.int p2), .val (.int p3), .val (.int (1 : Int32)), .val (.int (1 : Int32)), .val (.ref b100), .val (.ref b101), .unset, .unset, .unset, .unset, .unset, .unset, .unset] [(.int (p0.toInt8.toInt32)), (.int (0 : Int32)), (.ref b103), (.ref b103)])) rfl rfl (hb hby at_40)
      have Vb103_104 : own_L Z h104 b103 .byte ([(.int ((p0.toInt8.toInt32).toInt8.toInt32)), (.int (0 : Int32))]) := V104
      have N104 := Fr.snoc X104 N102 G103
      refine own_st (fun zw zk => st104 zw zk) ?_
      have Vb100_104 := Vb100_103.other W104 ne_b100_b103
      have Bb100_104 := Bb100_103.wr W104
      have Bb101_104 := Bb101_103.wr W104
      have Vb101_104 := Vb101_103.other W104 ne_b101_b103
      have Bb103_104 := B103.wr W104
      have Z104 : n0 ≤ h104.size := Nat.le_trans Z103 (Keep.of_wr W104).1
      refine own_st (fun zw zk => XS.dup X104.here hx rfl (hb hby at_41) rfl rfl zk) ?_
      show own_Go p e below G (T104.setTop (mkF m 42 #[.val (.int p0), .val (.int p1), .val (.int p2), .val (.int p3), .val (.int (1 : Int32)), .val (.int (1 : Int32)), .val (.ref b100), .val (.ref b101), .unset, .unset, .unset, .unset, .unset, .unset, .unset] [(.ref b103), (.ref b103)]))
      refine own_st (fun zw zk => XS.iconst X104.here hx rfl (hb hby at_42) zk) ?_
      refine own_st (fun zw zk => XS.iloadN X104.here hx rfl (hb hby at_43) rfl zk) ?_
      refine own_st (fun zw zk => XS.i2b X104.here hx rfl (hb hby at_44) rfl zk) ?_
      obtain ⟨T105, h105, X105, e105, W105, V105, st105⟩ := own_bst X104 hx hZ e104 Vb103_104 (j := (1 : Int32)) (1) (by decide) (by decide) (Nat.le_of_ble_eq_true rfl) (g := (mkF m 45 #[.val (.int p0), .val (.int p1), .val (.int p2), .val (.int p3), .val (.int (1 : Int32)), .val (.int (1 : Int32)), .val (.ref b100), .val (.ref b101), .unset, .unset, .unset, .unset, .unset, .unset, .unset] [(.int (p1.toInt8.toInt32)), (.int (1 : Int32)), (.ref b103), (.ref b103)])) rfl rfl (hb hby at_45)
      have Vb103_105 : own_L Z h105 b103 .byte ([(.int ((p0.toInt8.toInt32).toInt8.toInt32)), (.int ((p1.toInt8.toInt32).toInt8.toInt32))]) := V105
      have N105 := Fr.snoc X105 N104 G103
      refine own_st (fun zw zk => st105 zw zk) ?_
      have Vb100_105 := Vb100_104.other W105 ne_b100_b103
      have Bb100_105 := Bb100_104.wr W105
      have Bb101_105 := Bb101_104.wr W105
      have Vb101_105 := Vb101_104.other W105 ne_b101_b103
      have Bb103_105 := Bb103_104.wr W105
      have Z105 : n0 ≤ h105.size := Nat.le_trans Z104 (Keep.of_wr W105).1
      refine own_st (fun zw zk => XS.astore X105.here hx rfl (hb hby at_46) rfl rfl rfl zk) ?_
      show own_Go p e below G (T105.setTop (mkF m 48 #[.val (.int p0), .val (.int p1), .val (.int p2), .val (.int p3), .val (.int (1 : Int32)), .val (.int (1 : Int32)), .val (.ref b100), .val (.ref b101), .val (.ref b103), .unset, .unset, .unset, .unset, .unset, .unset] []))
      refine own_st (fun zw zk => XS.iconst X105.here hx rfl (hb hby at_48) zk) ?_
      obtain ⟨T106, h106, k106, X106, e106, E106, A106, B106, st106⟩ := newPE X105 hx hZ (hw _ (List.mem_of_getElem? (i := 0) rfl)) e105 (g := (mkF m 49 #[.val (.int p0), .val (.int p1), .val (.int p2), .val (.int p3), .val (.int (1 : Int32)), .val (.int (1 : Int32)), .val (.ref b100), .val (.ref b101), .val (.ref b103), .unset, .unset, .unset, .unset, .unset, .unset] [(.int (3 : Int32))])) rfl (hb hby at_49) rfl (by decide) (cap := 3) (by decide) (by decide) (by decide) (by decide) (ad := "[B") (by decide)
      obtain ⟨b106, g106⟩ : ∃ z, z = h105.size := ⟨_, rfl⟩
      rw [← g106] at A106 B106 st106
      have G106 : n0 ≤ b106 := Nat.le_trans Z105 (Nat.le_of_eq g106.symm)
      have ne_b100_b106 : b100 ≠ b106 := Nat.ne_of_lt (Nat.lt_of_lt_of_le Vb100_105.lt (Nat.le_of_eq g106.symm))
      have ne_b101_b106 : b101 ≠ b106 := Nat.ne_of_lt (Nat.lt_of_lt_of_le Bb101_105.lt (Nat.le_of_eq g106.symm))
      have ne_b103_b106 : b103 ≠ b106 := Nat.ne_of_lt (Nat.lt_of_lt_of_le Bb103_105.lt (Nat.le_of_eq g106.symm))
      have Vb100_106 := Vb100_105.ext E106
      have Bb100_106 := Bb100_105.ext E106
      have Bb101_106 := Bb101_105.ext E106
      have Vb101_106 := Vb101_105.ext E106
      have Bb103_106 := Bb103_105.ext E106
      have Vb103_106 := Vb103_105.ext E106
      have Z106 : n0 ≤ h106.size := Nat.le_trans Z105 E106.1
      have V106 : own_L Z h106 b106 .byte ([(.int (0 : Int32)), (.int (0 : Int32)), (.int (0 : Int32))]) := own_L.new A106
      refine own_st (fun zw zk => st106 zw zk) ?_
      refine own_st (fun zw zk => XS.dup X106.here hx rfl (hb hby at_51) rfl rfl zk) ?_
      refine own_st (fun zw zk => XS.iconst X106.here hx rfl (hb hby at_52) zk) ?_
      refine own_st (fun zw zk => XS.iloadN X106.here hx rfl (hb hby at_53) rfl zk) ?_
      refine own_st (fun zw zk => XS.i2b X106.here hx rfl (hb hby at_54) rfl zk) ?_
      obtain ⟨T107, h107, X107, e107, W107, V107, st107⟩ := own_bst X106 hx hZ e106 V106 (j := (0 : Int32)) (0) (by decide) (by decide) (Nat.le_of_ble_eq_true rfl) (g := (mkF m 55 #[.val (.int p0), .val (.int p1), .val (.int p2), .val (.int p3), .val (.int (1 : Int32)), .val (.int (1 : Int32)), .val (.ref b100), .val (.ref b101), .val (.ref b103), .unset, .unset, .unset, .unset, .unset, .unset] [(.int (p0.toInt8.toInt32)), (.int (0 : Int32)), (.ref b106), (.ref b106)])) rfl rfl (hb hby at_55)
      have Vb106_107 : own_L Z h107 b106 .byte ([(.int ((p0.toInt8.toInt32).toInt8.toInt32)), (.int (0 : Int32)), (.int (0 : Int32))]) := V107
      have N107 := Fr.snoc X107 N105 G106
      refine own_st (fun zw zk => st107 zw zk) ?_
      have Vb100_107 := Vb100_106.other W107 ne_b100_b106
      have Bb100_107 := Bb100_106.wr W107
      have Bb101_107 := Bb101_106.wr W107
      have Vb101_107 := Vb101_106.other W107 ne_b101_b106
      have Bb103_107 := Bb103_106.wr W107
      have Vb103_107 := Vb103_106.other W107 ne_b103_b106
      have Bb106_107 := B106.wr W107
      have Z107 : n0 ≤ h107.size := Nat.le_trans Z106 (Keep.of_wr W107).1
      refine own_st (fun zw zk => XS.dup X107.here hx rfl (hb hby at_56) rfl rfl zk) ?_
      show own_Go p e below G (T107.setTop (mkF m 57 #[.val (.int p0), .val (.int p1), .val (.int p2), .val (.int p3), .val (.int (1 : Int32)), .val (.int (1 : Int32)), .val (.ref b100), .val (.ref b101), .val (.ref b103), .unset, .unset, .unset, .unset, .unset, .unset] [(.ref b106), (.ref b106)]))
      refine own_st (fun zw zk => XS.iconst X107.here hx rfl (hb hby at_57) zk) ?_
      refine own_st (fun zw zk => XS.iloadN X107.here hx rfl (hb hby at_58) rfl zk) ?_
      refine own_st (fun zw zk => XS.i2b X107.here hx rfl (hb hby at_59) rfl zk) ?_
      obtain ⟨T108, h108, X108, e108, W108, V108, st108⟩ := own_bst X107 hx hZ e107 Vb106_107 (j := (1 : Int32)) (1) (by decide) (by decide) (Nat.le_of_ble_eq_true rfl) (g := (mkF m 60 #[.val (.int p0), .val (.int p1), .val (.int p2), .val (.int p3), .val (.int (1 : Int32)), .val (.int (1 : Int32)), .val (.ref b100), .val (.ref b101), .val (.ref b103), .unset, .unset, .unset, .unset, .unset, .unset] [(.int (p1.toInt8.toInt32)), (.int (1 : Int32)), (.ref b106), (.ref b106)])) rfl rfl (hb hby at_60)
      have Vb106_108 : own_L Z h108 b106 .byte ([(.int ((p0.toInt8.toInt32).toInt8.toInt32)), (.int ((p1.toInt8.toInt32).toInt8.toInt32)), (.int (0 : Int32))]) := V108
      have N108 := Fr.snoc X108 N107 G106
      refine own_st (fun zw zk => st108 zw zk) ?_
      have Vb100_108 := Vb100_107.other W108 ne_b100_b106
      have Bb100_108 := Bb100_107.wr W108
      have Bb101_108 := Bb101_107.wr W108
      have Vb101_108 := Vb101_107.other W108 ne_b101_b106
      have Bb103_108 := Bb103_107.wr W108
      have Vb103_108 := Vb103_107.other W108 ne_b103_b106
      have Bb106_108 := Bb106_107.wr W108
      have Z108 : n0 ≤ h108.size := Nat.le_trans Z107 (Keep.of_wr W108).1
      refine own_st (fun zw zk => XS.dup X108.here hx rfl (hb hby at_61) rfl rfl zk) ?_
      refine own_st (fun zw zk => XS.iconst X108.here hx rfl (hb hby at_62) zk) ?_
      refine own_st (fun zw zk => XS.iloadN X108.here hx rfl (hb hby at_63) rfl zk) ?_
      refine own_st (fun zw zk => XS.i2b X108.here hx rfl (hb hby at_64) rfl zk) ?_
      show own_Go p e below G (T108.setTop (mkF m 65 #[.val (.int p0), .val (.int p1), .val (.int p2), .val (.int p3), .val (.int (1 : Int32)), .val (.int (1 : Int32)), .val (.ref b100), .val (.ref b101), .val (.ref b103), .unset, .unset, .unset, .unset, .unset, .unset] [(.int (p2.toInt8.toInt32)), (.int (2 : Int32)), (.ref b106), (.ref b106)]))
      obtain ⟨T109, h109, X109, e109, W109, V109, st109⟩ := own_bst X108 hx hZ e108 Vb106_108 (j := (2 : Int32)) (2) (by decide) (by decide) (Nat.le_of_ble_eq_true rfl) (g := (mkF m 65 #[.val (.int p0), .val (.int p1), .val (.int p2), .val (.int p3), .val (.int (1 : Int32)), .val (.int (1 : Int32)), .val (.ref b100), .val (.ref b101), .val (.ref b103), .unset, .unset, .unset, .unset, .unset, .unset] [(.int (p2.toInt8.toInt32)), (.int (2 : Int32)), (.ref b106), (.ref b106)])) rfl rfl (hb hby at_65)
      have Vb106_109 : own_L Z h109 b106 .byte ([(.int ((p0.toInt8.toInt32).toInt8.toInt32)), (.int ((p1.toInt8.toInt32).toInt8.toInt32)), (.int ((p2.toInt8.toInt32).toInt8.toInt32))]) := V109
      have N109 := Fr.snoc X109 N108 G106
      refine own_st (fun zw zk => st109 zw zk) ?_
      have Vb100_109 := Vb100_108.other W109 ne_b100_b106
      have Bb100_109 := Bb100_108.wr W109
      have Bb101_109 := Bb101_108.wr W109
      have Vb101_109 := Vb101_108.other W109 ne_b101_b106
      have Bb103_109 := Bb103_108.wr W109
      have Vb103_109 := Vb103_108.other W109 ne_b103_b106
      have Bb106_109 := Bb106_108.wr W109
      have Z109 : n0 ≤ h109.size := Nat.le_trans Z108 (Keep.of_wr W109).1
      refine own_st (fun zw zk => XS.astore X109.here hx rfl (hb hby at_66) rfl rfl rfl zk) ?_
      show own_Go p e below G (T109.setTop (mkF m 68 #[.val (.int p0), .val (.int p1), .val (.int p2), .val (.int p3), .val (.int (1 : Int32)), .val (.int (1 : Int32)), .val (.ref b100), .val (.ref b101), .val (.ref b103), .val (.ref b106), .unset, .unset, .unset, .unset, .unset] []))
      refine own_st (fun zw zk => XS.iload X109.here hx rfl (hb hby at_68) rfl zk) ?_
      refine own_st (fun zw zk => XS.ifYes X109.here hx rfl (pc0 := 70) (pc' := 78) rfl (hb hby at_70) rfl ((if0 _ _).trans (feq (by decide : ¬ ((1 : Int32) = (0 : Int32)))).2) (by decide) (by decide) zk) ?_
      refine own_st (fun zw zk => XS.iload X109.here hx rfl (hb hby at_78) rfl zk) ?_
      refine own_st (fun zw zk => XS.iconst X109.here hx rfl (hb hby at_80) zk) ?_
      refine own_st (fun zw zk => XS.icmpNo X109.here hx rfl (hb hby at_81) rfl (teq (by decide : (1 : Int32) = (1 : Int32))).2 zk) ?_
      refine own_st (fun zw zk => XS.aload X109.here hx rfl (hb hby at_84) rfl rfl zk) ?_
      refine own_st (fun zw zk => XS.goto X109.here hx rfl (pc0 := 86) (pc' := 102) rfl (hb hby at_86) (by decide) (by decide) zk) ?_
      show own_Go p e below G (T109.setTop (mkF m 102 #[.val (.int p0), .val (.int p1), .val (.int p2), .val (.int p3), .val (.int (1 : Int32)), .val (.int (1 : Int32)), .val (.ref b100), .val (.ref b101), .val (.ref b103), .val (.ref b106), .unset, .unset, .unset, .unset, .unset] [(.ref b101)]))
      refine own_st (fun zw zk => XS.astore X109.here hx rfl (hb hby at_102) rfl rfl rfl zk) ?_
      show own_Go p e below G (T109.setTop (mkF m 104 #[.val (.int p0), .val (.int p1), .val (.int p2), .val (.int p3), .val (.int (1 : Int32)), .val (.int (1 : Int32)), .val (.ref b100), .val (.ref b101), .val (.ref b103), .val (.ref b106), .val (.ref b101), .unset, .unset, .unset, .unset] []))
      refine own_st (fun zw zk => XS.iload X109.here hx rfl (hb hby at_104) rfl zk) ?_
      refine own_st (fun zw zk => XS.ifNo X109.here hx rfl (hb hby at_106) rfl ((if0 _ _).trans (feq (by decide : ¬ ((1 : Int32) = (0 : Int32)))).1) zk) ?_
      refine own_st (fun zw zk => XS.aconstNull X109.here hx rfl (hb hby at_109) zk) ?_
      refine own_st (fun zw zk => XS.goto X109.here hx rfl (pc0 := 110) (pc' := 115) rfl (hb hby at_110) (by decide) (by decide) zk) ?_
      show own_Go p e below G (T109.setTop (mkF m 115 #[.val (.int p0), .val (.int p1), .val (.int p2), .val (.int p3), .val (.int (1 : Int32)), .val (.int (1 : Int32)), .val (.ref b100), .val (.ref b101), .val (.ref b103), .val (.ref b106), .val (.ref b101), .unset, .unset, .unset, .unset] [.null]))
      refine own_st (fun zw zk => XS.astore X109.here hx rfl (hb hby at_115) rfl rfl rfl zk) ?_
      show own_Go p e below G (T109.setTop (mkF m 117 #[.val (.int p0), .val (.int p1), .val (.int p2), .val (.int p3), .val (.int (1 : Int32)), .val (.int (1 : Int32)), .val (.ref b100), .val (.ref b101), .val (.ref b103), .val (.ref b106), .val (.ref b101), .val .null, .unset, .unset, .unset] []))
      obtain ⟨T110, h110, X110, e110, E110, A110, D110, -, st110⟩ := newO X109 hx hZ hown (hw _ (List.mem_of_getElem? (i := 1) rfl)) (hw _ (List.mem_of_getElem? (i := 2) rfl)) (hw _ (List.mem_of_getElem? (i := 3) rfl)) e109 (g := (mkF m 117 #[.val (.int p0), .val (.int p1), .val (.int p2), .val (.int p3), .val (.int (1 : Int32)), .val (.int (1 : Int32)), .val (.ref b100), .val (.ref b101), .val (.ref b103), .val (.ref b106), .val (.ref b101), .val .null, .unset, .unset, .unset] [])) rfl (hb hby at_117) (by decide) (by decide)
      obtain ⟨b110, g110⟩ : ∃ z, z = h109.size := ⟨_, rfl⟩
      rw [← g110] at A110 D110 st110
      have G110 : n0 ≤ b110 := Nat.le_trans Z109 (Nat.le_of_eq g110.symm)
      have ne_b100_b110 : b100 ≠ b110 := Nat.ne_of_lt (Nat.lt_of_lt_of_le Vb100_109.lt (Nat.le_of_eq g110.symm))
      have ne_b101_b110 : b101 ≠ b110 := Nat.ne_of_lt (Nat.lt_of_lt_of_le Bb101_109.lt (Nat.le_of_eq g110.symm))
      have ne_b103_b110 : b103 ≠ b110 := Nat.ne_of_lt (Nat.lt_of_lt_of_le Bb103_109.lt (Nat.le_of_eq g110.symm))
      have ne_b106_b110 : b106 ≠ b110 := Nat.ne_of_lt (Nat.lt_of_lt_of_le Bb106_109.lt (Nat.le_of_eq g110.symm))
      have Vb100_110 := Vb100_109.ext E110
      have Bb100_110 := Bb100_109.ext E110
      have Bb101_110 := Bb101_109.ext E110
      have Vb101_110 := Vb101_109.ext E110
      have Bb103_110 := Bb103_109.ext E110
      have Vb103_110 := Vb103_109.ext E110
      have Bb106_110 := Bb106_109.ext E110
      have Vb106_110 := Vb106_109.ext E110
      have Z110 : n0 ≤ h110.size := Nat.le_trans Z109 E110.1
      have Fb110oid : Fld Z h110 b110 "com/example/attestrum/attestrum/schemes/der/AlgorithmIdentifier" "oid" "Ljava/lang/String;" .null := D110 (Or.inr (hw _ (List.mem_of_getElem? (i := 18) rfl))) (ty := (.object "java/lang/String")) (by decide)
      have Fb110parameters : Fld Z h110 b110 "com/example/attestrum/attestrum/schemes/der/AlgorithmIdentifier" "parameters" "[B" .null := D110 (Or.inr (hw _ (List.mem_of_getElem? (i := 29) rfl))) (ty := (.array .byte)) (by decide)
      refine own_st (fun zw zk => st110 zw zk) ?_
      refine own_st (fun zw zk => XS.dup X110.here hx rfl (hb hby at_120) rfl rfl zk) ?_
      have wS111 : ∀ z ∈ Bundle.stringAtoms, z.before a0 Z = true := by
        intro z hz
        simp only [Bundle.stringAtoms, List.mem_cons, List.not_mem_nil, or_false] at hz
        rcases hz with rfl | rfl | rfl | rfl | rfl | rfl | rfl
        · exact (hw _ (List.mem_of_getElem? (i := 5) rfl))
        · exact (hw _ (List.mem_of_getElem? (i := 6) rfl))
        · exact (hw _ (List.mem_of_getElem? (i := 0) rfl))
        · exact (hw _ (List.mem_of_getElem? (i := 7) rfl))
        · exact (hw _ (List.mem_of_getElem? (i := 8) rfl))
        · exact (hw _ (List.mem_of_getElem? (i := 9) rfl))
        · exact (hw _ (List.mem_of_getElem? (i := 10) rfl))
      obtain ⟨b111, T111, h111, k111, X111, e111, E111, hS, Zk111, hZ', hown', st111⟩ := ldcS (s := s) (vm0 := s.vm) X110 hx hZ hown (hw _ (List.mem_of_getElem? (i := 4) rfl)) wS111 e110 ((State.WarmedH.refl s).since 0) (Nat.zero_le _) (g := (mkF m 121 #[.val (.int p0), .val (.int p1), .val (.int p2), .val (.int p3), .val (.int (1 : Int32)), .val (.int (1 : Int32)), .val (.ref b100), .val (.ref b101), .val (.ref b103), .val (.ref b106), .val (.ref b101), .val .null, .unset, .unset, .unset] [(.ref b110), (.ref b110)])) rfl (hb hby at_121) (n := 12) (by decide) (by decide) (by decide) (by decide)
      refine own_st (fun zw zk => st111 zw zk) ?_
      have Vb100_111 := Vb100_110.ext E111
      have Bb100_111 := Bb100_110.ext E111
      have Bb101_111 := Bb101_110.ext E111
      have Vb101_111 := Vb101_110.ext E111
      have Bb103_111 := Bb103_110.ext E111
      have Vb103_111 := Vb103_110.ext E111
      have Bb106_111 := Bb106_110.ext E111
      have Vb106_111 := Vb106_110.ext E111
      have Fb110oid_111 := Fb110oid.ext E111
      have Fb110parameters_111 := Fb110parameters.ext E111
      have Ab110_111 := A110.ext E111
      have Z111 : n0 ≤ h111.size := Nat.le_trans Z110 E111.1
      refine own_st (fun zw zk => XS.aload X111.here hx rfl (hb hby at_123) rfl rfl zk) ?_
      obtain ⟨_, _, ⟨T112, L112, k112, n112⟩, -, X112, ⟨Lc112, hQ112, l112, y112, z112⟩, st112⟩ := X111.specialBack hx (y := (⟨"com/example/attestrum/attestrum/schemes/der/AlgorithmIdentifier", "<init>", "(Ljava/lang/String;[B)V"⟩ : MethodName)) rfl hown' (mvT hZ' (hw _ (List.mem_of_getElem? (i := 11) rfl))) (mvT hZ' (hw _ (List.mem_of_getElem? (i := 12) rfl))) (mvT hZ' (hw _ (List.mem_of_getElem? (i := 13) rfl))) (by decide) (backOf (W := 1) (rm_in l Z a0 hw [] b110 b111 h111 n0 Z111 (Ab110_111) (Fb110oid_111) (Fb110parameters_111) (G110)) hZ' (hw _ (List.mem_of_getElem? (i := 13) rfl)) (hw _ (List.mem_of_getElem? (i := 3) rfl)) (by decide) (by decide)) (g := (mkF m 125 #[.val (.int p0), .val (.int p1), .val (.int p2), .val (.int p3), .val (.int (1 : Int32)), .val (.int (1 : Int32)), .val (.ref b100), .val (.ref b101), .val (.ref b103), .val (.ref b106), .val (.ref b101), .val .null, .unset, .unset, .unset] [.null, (.ref b111), (.ref b110), (.ref b110)])) rfl (by rw [hml]; rfl) (Steps.refl _) (a := b110) (argsL := [(.ref b111), .null]) (rest := [(.ref b110)]) (lenOf pd_0 rfl) rfl (by show 2 * 0 + _ ≤ _; exact Nat.le_of_eq rfl) (hb hby at_125) (fun _ _ => ⟨rfl, e111, (by decide : 7 + 0 ≤ _), (by decide : 24 + 0 ≤ _)⟩)
      dsimp only [Pt.U, Pt.locs, Pt.cells, Pt.slots] at X112 l112 y112 z112 st112 hQ112
      subst l112 y112 z112
      obtain ⟨rfl, N112q, K112, O112_0, O112_1⟩ := hQ112
      have Zk112 := Nat.le_trans Zk111 K112.1
      have Vb100_112 := Vb100_111.keep K112 (ninS ne_b100_b110 nin0)
      have Bb100_112 := Bb100_111.keep K112
      have Bb101_112 := Bb101_111.keep K112
      have Vb101_112 := Vb101_111.keep K112 (ninS ne_b101_b110 nin0)
      have Bb103_112 := Bb103_111.keep K112
      have Vb103_112 := Vb103_111.keep K112 (ninS ne_b103_b110 nin0)
      have Bb106_112 := Bb106_111.keep K112
      have Vb106_112 := Vb106_111.keep K112 (ninS ne_b106_b110 nin0)
      have Ab110_112 := Ab110_111.keep K112
      have Z112 : n0 ≤ T112.heap.size := Nat.le_trans Z111 K112.1
      have N112 := Fr.app N109 N112q
      refine own_jp st112 ?_
      refine own_st (fun zw zk => XS.astore X112.here hx rfl (hb hby at_128) rfl rfl rfl zk) ?_
      show own_Go p e below G (T112.setTop (mkF m 130 #[.val (.int p0), .val (.int p1), .val (.int p2), .val (.int p3), .val (.int (1 : Int32)), .val (.int (1 : Int32)), .val (.ref b100), .val (.ref b101), .val (.ref b103), .val (.ref b106), .val (.ref b101), .val .null, .val (.ref b110), .unset, .unset] []))
      refine own_st (fun zw zk => XS.aload X112.here hx rfl (hb hby at_130) rfl rfl zk) ?_
      refine own_st (fun zw zk => XS.ifnonnullNo X112.here hx rfl (hb hby at_132) rfl zk) ?_
      refine own_st (fun zw zk => XS.aload X112.here hx rfl (hb hby at_135) rfl rfl zk) ?_
      obtain ⟨cq113, kq113, q113a, q113b, q113c⟩ := isOf hZ' rfl O112_0
      obtain ⟨_, _, ⟨T113, L113, k113, n113⟩, -, X113, ⟨Lc113, hQ113, l113, y113, z113⟩, st113⟩ := X112.virtualBack hx (y := (⟨"com/example/attestrum/attestrum/schemes/der/AlgorithmIdentifier", "parameters", "()[B"⟩ : MethodName)) (z := (⟨"com/example/attestrum/attestrum/schemes/der/AlgorithmIdentifier", "parameters", "()[B"⟩ : MethodName)) hown' (mvT hZ' (hw _ (List.mem_of_getElem? (i := 34) rfl))) (mvT hZ' (hw _ (List.mem_of_getElem? (i := 35) rfl))) (notFace_of_selects (args := #[]) (mvT hZ' (hw _ (List.mem_of_getElem? (i := 37) rfl)))) (mvT hZ' (hw _ (List.mem_of_getElem? (i := 37) rfl))) (mvT hZ' (hw _ (List.mem_of_getElem? (i := 36) rfl))) (by decide) (backOf (W := 0) (rm_pn l Z a0 hw [] b110 T112.heap n0 Z112 (O112_1)) hZ' (hw _ (List.mem_of_getElem? (i := 38) rfl)) (hw _ (List.mem_of_getElem? (i := 3) rfl)) (by decide) (by decide)) q113a q113c (g := (mkF m 137 #[.val (.int p0), .val (.int p1), .val (.int p2), .val (.int p3), .val (.int (1 : Int32)), .val (.int (1 : Int32)), .val (.ref b100), .val (.ref b101), .val (.ref b103), .val (.ref b106), .val (.ref b101), .val .null, .val (.ref b110), .unset, .unset] [(.ref b110)])) rfl (by rw [hml]; rfl) (Steps.refl _) (argsL := []) (rest := []) (lenOf pd_2 rfl) rfl (by show 2 * 0 + _ ≤ _; exact Nat.le_of_eq rfl) (hb hby at_137) (fun _ _ => ⟨rfl, rfl, (by decide : 7 + 0 ≤ _), (by decide : 24 + 0 ≤ _)⟩)
      dsimp only [Pt.U, Pt.locs, Pt.cells, Pt.slots] at X113 l113 y113 z113 st113 hQ113
      subst l113 y113 z113
      obtain ⟨rfl, N113q, e113⟩ := hQ113
      have N113 := Fr.app N112 N113q
      refine own_jp st113 ?_
      refine own_st (fun zw zk => XS.astore X113.here hx rfl (hb hby at_140) rfl rfl rfl zk) ?_
      show own_Go p e below G (T113.setTop (mkF m 142 #[.val (.int p0), .val (.int p1), .val (.int p2), .val (.int p3), .val (.int (1 : Int32)), .val (.int (1 : Int32)), .val (.ref b100), .val (.ref b101), .val (.ref b103), .val (.ref b106), .val (.ref b101), .val .null, .val (.ref b110), .val .null, .unset] []))
      refine own_st (fun zw zk => XS.aload X113.here hx rfl (hb hby at_142) rfl rfl zk) ?_
      obtain ⟨cq114, kq114, q114a, q114b, q114c⟩ := isOf hZ' e113 O112_0
      obtain ⟨_, _, ⟨T114, L114, k114, n114⟩, -, X114, ⟨Lc114, hQ114, l114, y114, z114⟩, st114⟩ := X113.virtualBack hx (y := (⟨"com/example/attestrum/attestrum/schemes/der/AlgorithmIdentifier", "parameters", "()[B"⟩ : MethodName)) (z := (⟨"com/example/attestrum/attestrum/schemes/der/AlgorithmIdentifier", "parameters", "()[B"⟩ : MethodName)) hown' (mvT hZ' (hw _ (List.mem_of_getElem? (i := 34) rfl))) (mvT hZ' (hw _ (List.mem_of_getElem? (i := 35) rfl))) (notFace_of_selects (args := #[]) (mvT hZ' (hw _ (List.mem_of_getElem? (i := 37) rfl)))) (mvT hZ' (hw _ (List.mem_of_getElem? (i := 37) rfl))) (mvT hZ' (hw _ (List.mem_of_getElem? (i := 36) rfl))) (by decide) (backOf (W := 0) (rm_pn l Z a0 hw [] b110 T112.heap n0 Z112 (O112_1)) hZ' (hw _ (List.mem_of_getElem? (i := 38) rfl)) (hw _ (List.mem_of_getElem? (i := 3) rfl)) (by decide) (by decide)) q114a q114c (g := (mkF m 144 #[.val (.int p0), .val (.int p1), .val (.int p2), .val (.int p3), .val (.int (1 : Int32)), .val (.int (1 : Int32)), .val (.ref b100), .val (.ref b101), .val (.ref b103), .val (.ref b106), .val (.ref b101), .val .null, .val (.ref b110), .val .null, .unset] [(.ref b110)])) rfl (by rw [hml]; rfl) (Steps.refl _) (argsL := []) (rest := []) (lenOf pd_2 rfl) rfl (by show 2 * 0 + _ ≤ _; exact Nat.le_of_eq rfl) (hb hby at_144) (fun _ _ => ⟨rfl, e113, (by decide : 7 + 0 ≤ _), (by decide : 24 + 0 ≤ _)⟩)
      dsimp only [Pt.U, Pt.locs, Pt.cells, Pt.slots] at X114 l114 y114 z114 st114 hQ114
      subst l114 y114 z114
      obtain ⟨rfl, N114q, e114⟩ := hQ114
      have N114 := Fr.app N113 N114q
      refine own_jp st114 ?_
      refine own_st (fun zw zk => XS.astore X114.here hx rfl (hb hby at_147) rfl rfl rfl zk) ?_
      show own_Go p e below G (T114.setTop (mkF m 149 #[.val (.int p0), .val (.int p1), .val (.int p2), .val (.int p3), .val (.int (1 : Int32)), .val (.int (1 : Int32)), .val (.ref b100), .val (.ref b101), .val (.ref b103), .val (.ref b106), .val (.ref b101), .val .null, .val (.ref b110), .val .null, .val .null] []))
      refine own_st (fun zw zk => XS.aload X114.here hx rfl (hb hby at_149) rfl rfl zk) ?_
      refine own_st (fun zw zk => XS.ifnonnullNo X114.here hx rfl (hb hby at_151) rfl zk) ?_
      refine own_st (fun zw zk => XS.aload X114.here hx rfl (hb hby at_154) rfl rfl zk) ?_
      refine own_st (fun zw zk => XS.ifnonnullNo X114.here hx rfl (hb hby at_156) rfl zk) ?_
      refine own_st (fun zw zk => XS.iconst X114.here hx rfl (hb hby at_159) zk) ?_
      refine own_st (fun zw zk => XS.goto X114.here hx rfl (pc0 := 160) (pc' := 164) rfl (hb hby at_160) (by decide) (by decide) zk) ?_
      show own_Go p e below G (T114.setTop (mkF m 164 #[.val (.int p0), .val (.int p1), .val (.int p2), .val (.int p3), .val (.int (1 : Int32)), .val (.int (1 : Int32)), .val (.ref b100), .val (.ref b101), .val (.ref b103), .val (.ref b106), .val (.ref b101), .val .null, .val (.ref b110), .val .null, .val .null] [(.int (1 : Int32))]))
      subst hG
      obtain ⟨fs, hr, hrun, hended, hRW⟩ := Jvm.Stand.leaveW (s := s) X114 hS (by rw [e114]; exact Zk112) (v := some (.int (1 : Int32))) (fun h => by rw [Bd.returns] at h; cases h)
      refine ⟨_, retN X114 hx (t := .boolean) Bd.returns (by simp) (hb hby at_164) hr, _, hrun, hended, _, _, rfl, ?_, hRW.1, hRW.2.1, hRW.2.2.1, hRW.2.2.2.mono (by decide) (by decide)⟩
      show Q0 Z p0 p1 p2 p3 h0 n0 _ T114.heap _
      rw [e114]
      exact ⟨rfl, N114⟩
  · refine own_st (fun zw zk => XS.iloadN X0.here hx rfl (hb hby at_5) rfl zk) ?_
    refine own_st (fun zw zk => XS.iconst X0.here hx rfl (hb hby at_6) zk) ?_
    refine own_st (fun zw zk => XS.iand X0.here hx rfl (hb hby at_7) rfl zk) ?_
    by_cases hc8 : (p3 &&& (4 : Int32)) = (0 : Int32)
    · refine own_st (fun zw zk => XS.ifYes X0.here hx rfl (pc0 := 8) (pc' := 15) rfl (hb hby at_8) rfl ((if0 _ _).trans (teq hc8).1) (by decide) (by decide) zk) ?_
      refine own_st (fun zw zk => XS.iconst X0.here hx rfl (hb hby at_15) zk) ?_
      refine own_st (fun zw zk => XS.istore X0.here hx rfl (hb hby at_16) rfl rfl zk) ?_
      show own_Go p e below G (s₁.setTop (mkF m 18 #[.val (.int p0), .val (.int p1), .val (.int p2), .val (.int p3), .val (.int (2 : Int32)), .val (.int (0 : Int32)), .unset, .unset, .unset, .unset, .unset, .unset, .unset, .unset, .unset] []))
      refine own_st (fun zw zk => XS.iconst X0.here hx rfl (hb hby at_18) zk) ?_
      obtain ⟨T115, h115, k115, X115, e115, E115, A115, B115, st115⟩ := newPE X0 hx hZ (hw _ (List.mem_of_getElem? (i := 0) rfl)) e0 (g := (mkF m 19 #[.val (.int p0), .val (.int p1), .val (.int p2), .val (.int p3), .val (.int (2 : Int32)), .val (.int (0 : Int32)), .unset, .unset, .unset, .unset, .unset, .unset, .unset, .unset, .unset] [(.int (0 : Int32))])) rfl (hb hby at_19) rfl (by decide) (cap := 0) (by decide) (by decide) (by decide) (by decide) (ad := "[B") (by decide)
      obtain ⟨b115, g115⟩ : ∃ z, z = h0.size := ⟨_, rfl⟩
      rw [← g115] at A115 B115 st115
      have G115 : n0 ≤ b115 := Nat.le_trans Z0 (Nat.le_of_eq g115.symm)
      have Z115 : n0 ≤ h115.size := Nat.le_trans Z0 E115.1
      have V115 : own_L Z h115 b115 .byte ([]) := own_L.new A115
      refine own_st (fun zw zk => st115 zw zk) ?_
      refine own_st (fun zw zk => XS.astore X115.here hx rfl (hb hby at_21) rfl rfl rfl zk) ?_
      show own_Go p e below G (T115.setTop (mkF m 23 #[.val (.int p0), .val (.int p1), .val (.int p2), .val (.int p3), .val (.int (2 : Int32)), .val (.int (0 : Int32)), .val (.ref b115), .unset, .unset, .unset, .unset, .unset, .unset, .unset, .unset] []))
      refine own_st (fun zw zk => XS.iconst X115.here hx rfl (hb hby at_23) zk) ?_
      obtain ⟨T116, h116, k116, X116, e116, E116, A116, B116, st116⟩ := newPE X115 hx hZ (hw _ (List.mem_of_getElem? (i := 0) rfl)) e115 (g := (mkF m 24 #[.val (.int p0), .val (.int p1), .val (.int p2), .val (.int p3), .val (.int (2 : Int32)), .val (.int (0 : Int32)), .val (.ref b115), .unset, .unset, .unset, .unset, .unset, .unset, .unset, .unset] [(.int (1 : Int32))])) rfl (hb hby at_24) rfl (by decide) (cap := 1) (by decide) (by decide) (by decide) (by decide) (ad := "[B") (by decide)
      obtain ⟨b116, g116⟩ : ∃ z, z = h115.size := ⟨_, rfl⟩
      rw [← g116] at A116 B116 st116
      have G116 : n0 ≤ b116 := Nat.le_trans Z115 (Nat.le_of_eq g116.symm)
      have ne_b115_b116 : b115 ≠ b116 := Nat.ne_of_lt (Nat.lt_of_lt_of_le V115.lt (Nat.le_of_eq g116.symm))
      have Vb115_116 := V115.ext E116
      have Bb115_116 := B115.ext E116
      have Z116 : n0 ≤ h116.size := Nat.le_trans Z115 E116.1
      have V116 : own_L Z h116 b116 .byte ([(.int (0 : Int32))]) := own_L.new A116
      refine own_st (fun zw zk => st116 zw zk) ?_
      refine own_st (fun zw zk => XS.dup X116.here hx rfl (hb hby at_26) rfl rfl zk) ?_
      refine own_st (fun zw zk => XS.iconst X116.here hx rfl (hb hby at_27) zk) ?_
      refine own_st (fun zw zk => XS.iloadN X116.here hx rfl (hb hby at_28) rfl zk) ?_
      refine own_st (fun zw zk => XS.i2b X116.here hx rfl (hb hby at_29) rfl zk) ?_
      obtain ⟨T117, h117, X117, e117, W117, V117, st117⟩ := own_bst X116 hx hZ e116 V116 (j := (0 : Int32)) (0) (by decide) (by decide) (Nat.le_of_ble_eq_true rfl) (g := (mkF m 30 #[.val (.int p0), .val (.int p1), .val (.int p2), .val (.int p3), .val (.int (2 : Int32)), .val (.int (0 : Int32)), .val (.ref b115), .unset, .unset, .unset, .unset, .unset, .unset, .unset, .unset] [(.int (p0.toInt8.toInt32)), (.int (0 : Int32)), (.ref b116), (.ref b116)])) rfl rfl (hb hby at_30)
      have Vb116_117 : own_L Z h117 b116 .byte ([(.int ((p0.toInt8.toInt32).toInt8.toInt32))]) := V117
      have N117 := Fr.snoc X117 N0 G116
      refine own_st (fun zw zk => st117 zw zk) ?_
      have Vb115_117 := Vb115_116.other W117 ne_b115_b116
      have Bb115_117 := Bb115_116.wr W117
      have Bb116_117 := B116.wr W117
      have Z117 : n0 ≤ h117.size := Nat.le_trans Z116 (Keep.of_wr W117).1
      refine own_st (fun zw zk => XS.astore X117.here hx rfl (hb hby at_31) rfl rfl rfl zk) ?_
      show own_Go p e below G (T117.setTop (mkF m 33 #[.val (.int p0), .val (.int p1), .val (.int p2), .val (.int p3), .val (.int (2 : Int32)), .val (.int (0 : Int32)), .val (.ref b115), .val (.ref b116), .unset, .unset, .unset, .unset, .unset, .unset, .unset] []))
      refine own_st (fun zw zk => XS.iconst X117.here hx rfl (hb hby at_33) zk) ?_
      obtain ⟨T118, h118, k118, X118, e118, E118, A118, B118, st118⟩ := newPE X117 hx hZ (hw _ (List.mem_of_getElem? (i := 0) rfl)) e117 (g := (mkF m 34 #[.val (.int p0), .val (.int p1), .val (.int p2), .val (.int p3), .val (.int (2 : Int32)), .val (.int (0 : Int32)), .val (.ref b115), .val (.ref b116), .unset, .unset, .unset, .unset, .unset, .unset, .unset] [(.int (2 : Int32))])) rfl (hb hby at_34) rfl (by decide) (cap := 2) (by decide) (by decide) (by decide) (by decide) (ad := "[B") (by decide)
      obtain ⟨b118, g118⟩ : ∃ z, z = h117.size := ⟨_, rfl⟩
      rw [← g118] at A118 B118 st118
      have G118 : n0 ≤ b118 := Nat.le_trans Z117 (Nat.le_of_eq g118.symm)
      have ne_b115_b118 : b115 ≠ b118 := Nat.ne_of_lt (Nat.lt_of_lt_of_le Vb115_117.lt (Nat.le_of_eq g118.symm))
      have ne_b116_b118 : b116 ≠ b118 := Nat.ne_of_lt (Nat.lt_of_lt_of_le Bb116_117.lt (Nat.le_of_eq g118.symm))
      have Vb115_118 := Vb115_117.ext E118
      have Bb115_118 := Bb115_117.ext E118
      have Bb116_118 := Bb116_117.ext E118
      have Vb116_118 := Vb116_117.ext E118
      have Z118 : n0 ≤ h118.size := Nat.le_trans Z117 E118.1
      have V118 : own_L Z h118 b118 .byte ([(.int (0 : Int32)), (.int (0 : Int32))]) := own_L.new A118
      refine own_st (fun zw zk => st118 zw zk) ?_
      refine own_st (fun zw zk => XS.dup X118.here hx rfl (hb hby at_36) rfl rfl zk) ?_
      refine own_st (fun zw zk => XS.iconst X118.here hx rfl (hb hby at_37) zk) ?_
      refine own_st (fun zw zk => XS.iloadN X118.here hx rfl (hb hby at_38) rfl zk) ?_
      refine own_st (fun zw zk => XS.i2b X118.here hx rfl (hb hby at_39) rfl zk) ?_
      obtain ⟨T119, h119, X119, e119, W119, V119, st119⟩ := own_bst X118 hx hZ e118 V118 (j := (0 : Int32)) (0) (by decide) (by decide) (Nat.le_of_ble_eq_true rfl) (g := (mkF m 40 #[.val (.int p0), .val (.int p1), .val (.int p2), .val (.int p3), .val (.int (2 : Int32)), .val (.int (0 : Int32)), .val (.ref b115), .val (.ref b116), .unset, .unset, .unset, .unset, .unset, .unset, .unset] [(.int (p0.toInt8.toInt32)), (.int (0 : Int32)), (.ref b118), (.ref b118)])) rfl rfl (hb hby at_40)
      have Vb118_119 : own_L Z h119 b118 .byte ([(.int ((p0.toInt8.toInt32).toInt8.toInt32)), (.int (0 : Int32))]) := V119
      have N119 := Fr.snoc X119 N117 G118
      refine own_st (fun zw zk => st119 zw zk) ?_
      have Vb115_119 := Vb115_118.other W119 ne_b115_b118
      have Bb115_119 := Bb115_118.wr W119
      have Bb116_119 := Bb116_118.wr W119
      have Vb116_119 := Vb116_118.other W119 ne_b116_b118
      have Bb118_119 := B118.wr W119
      have Z119 : n0 ≤ h119.size := Nat.le_trans Z118 (Keep.of_wr W119).1
      refine own_st (fun zw zk => XS.dup X119.here hx rfl (hb hby at_41) rfl rfl zk) ?_
      show own_Go p e below G (T119.setTop (mkF m 42 #[.val (.int p0), .val (.int p1), .val (.int p2), .val (.int p3), .val (.int (2 : Int32)), .val (.int (0 : Int32)), .val (.ref b115), .val (.ref b116), .unset, .unset, .unset, .unset, .unset, .unset, .unset] [(.ref b118), (.ref b118)]))
      refine own_st (fun zw zk => XS.iconst X119.here hx rfl (hb hby at_42) zk) ?_
      refine own_st (fun zw zk => XS.iloadN X119.here hx rfl (hb hby at_43) rfl zk) ?_
      refine own_st (fun zw zk => XS.i2b X119.here hx rfl (hb hby at_44) rfl zk) ?_
      obtain ⟨T120, h120, X120, e120, W120, V120, st120⟩ := own_bst X119 hx hZ e119 Vb118_119 (j := (1 : Int32)) (1) (by decide) (by decide) (Nat.le_of_ble_eq_true rfl) (g := (mkF m 45 #[.val (.int p0), .val (.int p1), .val (.int p2), .val (.int p3), .val (.int (2 : Int32)), .val (.int (0 : Int32)), .val (.ref b115), .val (.ref b116), .unset, .unset, .unset, .unset, .unset, .unset, .unset] [(.int (p1.toInt8.toInt32)), (.int (1 : Int32)), (.ref b118), (.ref b118)])) rfl rfl (hb hby at_45)
      have Vb118_120 : own_L Z h120 b118 .byte ([(.int ((p0.toInt8.toInt32).toInt8.toInt32)), (.int ((p1.toInt8.toInt32).toInt8.toInt32))]) := V120
      have N120 := Fr.snoc X120 N119 G118
      refine own_st (fun zw zk => st120 zw zk) ?_
      have Vb115_120 := Vb115_119.other W120 ne_b115_b118
      have Bb115_120 := Bb115_119.wr W120
      have Bb116_120 := Bb116_119.wr W120
      have Vb116_120 := Vb116_119.other W120 ne_b116_b118
      have Bb118_120 := Bb118_119.wr W120
      have Z120 : n0 ≤ h120.size := Nat.le_trans Z119 (Keep.of_wr W120).1
      refine own_st (fun zw zk => XS.astore X120.here hx rfl (hb hby at_46) rfl rfl rfl zk) ?_
      show own_Go p e below G (T120.setTop (mkF m 48 #[.val (.int p0), .val (.int p1), .val (.int p2), .val (.int p3), .val (.int (2 : Int32)), .val (.int (0 : Int32)), .val (.ref b115), .val (.ref b116), .val (.ref b118), .unset, .unset, .unset, .unset, .unset, .unset] []))
      refine own_st (fun zw zk => XS.iconst X120.here hx rfl (hb hby at_48) zk) ?_
      obtain ⟨T121, h121, k121, X121, e121, E121, A121, B121, st121⟩ := newPE X120 hx hZ (hw _ (List.mem_of_getElem? (i := 0) rfl)) e120 (g := (mkF m 49 #[.val (.int p0), .val (.int p1), .val (.int p2), .val (.int p3), .val (.int (2 : Int32)), .val (.int (0 : Int32)), .val (.ref b115), .val (.ref b116), .val (.ref b118), .unset, .unset, .unset, .unset, .unset, .unset] [(.int (3 : Int32))])) rfl (hb hby at_49) rfl (by decide) (cap := 3) (by decide) (by decide) (by decide) (by decide) (ad := "[B") (by decide)
      obtain ⟨b121, g121⟩ : ∃ z, z = h120.size := ⟨_, rfl⟩
      rw [← g121] at A121 B121 st121
      have G121 : n0 ≤ b121 := Nat.le_trans Z120 (Nat.le_of_eq g121.symm)
      have ne_b115_b121 : b115 ≠ b121 := Nat.ne_of_lt (Nat.lt_of_lt_of_le Vb115_120.lt (Nat.le_of_eq g121.symm))
      have ne_b116_b121 : b116 ≠ b121 := Nat.ne_of_lt (Nat.lt_of_lt_of_le Bb116_120.lt (Nat.le_of_eq g121.symm))
      have ne_b118_b121 : b118 ≠ b121 := Nat.ne_of_lt (Nat.lt_of_lt_of_le Bb118_120.lt (Nat.le_of_eq g121.symm))
      have Vb115_121 := Vb115_120.ext E121
      have Bb115_121 := Bb115_120.ext E121
      have Bb116_121 := Bb116_120.ext E121
      have Vb116_121 := Vb116_120.ext E121
      have Bb118_121 := Bb118_120.ext E121
      have Vb118_121 := Vb118_120.ext E121
      have Z121 : n0 ≤ h121.size := Nat.le_trans Z120 E121.1
      have V121 : own_L Z h121 b121 .byte ([(.int (0 : Int32)), (.int (0 : Int32)), (.int (0 : Int32))]) := own_L.new A121
      refine own_st (fun zw zk => st121 zw zk) ?_
      refine own_st (fun zw zk => XS.dup X121.here hx rfl (hb hby at_51) rfl rfl zk) ?_
      refine own_st (fun zw zk => XS.iconst X121.here hx rfl (hb hby at_52) zk) ?_
      refine own_st (fun zw zk => XS.iloadN X121.here hx rfl (hb hby at_53) rfl zk) ?_
      refine own_st (fun zw zk => XS.i2b X121.here hx rfl (hb hby at_54) rfl zk) ?_
      obtain ⟨T122, h122, X122, e122, W122, V122, st122⟩ := own_bst X121 hx hZ e121 V121 (j := (0 : Int32)) (0) (by decide) (by decide) (Nat.le_of_ble_eq_true rfl) (g := (mkF m 55 #[.val (.int p0), .val (.int p1), .val (.int p2), .val (.int p3), .val (.int (2 : Int32)), .val (.int (0 : Int32)), .val (.ref b115), .val (.ref b116), .val (.ref b118), .unset, .unset, .unset, .unset, .unset, .unset] [(.int (p0.toInt8.toInt32)), (.int (0 : Int32)), (.ref b121), (.ref b121)])) rfl rfl (hb hby at_55)
      have Vb121_122 : own_L Z h122 b121 .byte ([(.int ((p0.toInt8.toInt32).toInt8.toInt32)), (.int (0 : Int32)), (.int (0 : Int32))]) := V122
      have N122 := Fr.snoc X122 N120 G121
      refine own_st (fun zw zk => st122 zw zk) ?_
      have Vb115_122 := Vb115_121.other W122 ne_b115_b121
      have Bb115_122 := Bb115_121.wr W122
      have Bb116_122 := Bb116_121.wr W122
      have Vb116_122 := Vb116_121.other W122 ne_b116_b121
      have Bb118_122 := Bb118_121.wr W122
      have Vb118_122 := Vb118_121.other W122 ne_b118_b121
      have Bb121_122 := B121.wr W122
      have Z122 : n0 ≤ h122.size := Nat.le_trans Z121 (Keep.of_wr W122).1
      refine own_st (fun zw zk => XS.dup X122.here hx rfl (hb hby at_56) rfl rfl zk) ?_
      show own_Go p e below G (T122.setTop (mkF m 57 #[.val (.int p0), .val (.int p1), .val (.int p2), .val (.int p3), .val (.int (2 : Int32)), .val (.int (0 : Int32)), .val (.ref b115), .val (.ref b116), .val (.ref b118), .unset, .unset, .unset, .unset, .unset, .unset] [(.ref b121), (.ref b121)]))
      refine own_st (fun zw zk => XS.iconst X122.here hx rfl (hb hby at_57) zk) ?_
      refine own_st (fun zw zk => XS.iloadN X122.here hx rfl (hb hby at_58) rfl zk) ?_
      refine own_st (fun zw zk => XS.i2b X122.here hx rfl (hb hby at_59) rfl zk) ?_
      obtain ⟨T123, h123, X123, e123, W123, V123, st123⟩ := own_bst X122 hx hZ e122 Vb121_122 (j := (1 : Int32)) (1) (by decide) (by decide) (Nat.le_of_ble_eq_true rfl) (g := (mkF m 60 #[.val (.int p0), .val (.int p1), .val (.int p2), .val (.int p3), .val (.int (2 : Int32)), .val (.int (0 : Int32)), .val (.ref b115), .val (.ref b116), .val (.ref b118), .unset, .unset, .unset, .unset, .unset, .unset] [(.int (p1.toInt8.toInt32)), (.int (1 : Int32)), (.ref b121), (.ref b121)])) rfl rfl (hb hby at_60)
      have Vb121_123 : own_L Z h123 b121 .byte ([(.int ((p0.toInt8.toInt32).toInt8.toInt32)), (.int ((p1.toInt8.toInt32).toInt8.toInt32)), (.int (0 : Int32))]) := V123
      have N123 := Fr.snoc X123 N122 G121
      refine own_st (fun zw zk => st123 zw zk) ?_
      have Vb115_123 := Vb115_122.other W123 ne_b115_b121
      have Bb115_123 := Bb115_122.wr W123
      have Bb116_123 := Bb116_122.wr W123
      have Vb116_123 := Vb116_122.other W123 ne_b116_b121
      have Bb118_123 := Bb118_122.wr W123
      have Vb118_123 := Vb118_122.other W123 ne_b118_b121
      have Bb121_123 := Bb121_122.wr W123
      have Z123 : n0 ≤ h123.size := Nat.le_trans Z122 (Keep.of_wr W123).1
      refine own_st (fun zw zk => XS.dup X123.here hx rfl (hb hby at_61) rfl rfl zk) ?_
      refine own_st (fun zw zk => XS.iconst X123.here hx rfl (hb hby at_62) zk) ?_
      refine own_st (fun zw zk => XS.iloadN X123.here hx rfl (hb hby at_63) rfl zk) ?_
      refine own_st (fun zw zk => XS.i2b X123.here hx rfl (hb hby at_64) rfl zk) ?_
      show own_Go p e below G (T123.setTop (mkF m 65 #[.val (.int p0), .val (.int p1), .val (.int p2), .val (.int p3), .val (.int (2 : Int32)), .val (.int (0 : Int32)), .val (.ref b115), .val (.ref b116), .val (.ref b118), .unset, .unset, .unset, .unset, .unset, .unset] [(.int (p2.toInt8.toInt32)), (.int (2 : Int32)), (.ref b121), (.ref b121)]))
      obtain ⟨T124, h124, X124, e124, W124, V124, st124⟩ := own_bst X123 hx hZ e123 Vb121_123 (j := (2 : Int32)) (2) (by decide) (by decide) (Nat.le_of_ble_eq_true rfl) (g := (mkF m 65 #[.val (.int p0), .val (.int p1), .val (.int p2), .val (.int p3), .val (.int (2 : Int32)), .val (.int (0 : Int32)), .val (.ref b115), .val (.ref b116), .val (.ref b118), .unset, .unset, .unset, .unset, .unset, .unset] [(.int (p2.toInt8.toInt32)), (.int (2 : Int32)), (.ref b121), (.ref b121)])) rfl rfl (hb hby at_65)
      have Vb121_124 : own_L Z h124 b121 .byte ([(.int ((p0.toInt8.toInt32).toInt8.toInt32)), (.int ((p1.toInt8.toInt32).toInt8.toInt32)), (.int ((p2.toInt8.toInt32).toInt8.toInt32))]) := V124
      have N124 := Fr.snoc X124 N123 G121
      refine own_st (fun zw zk => st124 zw zk) ?_
      have Vb115_124 := Vb115_123.other W124 ne_b115_b121
      have Bb115_124 := Bb115_123.wr W124
      have Bb116_124 := Bb116_123.wr W124
      have Vb116_124 := Vb116_123.other W124 ne_b116_b121
      have Bb118_124 := Bb118_123.wr W124
      have Vb118_124 := Vb118_123.other W124 ne_b118_b121
      have Bb121_124 := Bb121_123.wr W124
      have Z124 : n0 ≤ h124.size := Nat.le_trans Z123 (Keep.of_wr W124).1
      refine own_st (fun zw zk => XS.astore X124.here hx rfl (hb hby at_66) rfl rfl rfl zk) ?_
      show own_Go p e below G (T124.setTop (mkF m 68 #[.val (.int p0), .val (.int p1), .val (.int p2), .val (.int p3), .val (.int (2 : Int32)), .val (.int (0 : Int32)), .val (.ref b115), .val (.ref b116), .val (.ref b118), .val (.ref b121), .unset, .unset, .unset, .unset, .unset] []))
      refine own_st (fun zw zk => XS.iload X124.here hx rfl (hb hby at_68) rfl zk) ?_
      refine own_st (fun zw zk => XS.ifYes X124.here hx rfl (pc0 := 70) (pc' := 78) rfl (hb hby at_70) rfl ((if0 _ _).trans (feq (by decide : ¬ ((2 : Int32) = (0 : Int32)))).2) (by decide) (by decide) zk) ?_
      refine own_st (fun zw zk => XS.iload X124.here hx rfl (hb hby at_78) rfl zk) ?_
      refine own_st (fun zw zk => XS.iconst X124.here hx rfl (hb hby at_80) zk) ?_
      refine own_st (fun zw zk => XS.icmpYes X124.here hx rfl (pc0 := 81) (pc' := 89) rfl (hb hby at_81) rfl (feq (by decide : ¬ ((2 : Int32) = (1 : Int32)))).2 (by decide) (by decide) zk) ?_
      refine own_st (fun zw zk => XS.iload X124.here hx rfl (hb hby at_89) rfl zk) ?_
      refine own_st (fun zw zk => XS.iconst X124.here hx rfl (hb hby at_91) zk) ?_
      refine own_st (fun zw zk => XS.icmpNo X124.here hx rfl (hb hby at_92) rfl (teq (by decide : (2 : Int32) = (2 : Int32))).2 zk) ?_
      show own_Go p e below G (T124.setTop (mkF m 95 #[.val (.int p0), .val (.int p1), .val (.int p2), .val (.int p3), .val (.int (2 : Int32)), .val (.int (0 : Int32)), .val (.ref b115), .val (.ref b116), .val (.ref b118), .val (.ref b121), .unset, .unset, .unset, .unset, .unset] []))
      refine own_st (fun zw zk => XS.aload X124.here hx rfl (hb hby at_95) rfl rfl zk) ?_
      refine own_st (fun zw zk => XS.goto X124.here hx rfl (pc0 := 97) (pc' := 102) rfl (hb hby at_97) (by decide) (by decide) zk) ?_
      show own_Go p e below G (T124.setTop (mkF m 102 #[.val (.int p0), .val (.int p1), .val (.int p2), .val (.int p3), .val (.int (2 : Int32)), .val (.int (0 : Int32)), .val (.ref b115), .val (.ref b116), .val (.ref b118), .val (.ref b121), .unset, .unset, .unset, .unset, .unset] [(.ref b118)]))
      refine own_st (fun zw zk => XS.astore X124.here hx rfl (hb hby at_102) rfl rfl rfl zk) ?_
      show own_Go p e below G (T124.setTop (mkF m 104 #[.val (.int p0), .val (.int p1), .val (.int p2), .val (.int p3), .val (.int (2 : Int32)), .val (.int (0 : Int32)), .val (.ref b115), .val (.ref b116), .val (.ref b118), .val (.ref b121), .val (.ref b118), .unset, .unset, .unset, .unset] []))
      refine own_st (fun zw zk => XS.iload X124.here hx rfl (hb hby at_104) rfl zk) ?_
      refine own_st (fun zw zk => XS.ifYes X124.here hx rfl (pc0 := 106) (pc' := 113) rfl (hb hby at_106) rfl ((if0 _ _).trans (teq (by decide : (0 : Int32) = (0 : Int32))).1) (by decide) (by decide) zk) ?_
      refine own_st (fun zw zk => XS.aload X124.here hx rfl (hb hby at_113) rfl rfl zk) ?_
      refine own_st (fun zw zk => XS.astore X124.here hx rfl (hb hby at_115) rfl rfl rfl zk) ?_
      show own_Go p e below G (T124.setTop (mkF m 117 #[.val (.int p0), .val (.int p1), .val (.int p2), .val (.int p3), .val (.int (2 : Int32)), .val (.int (0 : Int32)), .val (.ref b115), .val (.ref b116), .val (.ref b118), .val (.ref b121), .val (.ref b118), .val (.ref b118), .unset, .unset, .unset] []))
      obtain ⟨T125, h125, X125, e125, E125, A125, D125, -, st125⟩ := newO X124 hx hZ hown (hw _ (List.mem_of_getElem? (i := 1) rfl)) (hw _ (List.mem_of_getElem? (i := 2) rfl)) (hw _ (List.mem_of_getElem? (i := 3) rfl)) e124 (g := (mkF m 117 #[.val (.int p0), .val (.int p1), .val (.int p2), .val (.int p3), .val (.int (2 : Int32)), .val (.int (0 : Int32)), .val (.ref b115), .val (.ref b116), .val (.ref b118), .val (.ref b121), .val (.ref b118), .val (.ref b118), .unset, .unset, .unset] [])) rfl (hb hby at_117) (by decide) (by decide)
      obtain ⟨b125, g125⟩ : ∃ z, z = h124.size := ⟨_, rfl⟩
      rw [← g125] at A125 D125 st125
      have G125 : n0 ≤ b125 := Nat.le_trans Z124 (Nat.le_of_eq g125.symm)
      have ne_b115_b125 : b115 ≠ b125 := Nat.ne_of_lt (Nat.lt_of_lt_of_le Vb115_124.lt (Nat.le_of_eq g125.symm))
      have ne_b116_b125 : b116 ≠ b125 := Nat.ne_of_lt (Nat.lt_of_lt_of_le Bb116_124.lt (Nat.le_of_eq g125.symm))
      have ne_b118_b125 : b118 ≠ b125 := Nat.ne_of_lt (Nat.lt_of_lt_of_le Bb118_124.lt (Nat.le_of_eq g125.symm))
      have ne_b121_b125 : b121 ≠ b125 := Nat.ne_of_lt (Nat.lt_of_lt_of_le Bb121_124.lt (Nat.le_of_eq g125.symm))
      have Vb115_125 := Vb115_124.ext E125
      have Bb115_125 := Bb115_124.ext E125
      have Bb116_125 := Bb116_124.ext E125
      have Vb116_125 := Vb116_124.ext E125
      have Bb118_125 := Bb118_124.ext E125
      have Vb118_125 := Vb118_124.ext E125
      have Bb121_125 := Bb121_124.ext E125
      have Vb121_125 := Vb121_124.ext E125
      have Z125 : n0 ≤ h125.size := Nat.le_trans Z124 E125.1
      have Fb125oid : Fld Z h125 b125 "com/example/attestrum/attestrum/schemes/der/AlgorithmIdentifier" "oid" "Ljava/lang/String;" .null := D125 (Or.inr (hw _ (List.mem_of_getElem? (i := 18) rfl))) (ty := (.object "java/lang/String")) (by decide)
      have Fb125parameters : Fld Z h125 b125 "com/example/attestrum/attestrum/schemes/der/AlgorithmIdentifier" "parameters" "[B" .null := D125 (Or.inr (hw _ (List.mem_of_getElem? (i := 29) rfl))) (ty := (.array .byte)) (by decide)
      refine own_st (fun zw zk => st125 zw zk) ?_
      refine own_st (fun zw zk => XS.dup X125.here hx rfl (hb hby at_120) rfl rfl zk) ?_
      have wS126 : ∀ z ∈ Bundle.stringAtoms, z.before a0 Z = true := by
        intro z hz
        simp only [Bundle.stringAtoms, List.mem_cons, List.not_mem_nil, or_false] at hz
        rcases hz with rfl | rfl | rfl | rfl | rfl | rfl | rfl
        · exact (hw _ (List.mem_of_getElem? (i := 5) rfl))
        · exact (hw _ (List.mem_of_getElem? (i := 6) rfl))
        · exact (hw _ (List.mem_of_getElem? (i := 0) rfl))
        · exact (hw _ (List.mem_of_getElem? (i := 7) rfl))
        · exact (hw _ (List.mem_of_getElem? (i := 8) rfl))
        · exact (hw _ (List.mem_of_getElem? (i := 9) rfl))
        · exact (hw _ (List.mem_of_getElem? (i := 10) rfl))
      obtain ⟨b126, T126, h126, k126, X126, e126, E126, hS, Zk126, hZ', hown', st126⟩ := ldcS (s := s) (vm0 := s.vm) X125 hx hZ hown (hw _ (List.mem_of_getElem? (i := 4) rfl)) wS126 e125 ((State.WarmedH.refl s).since 0) (Nat.zero_le _) (g := (mkF m 121 #[.val (.int p0), .val (.int p1), .val (.int p2), .val (.int p3), .val (.int (2 : Int32)), .val (.int (0 : Int32)), .val (.ref b115), .val (.ref b116), .val (.ref b118), .val (.ref b121), .val (.ref b118), .val (.ref b118), .unset, .unset, .unset] [(.ref b125), (.ref b125)])) rfl (hb hby at_121) (n := 12) (by decide) (by decide) (by decide) (by decide)
      refine own_st (fun zw zk => st126 zw zk) ?_
      have Vb115_126 := Vb115_125.ext E126
      have Bb115_126 := Bb115_125.ext E126
      have Bb116_126 := Bb116_125.ext E126
      have Vb116_126 := Vb116_125.ext E126
      have Bb118_126 := Bb118_125.ext E126
      have Vb118_126 := Vb118_125.ext E126
      have Bb121_126 := Bb121_125.ext E126
      have Vb121_126 := Vb121_125.ext E126
      have Fb125oid_126 := Fb125oid.ext E126
      have Fb125parameters_126 := Fb125parameters.ext E126
      have Ab125_126 := A125.ext E126
      have Z126 : n0 ≤ h126.size := Nat.le_trans Z125 E126.1
      refine own_st (fun zw zk => XS.aload X126.here hx rfl (hb hby at_123) rfl rfl zk) ?_
      obtain ⟨_, _, ⟨T127, L127, k127, n127⟩, -, X127, ⟨Lc127, hQ127, l127, y127, z127⟩, st127⟩ := X126.specialBack hx (y := (⟨"com/example/attestrum/attestrum/schemes/der/AlgorithmIdentifier", "<init>", "(Ljava/lang/String;[B)V"⟩ : MethodName)) rfl hown' (mvT hZ' (hw _ (List.mem_of_getElem? (i := 11) rfl))) (mvT hZ' (hw _ (List.mem_of_getElem? (i := 12) rfl))) (mvT hZ' (hw _ (List.mem_of_getElem? (i := 13) rfl))) (by decide) (backOf (W := 1) (rm_i2 l Z a0 hw [] b125 b126 b118 ((p0.toInt8.toInt32).toInt8.toInt32) ((p1.toInt8.toInt32).toInt8.toInt32) h126 n0 Z126 (Ab125_126) (Fb125oid_126) (Fb125parameters_126) (Vb118_126) (Bb118_126) (G125) ((Ne.symm ne_b118_b125)) ((own_fitc (own_fitc own_fit0)))) hZ' (hw _ (List.mem_of_getElem? (i := 13) rfl)) (hw _ (List.mem_of_getElem? (i := 3) rfl)) (by decide) (by decide)) (g := (mkF m 125 #[.val (.int p0), .val (.int p1), .val (.int p2), .val (.int p3), .val (.int (2 : Int32)), .val (.int (0 : Int32)), .val (.ref b115), .val (.ref b116), .val (.ref b118), .val (.ref b121), .val (.ref b118), .val (.ref b118), .unset, .unset, .unset] [(.ref b118), (.ref b126), (.ref b125), (.ref b125)])) rfl (by rw [hml]; rfl) (Steps.refl _) (a := b125) (argsL := [(.ref b126), (.ref b118)]) (rest := [(.ref b125)]) (lenOf pd_0 rfl) rfl (by show 2 * 0 + _ ≤ _; exact Nat.le_of_eq rfl) (hb hby at_125) (fun _ _ => ⟨rfl, e126, (by decide : 7 + 1 ≤ _), (by decide : 24 + 2 ≤ _)⟩)
      dsimp only [Pt.U, Pt.locs, Pt.cells, Pt.slots] at X127 l127 y127 z127 st127 hQ127
      subst l127 y127 z127
      obtain ⟨rfl, N127q, tt127, sztt127, K127, O127_0, O127_1, O127_2, O127_3⟩ := hQ127
      have ne_b115_tt127 : b115 ≠ tt127 := Nat.ne_of_lt (Nat.lt_of_lt_of_le Vb115_126.lt sztt127)
      have ne_b116_tt127 : b116 ≠ tt127 := Nat.ne_of_lt (Nat.lt_of_lt_of_le Bb116_126.lt sztt127)
      have ne_b118_tt127 : b118 ≠ tt127 := Nat.ne_of_lt (Nat.lt_of_lt_of_le Bb118_126.lt sztt127)
      have ne_b121_tt127 : b121 ≠ tt127 := Nat.ne_of_lt (Nat.lt_of_lt_of_le Bb121_126.lt sztt127)
      have ne_b125_tt127 : b125 ≠ tt127 := Nat.ne_of_lt (Nat.lt_of_lt_of_le Fb125oid_126.lt sztt127)
      have Gtt127 : n0 ≤ tt127 := Nat.le_trans Z126 sztt127
      have Zk127 := Nat.le_trans Zk126 K127.1
      have Vb115_127 := Vb115_126.keep K127 (ninS ne_b115_b125 nin0)
      have Bb115_127 := Bb115_126.keep K127
      have Bb116_127 := Bb116_126.keep K127
      have Vb116_127 := Vb116_126.keep K127 (ninS ne_b116_b125 nin0)
      have Bb118_127 := Bb118_126.keep K127
      have Vb118_127 := Vb118_126.keep K127 (ninS ne_b118_b125 nin0)
      have Bb121_127 := Bb121_126.keep K127
      have Vb121_127 := Vb121_126.keep K127 (ninS ne_b121_b125 nin0)
      have Ab125_127 := Ab125_126.keep K127
      have Z127 : n0 ≤ T127.heap.size := Nat.le_trans Z126 K127.1
      have N127 := Fr.app N124 N127q
      refine own_jp st127 ?_
      refine own_st (fun zw zk => XS.astore X127.here hx rfl (hb hby at_128) rfl rfl rfl zk) ?_
      show own_Go p e below G (T127.setTop (mkF m 130 #[.val (.int p0), .val (.int p1), .val (.int p2), .val (.int p3), .val (.int (2 : Int32)), .val (.int (0 : Int32)), .val (.ref b115), .val (.ref b116), .val (.ref b118), .val (.ref b121), .val (.ref b118), .val (.ref b118), .val (.ref b125), .unset, .unset] []))
      refine own_st (fun zw zk => XS.aload X127.here hx rfl (hb hby at_130) rfl rfl zk) ?_
      refine own_st (fun zw zk => XS.ifnonnullYes X127.here hx rfl (pc0 := 132) (pc' := 165) rfl (hb hby at_132) rfl (by decide) (by decide) zk) ?_
      refine own_st (fun zw zk => XS.aload X127.here hx rfl (hb hby at_165) rfl rfl zk) ?_
      refine own_st (fun zw zk => XS.iload X127.here hx rfl (hb hby at_167) rfl zk) ?_
      refine own_st (fun zw zk => XS.iloadN X127.here hx rfl (hb hby at_169) rfl zk) ?_
      refine own_st (fun zw zk => XS.iloadN X127.here hx rfl (hb hby at_170) rfl zk) ?_
      refine own_st (fun zw zk => XS.iloadN X127.here hx rfl (hb hby at_171) rfl zk) ?_
      obtain ⟨_, _, ⟨T128, L128, k128, n128⟩, -, X128, ⟨Lc128, hQ128, l128, y128, z128⟩, st128⟩ := Jvm.LawKit.callS X127 hx (y := (⟨"com/example/attestrum/attestrum/schemes/der/AlgorithmIdentifierParametersPinLaw", "spoil", "([BIIII)V"⟩ : MethodName)) hown' (mvT hZ' (hw _ (List.mem_of_getElem? (i := 30) rfl))) (mvT hZ' (hw _ (List.mem_of_getElem? (i := 31) rfl))) (mvT hZ' (hw _ (List.mem_of_getElem? (i := 32) rfl))) (mvT hZ' (hw _ (List.mem_of_getElem? (i := 33) rfl))) (by decide) (backOf (W := 0) (rm_s2 l Z a0 hw [] b118 (2 : Int32) p0 p1 p2 ((p0.toInt8.toInt32).toInt8.toInt32) ((p1.toInt8.toInt32).toInt8.toInt32) T127.heap n0 Z127 (Vb118_127) (G118) (rfl)) hZ' (hw _ (List.mem_of_getElem? (i := 33) rfl)) (hw _ (List.mem_of_getElem? (i := 32) rfl)) (by decide) (by decide)) (g := (mkF m 172 #[.val (.int p0), .val (.int p1), .val (.int p2), .val (.int p3), .val (.int (2 : Int32)), .val (.int (0 : Int32)), .val (.ref b115), .val (.ref b116), .val (.ref b118), .val (.ref b121), .val (.ref b118), .val (.ref b118), .val (.ref b125), .unset, .unset] [(.int p2), (.int p1), (.int p0), (.int (2 : Int32)), (.ref b118)])) rfl (by rw [hml]; rfl) (argsL := [(.ref b118), (.int (2 : Int32)), (.int p0), (.int p1), (.int p2)]) (rest := []) (lenOf pd_1 rfl) rfl (by show 2 * 0 + _ ≤ _; exact Nat.le_of_eq rfl) (hb hby at_172) (fun _ _ => ⟨rfl, rfl, (by decide : 8 + 0 ≤ _), (by decide : 26 + 0 ≤ _)⟩)
      dsimp only [Pt.U, Pt.locs, Pt.cells, Pt.slots] at X128 l128 y128 z128 st128 hQ128
      subst l128 y128 z128
      obtain ⟨rfl, N128q, K128, O128_0⟩ := hQ128
      have Zk128 := Nat.le_trans Zk127 K128.1
      have Vb115_128 := Vb115_127.keep K128 (ninS ne_b115_b118 nin0)
      have Bb115_128 := Bb115_127.keep K128
      have Bb116_128 := Bb116_127.keep K128
      have Vb116_128 := Vb116_127.keep K128 (ninS ne_b116_b118 nin0)
      have Bb118_128 := Bb118_127.keep K128
      have Bb121_128 := Bb121_127.keep K128
      have Vb121_128 := Vb121_127.keep K128 (ninS (Ne.symm ne_b118_b121) nin0)
      have Ob125E_128 := O127_0.keep K128
      have Ob125parameters_128 := O127_1.keep K128 (ninS (Ne.symm ne_b118_b125) nin0)
      have Ott127L_128 := O127_2.keep K128 (ninS (Ne.symm ne_b118_tt127) nin0)
      have Ott127E_128 := O127_3.keep K128
      have Z128 : n0 ≤ T128.heap.size := Nat.le_trans Z127 K128.1
      have N128 := Fr.app N127 N128q
      refine own_st (fun zw zk => st128 zw zk) ?_
      show own_Go p e below G (T128.setTop (mkF m 175 #[.val (.int p0), .val (.int p1), .val (.int p2), .val (.int p3), .val (.int (2 : Int32)), .val (.int (0 : Int32)), .val (.ref b115), .val (.ref b116), .val (.ref b118), .val (.ref b121), .val (.ref b118), .val (.ref b118), .val (.ref b125), .unset, .unset] []))
      refine own_st (fun zw zk => XS.aload X128.here hx rfl (hb hby at_175) rfl rfl zk) ?_
      obtain ⟨cq129, kq129, q129a, q129b, q129c⟩ := isOf hZ' rfl Ob125E_128
      obtain ⟨_, _, ⟨T129, L129, k129, n129⟩, -, X129, ⟨Lc129, hQ129, l129, y129, z129⟩, st129⟩ := X128.virtualBack hx (y := (⟨"com/example/attestrum/attestrum/schemes/der/AlgorithmIdentifier", "parameters", "()[B"⟩ : MethodName)) (z := (⟨"com/example/attestrum/attestrum/schemes/der/AlgorithmIdentifier", "parameters", "()[B"⟩ : MethodName)) hown' (mvT hZ' (hw _ (List.mem_of_getElem? (i := 34) rfl))) (mvT hZ' (hw _ (List.mem_of_getElem? (i := 35) rfl))) (notFace_of_selects (args := #[]) (mvT hZ' (hw _ (List.mem_of_getElem? (i := 37) rfl)))) (mvT hZ' (hw _ (List.mem_of_getElem? (i := 37) rfl))) (mvT hZ' (hw _ (List.mem_of_getElem? (i := 36) rfl))) (by decide) (backOf (W := 0) (rm_p2 l Z a0 hw [] b125 tt127 ((p0.toInt8.toInt32).toInt8.toInt32) ((p1.toInt8.toInt32).toInt8.toInt32) T128.heap n0 Z128 (Ob125parameters_128) (Ott127L_128) (Ott127E_128) ((own_fitc (own_fitc own_fit0)))) hZ' (hw _ (List.mem_of_getElem? (i := 38) rfl)) (hw _ (List.mem_of_getElem? (i := 3) rfl)) (by decide) (by decide)) q129a q129c (g := (mkF m 177 #[.val (.int p0), .val (.int p1), .val (.int p2), .val (.int p3), .val (.int (2 : Int32)), .val (.int (0 : Int32)), .val (.ref b115), .val (.ref b116), .val (.ref b118), .val (.ref b121), .val (.ref b118), .val (.ref b118), .val (.ref b125), .unset, .unset] [(.ref b125)])) rfl (by rw [hml]; rfl) (Steps.refl _) (argsL := []) (rest := []) (lenOf pd_2 rfl) rfl (by show 2 * 0 + _ ≤ _; exact Nat.le_of_eq rfl) (hb hby at_177) (fun _ _ => ⟨rfl, rfl, (by decide : 8 + 1 ≤ _), (by decide : 26 + 2 ≤ _)⟩)
      dsimp only [Pt.U, Pt.locs, Pt.cells, Pt.slots] at X129 l129 y129 z129 st129 hQ129
      subst l129 y129 z129
      obtain ⟨b129, rfl, N129q, sz129, K129, R129_0, R129_1⟩ := hQ129
      have ne_b115_b129 : b115 ≠ b129 := Nat.ne_of_lt (Nat.lt_of_lt_of_le Vb115_128.lt sz129)
      have ne_b116_b129 : b116 ≠ b129 := Nat.ne_of_lt (Nat.lt_of_lt_of_le Bb116_128.lt sz129)
      have ne_b118_b129 : b118 ≠ b129 := Nat.ne_of_lt (Nat.lt_of_lt_of_le Bb118_128.lt sz129)
      have ne_b121_b129 : b121 ≠ b129 := Nat.ne_of_lt (Nat.lt_of_lt_of_le Bb121_128.lt sz129)
      have ne_b125_b129 : b125 ≠ b129 := Nat.ne_of_lt (Nat.lt_of_lt_of_le Ob125E_128.lt sz129)
      have ne_tt127_b129 : tt127 ≠ b129 := Nat.ne_of_lt (Nat.lt_of_lt_of_le Ott127L_128.lt sz129)
      have G129 : n0 ≤ b129 := Nat.le_trans Z128 sz129
      have Zk129 := Nat.le_trans Zk128 K129.1
      have Vb115_129 := Vb115_128.keep K129 nin0
      have Bb115_129 := Bb115_128.keep K129
      have Bb116_129 := Bb116_128.keep K129
      have Vb116_129 := Vb116_128.keep K129 nin0
      have Bb118_129 := Bb118_128.keep K129
      have Bb121_129 := Bb121_128.keep K129
      have Vb121_129 := Vb121_128.keep K129 nin0
      have Ob125E_129 := Ob125E_128.keep K129
      have Ob125parameters_129 := Ob125parameters_128.keep K129 nin0
      have Ott127L_129 := Ott127L_128.keep K129 nin0
      have Ott127E_129 := Ott127E_128.keep K129
      have Ob118L_129 := O128_0.keep K129 nin0
      have Z129 : n0 ≤ T129.heap.size := Nat.le_trans Z128 K129.1
      have N129 := Fr.app N128 N129q
      refine own_jp st129 ?_
      refine own_st (fun zw zk => XS.astore X129.here hx rfl (hb hby at_180) rfl rfl rfl zk) ?_
      show own_Go p e below G (T129.setTop (mkF m 182 #[.val (.int p0), .val (.int p1), .val (.int p2), .val (.int p3), .val (.int (2 : Int32)), .val (.int (0 : Int32)), .val (.ref b115), .val (.ref b116), .val (.ref b118), .val (.ref b121), .val (.ref b118), .val (.ref b118), .val (.ref b125), .val (.ref b129), .unset] []))
      refine own_st (fun zw zk => XS.aload X129.here hx rfl (hb hby at_182) rfl rfl zk) ?_
      refine own_st (fun zw zk => XS.aload X129.here hx rfl (hb hby at_184) rfl rfl zk) ?_
      refine own_st (fun zw zk => Jvm.RoadKit.acmp (g := (mkF m 186 #[.val (.int p0), .val (.int p1), .val (.int p2), .val (.int p3), .val (.int (2 : Int32)), .val (.int (0 : Int32)), .val (.ref b115), .val (.ref b116), .val (.ref b118), .val (.ref b121), .val (.ref b118), .val (.ref b118), .val (.ref b125), .val (.ref b129), .unset] [(.ref b118), (.ref b129)])) X129 hx rfl rfl rfl (pc0 := 186) (pc' := 191) (same := false) rfl (hb hby at_186) rfl (decide_eq_false fun q => (Ne.symm ne_b118_b129) (Value.ref.inj q)) (by decide) (by decide) zk) ?_
      refine own_st (fun zw zk => XS.aload X129.here hx rfl (hb hby at_191) rfl rfl zk) ?_
      refine own_st (fun zw zk => XS.iload X129.here hx rfl (hb hby at_193) rfl zk) ?_
      refine own_st (fun zw zk => XS.iloadN X129.here hx rfl (hb hby at_195) rfl zk) ?_
      refine own_st (fun zw zk => XS.iloadN X129.here hx rfl (hb hby at_196) rfl zk) ?_
      refine own_st (fun zw zk => XS.iloadN X129.here hx rfl (hb hby at_197) rfl zk) ?_
      show own_Go p e below G (T129.setTop (mkF m 198 #[.val (.int p0), .val (.int p1), .val (.int p2), .val (.int p3), .val (.int (2 : Int32)), .val (.int (0 : Int32)), .val (.ref b115), .val (.ref b116), .val (.ref b118), .val (.ref b121), .val (.ref b118), .val (.ref b118), .val (.ref b125), .val (.ref b129), .unset] [(.int p2), (.int p1), (.int p0), (.int (2 : Int32)), (.ref b129)]))
      obtain ⟨_, _, ⟨T130, L130, k130, n130⟩, -, X130, ⟨Lc130, hQ130, l130, y130, z130⟩, st130⟩ := Jvm.LawKit.callS X129 hx (y := (⟨"com/example/attestrum/attestrum/schemes/der/AlgorithmIdentifierParametersPinLaw", "matches", "([BIIII)Z"⟩ : MethodName)) hown' (mvT hZ' (hw _ (List.mem_of_getElem? (i := 39) rfl))) (mvT hZ' (hw _ (List.mem_of_getElem? (i := 40) rfl))) (mvT hZ' (hw _ (List.mem_of_getElem? (i := 32) rfl))) (mvT hZ' (hw _ (List.mem_of_getElem? (i := 41) rfl))) (by decide) (backOf (W := 0) (rm_m2 l Z a0 hw [] b129 (2 : Int32) p0 p1 p2 ((p0.toInt8.toInt32).toInt8.toInt32) ((p1.toInt8.toInt32).toInt8.toInt32) T129.heap n0 Z129 (R129_0) (rfl) (own_i2b _) (own_i2b _)) hZ' (hw _ (List.mem_of_getElem? (i := 41) rfl)) (hw _ (List.mem_of_getElem? (i := 32) rfl)) (by decide) (by decide)) (g := (mkF m 198 #[.val (.int p0), .val (.int p1), .val (.int p2), .val (.int p3), .val (.int (2 : Int32)), .val (.int (0 : Int32)), .val (.ref b115), .val (.ref b116), .val (.ref b118), .val (.ref b121), .val (.ref b118), .val (.ref b118), .val (.ref b125), .val (.ref b129), .unset] [(.int p2), (.int p1), (.int p0), (.int (2 : Int32)), (.ref b129)])) rfl (by rw [hml]; rfl) (argsL := [(.ref b129), (.int (2 : Int32)), (.int p0), (.int p1), (.int p2)]) (rest := []) (lenOf pd_3 rfl) rfl (by show 2 * 0 + _ ≤ _; exact Nat.le_of_eq rfl) (hb hby at_198) (fun _ _ => ⟨rfl, rfl, (by decide : 9 + 0 ≤ _), (by decide : 28 + 0 ≤ _)⟩)
      dsimp only [Pt.U, Pt.locs, Pt.cells, Pt.slots] at X130 l130 y130 z130 st130 hQ130
      subst l130 y130 z130
      obtain ⟨rfl, N130q, e130⟩ := hQ130
      have N130 := Fr.app N129 N130q
      refine own_st (fun zw zk => st130 zw zk) ?_
      refine own_st (fun zw zk => XS.ifYes X130.here hx rfl (pc0 := 201) (pc' := 206) rfl (hb hby at_201) rfl ((if0 _ _).trans (feq (by decide : ¬ ((1 : Int32) = (0 : Int32)))).2) (by decide) (by decide) zk) ?_
      refine own_st (fun zw zk => XS.aload X130.here hx rfl (hb hby at_206) rfl rfl zk) ?_
      refine own_st (fun zw zk => XS.iload X130.here hx rfl (hb hby at_208) rfl zk) ?_
      refine own_st (fun zw zk => XS.iloadN X130.here hx rfl (hb hby at_210) rfl zk) ?_
      refine own_st (fun zw zk => XS.iloadN X130.here hx rfl (hb hby at_211) rfl zk) ?_
      refine own_st (fun zw zk => XS.iloadN X130.here hx rfl (hb hby at_212) rfl zk) ?_
      obtain ⟨_, _, ⟨T131, L131, k131, n131⟩, -, X131, ⟨Lc131, hQ131, l131, y131, z131⟩, st131⟩ := Jvm.LawKit.callS X130 hx (y := (⟨"com/example/attestrum/attestrum/schemes/der/AlgorithmIdentifierParametersPinLaw", "spoil", "([BIIII)V"⟩ : MethodName)) hown' (mvT hZ' (hw _ (List.mem_of_getElem? (i := 30) rfl))) (mvT hZ' (hw _ (List.mem_of_getElem? (i := 31) rfl))) (mvT hZ' (hw _ (List.mem_of_getElem? (i := 32) rfl))) (mvT hZ' (hw _ (List.mem_of_getElem? (i := 33) rfl))) (by decide) (backOf (W := 0) (rm_s2 l Z a0 hw [] b129 (2 : Int32) p0 p1 p2 ((p0.toInt8.toInt32).toInt8.toInt32) ((p1.toInt8.toInt32).toInt8.toInt32) T129.heap n0 Z129 (R129_0) (G129) (rfl)) hZ' (hw _ (List.mem_of_getElem? (i := 33) rfl)) (hw _ (List.mem_of_getElem? (i := 32) rfl)) (by decide) (by decide)) (g := (mkF m 213 #[.val (.int p0), .val (.int p1), .val (.int p2), .val (.int p3), .val (.int (2 : Int32)), .val (.int (0 : Int32)), .val (.ref b115), .val (.ref b116), .val (.ref b118), .val (.ref b121), .val (.ref b118), .val (.ref b118), .val (.ref b125), .val (.ref b129), .unset] [(.int p2), (.int p1), (.int p0), (.int (2 : Int32)), (.ref b129)])) rfl (by rw [hml]; rfl) (argsL := [(.ref b129), (.int (2 : Int32)), (.int p0), (.int p1), (.int p2)]) (rest := []) (lenOf pd_1 rfl) rfl (by show 2 * 0 + _ ≤ _; exact Nat.le_of_eq rfl) (hb hby at_213) (fun _ _ => ⟨rfl, e130, (by decide : 9 + 0 ≤ _), (by decide : 28 + 0 ≤ _)⟩)
      dsimp only [Pt.U, Pt.locs, Pt.cells, Pt.slots] at X131 l131 y131 z131 st131 hQ131
      subst l131 y131 z131
      obtain ⟨rfl, N131q, K131, O131_0⟩ := hQ131
      have Zk131 := Nat.le_trans Zk129 K131.1
      have Vb115_131 := Vb115_129.keep K131 (ninS ne_b115_b129 nin0)
      have Bb115_131 := Bb115_129.keep K131
      have Bb116_131 := Bb116_129.keep K131
      have Vb116_131 := Vb116_129.keep K131 (ninS ne_b116_b129 nin0)
      have Bb118_131 := Bb118_129.keep K131
      have Bb121_131 := Bb121_129.keep K131
      have Vb121_131 := Vb121_129.keep K131 (ninS ne_b121_b129 nin0)
      have Ob125E_131 := Ob125E_129.keep K131
      have Ob125parameters_131 := Ob125parameters_129.keep K131 (ninS ne_b125_b129 nin0)
      have Ott127L_131 := Ott127L_129.keep K131 (ninS ne_tt127_b129 nin0)
      have Ott127E_131 := Ott127E_129.keep K131
      have Ob118L_131 := Ob118L_129.keep K131 (ninS ne_b118_b129 nin0)
      have Rb129E_131 := R129_1.keep K131
      have Z131 : n0 ≤ T131.heap.size := Nat.le_trans Z129 K131.1
      have N131 := Fr.app N130 N131q
      refine own_st (fun zw zk => st131 zw zk) ?_
      show own_Go p e below G (T131.setTop (mkF m 216 #[.val (.int p0), .val (.int p1), .val (.int p2), .val (.int p3), .val (.int (2 : Int32)), .val (.int (0 : Int32)), .val (.ref b115), .val (.ref b116), .val (.ref b118), .val (.ref b121), .val (.ref b118), .val (.ref b118), .val (.ref b125), .val (.ref b129), .unset] []))
      refine own_st (fun zw zk => XS.aload X131.here hx rfl (hb hby at_216) rfl rfl zk) ?_
      obtain ⟨cq132, kq132, q132a, q132b, q132c⟩ := isOf hZ' rfl Ob125E_131
      obtain ⟨_, _, ⟨T132, L132, k132, n132⟩, -, X132, ⟨Lc132, hQ132, l132, y132, z132⟩, st132⟩ := X131.virtualBack hx (y := (⟨"com/example/attestrum/attestrum/schemes/der/AlgorithmIdentifier", "parameters", "()[B"⟩ : MethodName)) (z := (⟨"com/example/attestrum/attestrum/schemes/der/AlgorithmIdentifier", "parameters", "()[B"⟩ : MethodName)) hown' (mvT hZ' (hw _ (List.mem_of_getElem? (i := 34) rfl))) (mvT hZ' (hw _ (List.mem_of_getElem? (i := 35) rfl))) (notFace_of_selects (args := #[]) (mvT hZ' (hw _ (List.mem_of_getElem? (i := 37) rfl)))) (mvT hZ' (hw _ (List.mem_of_getElem? (i := 37) rfl))) (mvT hZ' (hw _ (List.mem_of_getElem? (i := 36) rfl))) (by decide) (backOf (W := 0) (rm_p2 l Z a0 hw [] b125 tt127 ((p0.toInt8.toInt32).toInt8.toInt32) ((p1.toInt8.toInt32).toInt8.toInt32) T131.heap n0 Z131 (Ob125parameters_131) (Ott127L_131) (Ott127E_131) ((own_fitc (own_fitc own_fit0)))) hZ' (hw _ (List.mem_of_getElem? (i := 38) rfl)) (hw _ (List.mem_of_getElem? (i := 3) rfl)) (by decide) (by decide)) q132a q132c (g := (mkF m 218 #[.val (.int p0), .val (.int p1), .val (.int p2), .val (.int p3), .val (.int (2 : Int32)), .val (.int (0 : Int32)), .val (.ref b115), .val (.ref b116), .val (.ref b118), .val (.ref b121), .val (.ref b118), .val (.ref b118), .val (.ref b125), .val (.ref b129), .unset] [(.ref b125)])) rfl (by rw [hml]; rfl) (Steps.refl _) (argsL := []) (rest := []) (lenOf pd_2 rfl) rfl (by show 2 * 0 + _ ≤ _; exact Nat.le_of_eq rfl) (hb hby at_218) (fun _ _ => ⟨rfl, rfl, (by decide : 9 + 1 ≤ _), (by decide : 28 + 2 ≤ _)⟩)
      dsimp only [Pt.U, Pt.locs, Pt.cells, Pt.slots] at X132 l132 y132 z132 st132 hQ132
      subst l132 y132 z132
      obtain ⟨b132, rfl, N132q, sz132, K132, R132_0, R132_1⟩ := hQ132
      have ne_b115_b132 : b115 ≠ b132 := Nat.ne_of_lt (Nat.lt_of_lt_of_le Vb115_131.lt sz132)
      have ne_b116_b132 : b116 ≠ b132 := Nat.ne_of_lt (Nat.lt_of_lt_of_le Bb116_131.lt sz132)
      have ne_b118_b132 : b118 ≠ b132 := Nat.ne_of_lt (Nat.lt_of_lt_of_le Bb118_131.lt sz132)
      have ne_b121_b132 : b121 ≠ b132 := Nat.ne_of_lt (Nat.lt_of_lt_of_le Bb121_131.lt sz132)
      have ne_b125_b132 : b125 ≠ b132 := Nat.ne_of_lt (Nat.lt_of_lt_of_le Ob125E_131.lt sz132)
      have ne_tt127_b132 : tt127 ≠ b132 := Nat.ne_of_lt (Nat.lt_of_lt_of_le Ott127L_131.lt sz132)
      have ne_b129_b132 : b129 ≠ b132 := Nat.ne_of_lt (Nat.lt_of_lt_of_le Rb129E_131.lt sz132)
      have G132 : n0 ≤ b132 := Nat.le_trans Z131 sz132
      have Zk132 := Nat.le_trans Zk131 K132.1
      have Vb115_132 := Vb115_131.keep K132 nin0
      have Bb115_132 := Bb115_131.keep K132
      have Bb116_132 := Bb116_131.keep K132
      have Vb116_132 := Vb116_131.keep K132 nin0
      have Bb118_132 := Bb118_131.keep K132
      have Bb121_132 := Bb121_131.keep K132
      have Vb121_132 := Vb121_131.keep K132 nin0
      have Ob125E_132 := Ob125E_131.keep K132
      have Ob125parameters_132 := Ob125parameters_131.keep K132 nin0
      have Ott127L_132 := Ott127L_131.keep K132 nin0
      have Ott127E_132 := Ott127E_131.keep K132
      have Ob118L_132 := Ob118L_131.keep K132 nin0
      have Rb129E_132 := Rb129E_131.keep K132
      have Ob129L_132 := O131_0.keep K132 nin0
      have Z132 : n0 ≤ T132.heap.size := Nat.le_trans Z131 K132.1
      have N132 := Fr.app N131 N132q
      refine own_jp st132 ?_
      refine own_st (fun zw zk => XS.astore X132.here hx rfl (hb hby at_221) rfl rfl rfl zk) ?_
      show own_Go p e below G (T132.setTop (mkF m 223 #[.val (.int p0), .val (.int p1), .val (.int p2), .val (.int p3), .val (.int (2 : Int32)), .val (.int (0 : Int32)), .val (.ref b115), .val (.ref b116), .val (.ref b118), .val (.ref b121), .val (.ref b118), .val (.ref b118), .val (.ref b125), .val (.ref b129), .val (.ref b132)] []))
      refine own_st (fun zw zk => XS.aload X132.here hx rfl (hb hby at_223) rfl rfl zk) ?_
      refine own_st (fun zw zk => XS.aload X132.here hx rfl (hb hby at_225) rfl rfl zk) ?_
      refine own_st (fun zw zk => Jvm.RoadKit.acmp (g := (mkF m 227 #[.val (.int p0), .val (.int p1), .val (.int p2), .val (.int p3), .val (.int (2 : Int32)), .val (.int (0 : Int32)), .val (.ref b115), .val (.ref b116), .val (.ref b118), .val (.ref b121), .val (.ref b118), .val (.ref b118), .val (.ref b125), .val (.ref b129), .val (.ref b132)] [(.ref b129), (.ref b132)])) X132 hx rfl rfl rfl (pc0 := 227) (pc' := 230) (same := false) rfl (hb hby at_227) rfl (decide_eq_false fun q => (Ne.symm ne_b129_b132) (Value.ref.inj q)) (by decide) (by decide) zk) ?_
      refine own_st (fun zw zk => XS.aload X132.here hx rfl (hb hby at_230) rfl rfl zk) ?_
      refine own_st (fun zw zk => XS.aload X132.here hx rfl (hb hby at_232) rfl rfl zk) ?_
      refine own_st (fun zw zk => Jvm.RoadKit.acmp (g := (mkF m 234 #[.val (.int p0), .val (.int p1), .val (.int p2), .val (.int p3), .val (.int (2 : Int32)), .val (.int (0 : Int32)), .val (.ref b115), .val (.ref b116), .val (.ref b118), .val (.ref b121), .val (.ref b118), .val (.ref b118), .val (.ref b125), .val (.ref b129), .val (.ref b132)] [(.ref b118), (.ref b132)])) X132 hx rfl rfl rfl (pc0 := 234) (pc' := 239) (same := false) rfl (hb hby at_234) rfl (decide_eq_false fun q => (Ne.symm ne_b118_b132) (Value.ref.inj q)) (by decide) (by decide) zk) ?_
      refine own_st (fun zw zk => XS.aload X132.here hx rfl (hb hby at_239) rfl rfl zk) ?_
      refine own_st (fun zw zk => XS.iload X132.here hx rfl (hb hby at_241) rfl zk) ?_
      show own_Go p e below G (T132.setTop (mkF m 243 #[.val (.int p0), .val (.int p1), .val (.int p2), .val (.int p3), .val (.int (2 : Int32)), .val (.int (0 : Int32)), .val (.ref b115), .val (.ref b116), .val (.ref b118), .val (.ref b121), .val (.ref b118), .val (.ref b118), .val (.ref b125), .val (.ref b129), .val (.ref b132)] [(.int (2 : Int32)), (.ref b132)]))
      refine own_st (fun zw zk => XS.iloadN X132.here hx rfl (hb hby at_243) rfl zk) ?_
      refine own_st (fun zw zk => XS.iloadN X132.here hx rfl (hb hby at_244) rfl zk) ?_
      refine own_st (fun zw zk => XS.iloadN X132.here hx rfl (hb hby at_245) rfl zk) ?_
      obtain ⟨_, _, ⟨T133, L133, k133, n133⟩, -, X133, ⟨Lc133, hQ133, l133, y133, z133⟩, st133⟩ := Jvm.LawKit.callS X132 hx (y := (⟨"com/example/attestrum/attestrum/schemes/der/AlgorithmIdentifierParametersPinLaw", "matches", "([BIIII)Z"⟩ : MethodName)) hown' (mvT hZ' (hw _ (List.mem_of_getElem? (i := 39) rfl))) (mvT hZ' (hw _ (List.mem_of_getElem? (i := 40) rfl))) (mvT hZ' (hw _ (List.mem_of_getElem? (i := 32) rfl))) (mvT hZ' (hw _ (List.mem_of_getElem? (i := 41) rfl))) (by decide) (backOf (W := 0) (rm_m2 l Z a0 hw [] b132 (2 : Int32) p0 p1 p2 ((p0.toInt8.toInt32).toInt8.toInt32) ((p1.toInt8.toInt32).toInt8.toInt32) T132.heap n0 Z132 (R132_0) (rfl) (own_i2b _) (own_i2b _)) hZ' (hw _ (List.mem_of_getElem? (i := 41) rfl)) (hw _ (List.mem_of_getElem? (i := 32) rfl)) (by decide) (by decide)) (g := (mkF m 246 #[.val (.int p0), .val (.int p1), .val (.int p2), .val (.int p3), .val (.int (2 : Int32)), .val (.int (0 : Int32)), .val (.ref b115), .val (.ref b116), .val (.ref b118), .val (.ref b121), .val (.ref b118), .val (.ref b118), .val (.ref b125), .val (.ref b129), .val (.ref b132)] [(.int p2), (.int p1), (.int p0), (.int (2 : Int32)), (.ref b132)])) rfl (by rw [hml]; rfl) (argsL := [(.ref b132), (.int (2 : Int32)), (.int p0), (.int p1), (.int p2)]) (rest := []) (lenOf pd_3 rfl) rfl (by show 2 * 0 + _ ≤ _; exact Nat.le_of_eq rfl) (hb hby at_246) (fun _ _ => ⟨rfl, rfl, (by decide : 10 + 0 ≤ _), (by decide : 30 + 0 ≤ _)⟩)
      dsimp only [Pt.U, Pt.locs, Pt.cells, Pt.slots] at X133 l133 y133 z133 st133 hQ133
      subst l133 y133 z133
      obtain ⟨rfl, N133q, e133⟩ := hQ133
      have N133 := Fr.app N132 N133q
      refine own_st (fun zw zk => st133 zw zk) ?_
      subst hG
      obtain ⟨fs, hr, hrun, hended, hRW⟩ := Jvm.Stand.leaveW (s := s) X133 hS (by rw [e133]; exact Zk132) (v := some (.int (1 : Int32))) (fun h => by rw [Bd.returns] at h; cases h)
      refine ⟨_, retN X133 hx (t := .boolean) Bd.returns (by simp) (hb hby at_249) hr, _, hrun, hended, _, _, rfl, ?_, hRW.1, hRW.2.1, hRW.2.2.1, hRW.2.2.2.mono (by decide) (by decide)⟩
      show Q0 Z p0 p1 p2 p3 h0 n0 _ T133.heap _
      rw [e133]
      exact ⟨rfl, N133⟩
    · refine own_st (fun zw zk => XS.ifNo X0.here hx rfl (hb hby at_8) rfl ((if0 _ _).trans (feq hc8).1) zk) ?_
      refine own_st (fun zw zk => XS.iconst X0.here hx rfl (hb hby at_11) zk) ?_
      refine own_st (fun zw zk => XS.goto X0.here hx rfl (pc0 := 12) (pc' := 16) rfl (hb hby at_12) (by decide) (by decide) zk) ?_
      show own_Go p e below G (s₁.setTop (mkF m 16 #[.val (.int p0), .val (.int p1), .val (.int p2), .val (.int p3), .val (.int (2 : Int32)), .unset, .unset, .unset, .unset, .unset, .unset, .unset, .unset, .unset, .unset] [(.int (1 : Int32))]))
      refine own_st (fun zw zk => XS.istore X0.here hx rfl (hb hby at_16) rfl rfl zk) ?_
      show own_Go p e below G (s₁.setTop (mkF m 18 #[.val (.int p0), .val (.int p1), .val (.int p2), .val (.int p3), .val (.int (2 : Int32)), .val (.int (1 : Int32)), .unset, .unset, .unset, .unset, .unset, .unset, .unset, .unset, .unset] []))
      refine own_st (fun zw zk => XS.iconst X0.here hx rfl (hb hby at_18) zk) ?_
      obtain ⟨T134, h134, k134, X134, e134, E134, A134, B134, st134⟩ := newPE X0 hx hZ (hw _ (List.mem_of_getElem? (i := 0) rfl)) e0 (g := (mkF m 19 #[.val (.int p0), .val (.int p1), .val (.int p2), .val (.int p3), .val (.int (2 : Int32)), .val (.int (1 : Int32)), .unset, .unset, .unset, .unset, .unset, .unset, .unset, .unset, .unset] [(.int (0 : Int32))])) rfl (hb hby at_19) rfl (by decide) (cap := 0) (by decide) (by decide) (by decide) (by decide) (ad := "[B") (by decide)
      obtain ⟨b134, g134⟩ : ∃ z, z = h0.size := ⟨_, rfl⟩
      rw [← g134] at A134 B134 st134
      have G134 : n0 ≤ b134 := Nat.le_trans Z0 (Nat.le_of_eq g134.symm)
      have Z134 : n0 ≤ h134.size := Nat.le_trans Z0 E134.1
      have V134 : own_L Z h134 b134 .byte ([]) := own_L.new A134
      refine own_st (fun zw zk => st134 zw zk) ?_
      refine own_st (fun zw zk => XS.astore X134.here hx rfl (hb hby at_21) rfl rfl rfl zk) ?_
      show own_Go p e below G (T134.setTop (mkF m 23 #[.val (.int p0), .val (.int p1), .val (.int p2), .val (.int p3), .val (.int (2 : Int32)), .val (.int (1 : Int32)), .val (.ref b134), .unset, .unset, .unset, .unset, .unset, .unset, .unset, .unset] []))
      refine own_st (fun zw zk => XS.iconst X134.here hx rfl (hb hby at_23) zk) ?_
      obtain ⟨T135, h135, k135, X135, e135, E135, A135, B135, st135⟩ := newPE X134 hx hZ (hw _ (List.mem_of_getElem? (i := 0) rfl)) e134 (g := (mkF m 24 #[.val (.int p0), .val (.int p1), .val (.int p2), .val (.int p3), .val (.int (2 : Int32)), .val (.int (1 : Int32)), .val (.ref b134), .unset, .unset, .unset, .unset, .unset, .unset, .unset, .unset] [(.int (1 : Int32))])) rfl (hb hby at_24) rfl (by decide) (cap := 1) (by decide) (by decide) (by decide) (by decide) (ad := "[B") (by decide)
      obtain ⟨b135, g135⟩ : ∃ z, z = h134.size := ⟨_, rfl⟩
      rw [← g135] at A135 B135 st135
      have G135 : n0 ≤ b135 := Nat.le_trans Z134 (Nat.le_of_eq g135.symm)
      have ne_b134_b135 : b134 ≠ b135 := Nat.ne_of_lt (Nat.lt_of_lt_of_le V134.lt (Nat.le_of_eq g135.symm))
      have Vb134_135 := V134.ext E135
      have Bb134_135 := B134.ext E135
      have Z135 : n0 ≤ h135.size := Nat.le_trans Z134 E135.1
      have V135 : own_L Z h135 b135 .byte ([(.int (0 : Int32))]) := own_L.new A135
      refine own_st (fun zw zk => st135 zw zk) ?_
      refine own_st (fun zw zk => XS.dup X135.here hx rfl (hb hby at_26) rfl rfl zk) ?_
      refine own_st (fun zw zk => XS.iconst X135.here hx rfl (hb hby at_27) zk) ?_
      refine own_st (fun zw zk => XS.iloadN X135.here hx rfl (hb hby at_28) rfl zk) ?_
      refine own_st (fun zw zk => XS.i2b X135.here hx rfl (hb hby at_29) rfl zk) ?_
      obtain ⟨T136, h136, X136, e136, W136, V136, st136⟩ := own_bst X135 hx hZ e135 V135 (j := (0 : Int32)) (0) (by decide) (by decide) (Nat.le_of_ble_eq_true rfl) (g := (mkF m 30 #[.val (.int p0), .val (.int p1), .val (.int p2), .val (.int p3), .val (.int (2 : Int32)), .val (.int (1 : Int32)), .val (.ref b134), .unset, .unset, .unset, .unset, .unset, .unset, .unset, .unset] [(.int (p0.toInt8.toInt32)), (.int (0 : Int32)), (.ref b135), (.ref b135)])) rfl rfl (hb hby at_30)
      have Vb135_136 : own_L Z h136 b135 .byte ([(.int ((p0.toInt8.toInt32).toInt8.toInt32))]) := V136
      have N136 := Fr.snoc X136 N0 G135
      refine own_st (fun zw zk => st136 zw zk) ?_
      have Vb134_136 := Vb134_135.other W136 ne_b134_b135
      have Bb134_136 := Bb134_135.wr W136
      have Bb135_136 := B135.wr W136
      have Z136 : n0 ≤ h136.size := Nat.le_trans Z135 (Keep.of_wr W136).1
      refine own_st (fun zw zk => XS.astore X136.here hx rfl (hb hby at_31) rfl rfl rfl zk) ?_
      show own_Go p e below G (T136.setTop (mkF m 33 #[.val (.int p0), .val (.int p1), .val (.int p2), .val (.int p3), .val (.int (2 : Int32)), .val (.int (1 : Int32)), .val (.ref b134), .val (.ref b135), .unset, .unset, .unset, .unset, .unset, .unset, .unset] []))
      refine own_st (fun zw zk => XS.iconst X136.here hx rfl (hb hby at_33) zk) ?_
      obtain ⟨T137, h137, k137, X137, e137, E137, A137, B137, st137⟩ := newPE X136 hx hZ (hw _ (List.mem_of_getElem? (i := 0) rfl)) e136 (g := (mkF m 34 #[.val (.int p0), .val (.int p1), .val (.int p2), .val (.int p3), .val (.int (2 : Int32)), .val (.int (1 : Int32)), .val (.ref b134), .val (.ref b135), .unset, .unset, .unset, .unset, .unset, .unset, .unset] [(.int (2 : Int32))])) rfl (hb hby at_34) rfl (by decide) (cap := 2) (by decide) (by decide) (by decide) (by decide) (ad := "[B") (by decide)
      obtain ⟨b137, g137⟩ : ∃ z, z = h136.size := ⟨_, rfl⟩
      rw [← g137] at A137 B137 st137
      have G137 : n0 ≤ b137 := Nat.le_trans Z136 (Nat.le_of_eq g137.symm)
      have ne_b134_b137 : b134 ≠ b137 := Nat.ne_of_lt (Nat.lt_of_lt_of_le Vb134_136.lt (Nat.le_of_eq g137.symm))
      have ne_b135_b137 : b135 ≠ b137 := Nat.ne_of_lt (Nat.lt_of_lt_of_le Bb135_136.lt (Nat.le_of_eq g137.symm))
      have Vb134_137 := Vb134_136.ext E137
      have Bb134_137 := Bb134_136.ext E137
      have Bb135_137 := Bb135_136.ext E137
      have Vb135_137 := Vb135_136.ext E137
      have Z137 : n0 ≤ h137.size := Nat.le_trans Z136 E137.1
      have V137 : own_L Z h137 b137 .byte ([(.int (0 : Int32)), (.int (0 : Int32))]) := own_L.new A137
      refine own_st (fun zw zk => st137 zw zk) ?_
      refine own_st (fun zw zk => XS.dup X137.here hx rfl (hb hby at_36) rfl rfl zk) ?_
      refine own_st (fun zw zk => XS.iconst X137.here hx rfl (hb hby at_37) zk) ?_
      refine own_st (fun zw zk => XS.iloadN X137.here hx rfl (hb hby at_38) rfl zk) ?_
      refine own_st (fun zw zk => XS.i2b X137.here hx rfl (hb hby at_39) rfl zk) ?_
      obtain ⟨T138, h138, X138, e138, W138, V138, st138⟩ := own_bst X137 hx hZ e137 V137 (j := (0 : Int32)) (0) (by decide) (by decide) (Nat.le_of_ble_eq_true rfl) (g := (mkF m 40 #[.val (.int p0), .val (.int p1), .val (.int p2), .val (.int p3), .val (.int (2 : Int32)), .val (.int (1 : Int32)), .val (.ref b134), .val (.ref b135), .unset, .unset, .unset, .unset, .unset, .unset, .unset] [(.int (p0.toInt8.toInt32)), (.int (0 : Int32)), (.ref b137), (.ref b137)])) rfl rfl (hb hby at_40)
      have Vb137_138 : own_L Z h138 b137 .byte ([(.int ((p0.toInt8.toInt32).toInt8.toInt32)), (.int (0 : Int32))]) := V138
      have N138 := Fr.snoc X138 N136 G137
      refine own_st (fun zw zk => st138 zw zk) ?_
      have Vb134_138 := Vb134_137.other W138 ne_b134_b137
      have Bb134_138 := Bb134_137.wr W138
      have Bb135_138 := Bb135_137.wr W138
      have Vb135_138 := Vb135_137.other W138 ne_b135_b137
      have Bb137_138 := B137.wr W138
      have Z138 : n0 ≤ h138.size := Nat.le_trans Z137 (Keep.of_wr W138).1
      refine own_st (fun zw zk => XS.dup X138.here hx rfl (hb hby at_41) rfl rfl zk) ?_
      show own_Go p e below G (T138.setTop (mkF m 42 #[.val (.int p0), .val (.int p1), .val (.int p2), .val (.int p3), .val (.int (2 : Int32)), .val (.int (1 : Int32)), .val (.ref b134), .val (.ref b135), .unset, .unset, .unset, .unset, .unset, .unset, .unset] [(.ref b137), (.ref b137)]))
      refine own_st (fun zw zk => XS.iconst X138.here hx rfl (hb hby at_42) zk) ?_
      refine own_st (fun zw zk => XS.iloadN X138.here hx rfl (hb hby at_43) rfl zk) ?_
      refine own_st (fun zw zk => XS.i2b X138.here hx rfl (hb hby at_44) rfl zk) ?_
      obtain ⟨T139, h139, X139, e139, W139, V139, st139⟩ := own_bst X138 hx hZ e138 Vb137_138 (j := (1 : Int32)) (1) (by decide) (by decide) (Nat.le_of_ble_eq_true rfl) (g := (mkF m 45 #[.val (.int p0), .val (.int p1), .val (.int p2), .val (.int p3), .val (.int (2 : Int32)), .val (.int (1 : Int32)), .val (.ref b134), .val (.ref b135), .unset, .unset, .unset, .unset, .unset, .unset, .unset] [(.int (p1.toInt8.toInt32)), (.int (1 : Int32)), (.ref b137), (.ref b137)])) rfl rfl (hb hby at_45)
      have Vb137_139 : own_L Z h139 b137 .byte ([(.int ((p0.toInt8.toInt32).toInt8.toInt32)), (.int ((p1.toInt8.toInt32).toInt8.toInt32))]) := V139
      have N139 := Fr.snoc X139 N138 G137
      refine own_st (fun zw zk => st139 zw zk) ?_
      have Vb134_139 := Vb134_138.other W139 ne_b134_b137
      have Bb134_139 := Bb134_138.wr W139
      have Bb135_139 := Bb135_138.wr W139
      have Vb135_139 := Vb135_138.other W139 ne_b135_b137
      have Bb137_139 := Bb137_138.wr W139
      have Z139 : n0 ≤ h139.size := Nat.le_trans Z138 (Keep.of_wr W139).1
      refine own_st (fun zw zk => XS.astore X139.here hx rfl (hb hby at_46) rfl rfl rfl zk) ?_
      show own_Go p e below G (T139.setTop (mkF m 48 #[.val (.int p0), .val (.int p1), .val (.int p2), .val (.int p3), .val (.int (2 : Int32)), .val (.int (1 : Int32)), .val (.ref b134), .val (.ref b135), .val (.ref b137), .unset, .unset, .unset, .unset, .unset, .unset] []))
      refine own_st (fun zw zk => XS.iconst X139.here hx rfl (hb hby at_48) zk) ?_
      obtain ⟨T140, h140, k140, X140, e140, E140, A140, B140, st140⟩ := newPE X139 hx hZ (hw _ (List.mem_of_getElem? (i := 0) rfl)) e139 (g := (mkF m 49 #[.val (.int p0), .val (.int p1), .val (.int p2), .val (.int p3), .val (.int (2 : Int32)), .val (.int (1 : Int32)), .val (.ref b134), .val (.ref b135), .val (.ref b137), .unset, .unset, .unset, .unset, .unset, .unset] [(.int (3 : Int32))])) rfl (hb hby at_49) rfl (by decide) (cap := 3) (by decide) (by decide) (by decide) (by decide) (ad := "[B") (by decide)
      obtain ⟨b140, g140⟩ : ∃ z, z = h139.size := ⟨_, rfl⟩
      rw [← g140] at A140 B140 st140
      have G140 : n0 ≤ b140 := Nat.le_trans Z139 (Nat.le_of_eq g140.symm)
      have ne_b134_b140 : b134 ≠ b140 := Nat.ne_of_lt (Nat.lt_of_lt_of_le Vb134_139.lt (Nat.le_of_eq g140.symm))
      have ne_b135_b140 : b135 ≠ b140 := Nat.ne_of_lt (Nat.lt_of_lt_of_le Bb135_139.lt (Nat.le_of_eq g140.symm))
      have ne_b137_b140 : b137 ≠ b140 := Nat.ne_of_lt (Nat.lt_of_lt_of_le Bb137_139.lt (Nat.le_of_eq g140.symm))
      have Vb134_140 := Vb134_139.ext E140
      have Bb134_140 := Bb134_139.ext E140
      have Bb135_140 := Bb135_139.ext E140
      have Vb135_140 := Vb135_139.ext E140
      have Bb137_140 := Bb137_139.ext E140
      have Vb137_140 := Vb137_139.ext E140
      have Z140 : n0 ≤ h140.size := Nat.le_trans Z139 E140.1
      have V140 : own_L Z h140 b140 .byte ([(.int (0 : Int32)), (.int (0 : Int32)), (.int (0 : Int32))]) := own_L.new A140
      refine own_st (fun zw zk => st140 zw zk) ?_
      refine own_st (fun zw zk => XS.dup X140.here hx rfl (hb hby at_51) rfl rfl zk) ?_
      refine own_st (fun zw zk => XS.iconst X140.here hx rfl (hb hby at_52) zk) ?_
      refine own_st (fun zw zk => XS.iloadN X140.here hx rfl (hb hby at_53) rfl zk) ?_
      refine own_st (fun zw zk => XS.i2b X140.here hx rfl (hb hby at_54) rfl zk) ?_
      obtain ⟨T141, h141, X141, e141, W141, V141, st141⟩ := own_bst X140 hx hZ e140 V140 (j := (0 : Int32)) (0) (by decide) (by decide) (Nat.le_of_ble_eq_true rfl) (g := (mkF m 55 #[.val (.int p0), .val (.int p1), .val (.int p2), .val (.int p3), .val (.int (2 : Int32)), .val (.int (1 : Int32)), .val (.ref b134), .val (.ref b135), .val (.ref b137), .unset, .unset, .unset, .unset, .unset, .unset] [(.int (p0.toInt8.toInt32)), (.int (0 : Int32)), (.ref b140), (.ref b140)])) rfl rfl (hb hby at_55)
      have Vb140_141 : own_L Z h141 b140 .byte ([(.int ((p0.toInt8.toInt32).toInt8.toInt32)), (.int (0 : Int32)), (.int (0 : Int32))]) := V141
      have N141 := Fr.snoc X141 N139 G140
      refine own_st (fun zw zk => st141 zw zk) ?_
      have Vb134_141 := Vb134_140.other W141 ne_b134_b140
      have Bb134_141 := Bb134_140.wr W141
      have Bb135_141 := Bb135_140.wr W141
      have Vb135_141 := Vb135_140.other W141 ne_b135_b140
      have Bb137_141 := Bb137_140.wr W141
      have Vb137_141 := Vb137_140.other W141 ne_b137_b140
      have Bb140_141 := B140.wr W141
      have Z141 : n0 ≤ h141.size := Nat.le_trans Z140 (Keep.of_wr W141).1
      refine own_st (fun zw zk => XS.dup X141.here hx rfl (hb hby at_56) rfl rfl zk) ?_
      show own_Go p e below G (T141.setTop (mkF m 57 #[.val (.int p0), .val (.int p1), .val (.int p2), .val (.int p3), .val (.int (2 : Int32)), .val (.int (1 : Int32)), .val (.ref b134), .val (.ref b135), .val (.ref b137), .unset, .unset, .unset, .unset, .unset, .unset] [(.ref b140), (.ref b140)]))
      refine own_st (fun zw zk => XS.iconst X141.here hx rfl (hb hby at_57) zk) ?_
      refine own_st (fun zw zk => XS.iloadN X141.here hx rfl (hb hby at_58) rfl zk) ?_
      refine own_st (fun zw zk => XS.i2b X141.here hx rfl (hb hby at_59) rfl zk) ?_
      obtain ⟨T142, h142, X142, e142, W142, V142, st142⟩ := own_bst X141 hx hZ e141 Vb140_141 (j := (1 : Int32)) (1) (by decide) (by decide) (Nat.le_of_ble_eq_true rfl) (g := (mkF m 60 #[.val (.int p0), .val (.int p1), .val (.int p2), .val (.int p3), .val (.int (2 : Int32)), .val (.int (1 : Int32)), .val (.ref b134), .val (.ref b135), .val (.ref b137), .unset, .unset, .unset, .unset, .unset, .unset] [(.int (p1.toInt8.toInt32)), (.int (1 : Int32)), (.ref b140), (.ref b140)])) rfl rfl (hb hby at_60)
      have Vb140_142 : own_L Z h142 b140 .byte ([(.int ((p0.toInt8.toInt32).toInt8.toInt32)), (.int ((p1.toInt8.toInt32).toInt8.toInt32)), (.int (0 : Int32))]) := V142
      have N142 := Fr.snoc X142 N141 G140
      refine own_st (fun zw zk => st142 zw zk) ?_
      have Vb134_142 := Vb134_141.other W142 ne_b134_b140
      have Bb134_142 := Bb134_141.wr W142
      have Bb135_142 := Bb135_141.wr W142
      have Vb135_142 := Vb135_141.other W142 ne_b135_b140
      have Bb137_142 := Bb137_141.wr W142
      have Vb137_142 := Vb137_141.other W142 ne_b137_b140
      have Bb140_142 := Bb140_141.wr W142
      have Z142 : n0 ≤ h142.size := Nat.le_trans Z141 (Keep.of_wr W142).1
      refine own_st (fun zw zk => XS.dup X142.here hx rfl (hb hby at_61) rfl rfl zk) ?_
      refine own_st (fun zw zk => XS.iconst X142.here hx rfl (hb hby at_62) zk) ?_
      refine own_st (fun zw zk => XS.iloadN X142.here hx rfl (hb hby at_63) rfl zk) ?_
      refine own_st (fun zw zk => XS.i2b X142.here hx rfl (hb hby at_64) rfl zk) ?_
      show own_Go p e below G (T142.setTop (mkF m 65 #[.val (.int p0), .val (.int p1), .val (.int p2), .val (.int p3), .val (.int (2 : Int32)), .val (.int (1 : Int32)), .val (.ref b134), .val (.ref b135), .val (.ref b137), .unset, .unset, .unset, .unset, .unset, .unset] [(.int (p2.toInt8.toInt32)), (.int (2 : Int32)), (.ref b140), (.ref b140)]))
      obtain ⟨T143, h143, X143, e143, W143, V143, st143⟩ := own_bst X142 hx hZ e142 Vb140_142 (j := (2 : Int32)) (2) (by decide) (by decide) (Nat.le_of_ble_eq_true rfl) (g := (mkF m 65 #[.val (.int p0), .val (.int p1), .val (.int p2), .val (.int p3), .val (.int (2 : Int32)), .val (.int (1 : Int32)), .val (.ref b134), .val (.ref b135), .val (.ref b137), .unset, .unset, .unset, .unset, .unset, .unset] [(.int (p2.toInt8.toInt32)), (.int (2 : Int32)), (.ref b140), (.ref b140)])) rfl rfl (hb hby at_65)
      have Vb140_143 : own_L Z h143 b140 .byte ([(.int ((p0.toInt8.toInt32).toInt8.toInt32)), (.int ((p1.toInt8.toInt32).toInt8.toInt32)), (.int ((p2.toInt8.toInt32).toInt8.toInt32))]) := V143
      have N143 := Fr.snoc X143 N142 G140
      refine own_st (fun zw zk => st143 zw zk) ?_
      have Vb134_143 := Vb134_142.other W143 ne_b134_b140
      have Bb134_143 := Bb134_142.wr W143
      have Bb135_143 := Bb135_142.wr W143
      have Vb135_143 := Vb135_142.other W143 ne_b135_b140
      have Bb137_143 := Bb137_142.wr W143
      have Vb137_143 := Vb137_142.other W143 ne_b137_b140
      have Bb140_143 := Bb140_142.wr W143
      have Z143 : n0 ≤ h143.size := Nat.le_trans Z142 (Keep.of_wr W143).1
      refine own_st (fun zw zk => XS.astore X143.here hx rfl (hb hby at_66) rfl rfl rfl zk) ?_
      show own_Go p e below G (T143.setTop (mkF m 68 #[.val (.int p0), .val (.int p1), .val (.int p2), .val (.int p3), .val (.int (2 : Int32)), .val (.int (1 : Int32)), .val (.ref b134), .val (.ref b135), .val (.ref b137), .val (.ref b140), .unset, .unset, .unset, .unset, .unset] []))
      refine own_st (fun zw zk => XS.iload X143.here hx rfl (hb hby at_68) rfl zk) ?_
      refine own_st (fun zw zk => XS.ifYes X143.here hx rfl (pc0 := 70) (pc' := 78) rfl (hb hby at_70) rfl ((if0 _ _).trans (feq (by decide : ¬ ((2 : Int32) = (0 : Int32)))).2) (by decide) (by decide) zk) ?_
      refine own_st (fun zw zk => XS.iload X143.here hx rfl (hb hby at_78) rfl zk) ?_
      refine own_st (fun zw zk => XS.iconst X143.here hx rfl (hb hby at_80) zk) ?_
      refine own_st (fun zw zk => XS.icmpYes X143.here hx rfl (pc0 := 81) (pc' := 89) rfl (hb hby at_81) rfl (feq (by decide : ¬ ((2 : Int32) = (1 : Int32)))).2 (by decide) (by decide) zk) ?_
      refine own_st (fun zw zk => XS.iload X143.here hx rfl (hb hby at_89) rfl zk) ?_
      refine own_st (fun zw zk => XS.iconst X143.here hx rfl (hb hby at_91) zk) ?_
      refine own_st (fun zw zk => XS.icmpNo X143.here hx rfl (hb hby at_92) rfl (teq (by decide : (2 : Int32) = (2 : Int32))).2 zk) ?_
      show own_Go p e below G (T143.setTop (mkF m 95 #[.val (.int p0), .val (.int p1), .val (.int p2), .val (.int p3), .val (.int (2 : Int32)), .val (.int (1 : Int32)), .val (.ref b134), .val (.ref b135), .val (.ref b137), .val (.ref b140), .unset, .unset, .unset, .unset, .unset] []))
      refine own_st (fun zw zk => XS.aload X143.here hx rfl (hb hby at_95) rfl rfl zk) ?_
      refine own_st (fun zw zk => XS.goto X143.here hx rfl (pc0 := 97) (pc' := 102) rfl (hb hby at_97) (by decide) (by decide) zk) ?_
      show own_Go p e below G (T143.setTop (mkF m 102 #[.val (.int p0), .val (.int p1), .val (.int p2), .val (.int p3), .val (.int (2 : Int32)), .val (.int (1 : Int32)), .val (.ref b134), .val (.ref b135), .val (.ref b137), .val (.ref b140), .unset, .unset, .unset, .unset, .unset] [(.ref b137)]))
      refine own_st (fun zw zk => XS.astore X143.here hx rfl (hb hby at_102) rfl rfl rfl zk) ?_
      show own_Go p e below G (T143.setTop (mkF m 104 #[.val (.int p0), .val (.int p1), .val (.int p2), .val (.int p3), .val (.int (2 : Int32)), .val (.int (1 : Int32)), .val (.ref b134), .val (.ref b135), .val (.ref b137), .val (.ref b140), .val (.ref b137), .unset, .unset, .unset, .unset] []))
      refine own_st (fun zw zk => XS.iload X143.here hx rfl (hb hby at_104) rfl zk) ?_
      refine own_st (fun zw zk => XS.ifNo X143.here hx rfl (hb hby at_106) rfl ((if0 _ _).trans (feq (by decide : ¬ ((1 : Int32) = (0 : Int32)))).1) zk) ?_
      refine own_st (fun zw zk => XS.aconstNull X143.here hx rfl (hb hby at_109) zk) ?_
      refine own_st (fun zw zk => XS.goto X143.here hx rfl (pc0 := 110) (pc' := 115) rfl (hb hby at_110) (by decide) (by decide) zk) ?_
      show own_Go p e below G (T143.setTop (mkF m 115 #[.val (.int p0), .val (.int p1), .val (.int p2), .val (.int p3), .val (.int (2 : Int32)), .val (.int (1 : Int32)), .val (.ref b134), .val (.ref b135), .val (.ref b137), .val (.ref b140), .val (.ref b137), .unset, .unset, .unset, .unset] [.null]))
      refine own_st (fun zw zk => XS.astore X143.here hx rfl (hb hby at_115) rfl rfl rfl zk) ?_
      show own_Go p e below G (T143.setTop (mkF m 117 #[.val (.int p0), .val (.int p1), .val (.int p2), .val (.int p3), .val (.int (2 : Int32)), .val (.int (1 : Int32)), .val (.ref b134), .val (.ref b135), .val (.ref b137), .val (.ref b140), .val (.ref b137), .val .null, .unset, .unset, .unset] []))
      obtain ⟨T144, h144, X144, e144, E144, A144, D144, -, st144⟩ := newO X143 hx hZ hown (hw _ (List.mem_of_getElem? (i := 1) rfl)) (hw _ (List.mem_of_getElem? (i := 2) rfl)) (hw _ (List.mem_of_getElem? (i := 3) rfl)) e143 (g := (mkF m 117 #[.val (.int p0), .val (.int p1), .val (.int p2), .val (.int p3), .val (.int (2 : Int32)), .val (.int (1 : Int32)), .val (.ref b134), .val (.ref b135), .val (.ref b137), .val (.ref b140), .val (.ref b137), .val .null, .unset, .unset, .unset] [])) rfl (hb hby at_117) (by decide) (by decide)
      obtain ⟨b144, g144⟩ : ∃ z, z = h143.size := ⟨_, rfl⟩
      rw [← g144] at A144 D144 st144
      have G144 : n0 ≤ b144 := Nat.le_trans Z143 (Nat.le_of_eq g144.symm)
      have ne_b134_b144 : b134 ≠ b144 := Nat.ne_of_lt (Nat.lt_of_lt_of_le Vb134_143.lt (Nat.le_of_eq g144.symm))
      have ne_b135_b144 : b135 ≠ b144 := Nat.ne_of_lt (Nat.lt_of_lt_of_le Bb135_143.lt (Nat.le_of_eq g144.symm))
      have ne_b137_b144 : b137 ≠ b144 := Nat.ne_of_lt (Nat.lt_of_lt_of_le Bb137_143.lt (Nat.le_of_eq g144.symm))
      have ne_b140_b144 : b140 ≠ b144 := Nat.ne_of_lt (Nat.lt_of_lt_of_le Bb140_143.lt (Nat.le_of_eq g144.symm))
      have Vb134_144 := Vb134_143.ext E144
      have Bb134_144 := Bb134_143.ext E144
      have Bb135_144 := Bb135_143.ext E144
      have Vb135_144 := Vb135_143.ext E144
      have Bb137_144 := Bb137_143.ext E144
      have Vb137_144 := Vb137_143.ext E144
      have Bb140_144 := Bb140_143.ext E144
      have Vb140_144 := Vb140_143.ext E144
      have Z144 : n0 ≤ h144.size := Nat.le_trans Z143 E144.1
      have Fb144oid : Fld Z h144 b144 "com/example/attestrum/attestrum/schemes/der/AlgorithmIdentifier" "oid" "Ljava/lang/String;" .null := D144 (Or.inr (hw _ (List.mem_of_getElem? (i := 18) rfl))) (ty := (.object "java/lang/String")) (by decide)
      have Fb144parameters : Fld Z h144 b144 "com/example/attestrum/attestrum/schemes/der/AlgorithmIdentifier" "parameters" "[B" .null := D144 (Or.inr (hw _ (List.mem_of_getElem? (i := 29) rfl))) (ty := (.array .byte)) (by decide)
      refine own_st (fun zw zk => st144 zw zk) ?_
      refine own_st (fun zw zk => XS.dup X144.here hx rfl (hb hby at_120) rfl rfl zk) ?_
      have wS145 : ∀ z ∈ Bundle.stringAtoms, z.before a0 Z = true := by
        intro z hz
        simp only [Bundle.stringAtoms, List.mem_cons, List.not_mem_nil, or_false] at hz
        rcases hz with rfl | rfl | rfl | rfl | rfl | rfl | rfl
        · exact (hw _ (List.mem_of_getElem? (i := 5) rfl))
        · exact (hw _ (List.mem_of_getElem? (i := 6) rfl))
        · exact (hw _ (List.mem_of_getElem? (i := 0) rfl))
        · exact (hw _ (List.mem_of_getElem? (i := 7) rfl))
        · exact (hw _ (List.mem_of_getElem? (i := 8) rfl))
        · exact (hw _ (List.mem_of_getElem? (i := 9) rfl))
        · exact (hw _ (List.mem_of_getElem? (i := 10) rfl))
      obtain ⟨b145, T145, h145, k145, X145, e145, E145, hS, Zk145, hZ', hown', st145⟩ := ldcS (s := s) (vm0 := s.vm) X144 hx hZ hown (hw _ (List.mem_of_getElem? (i := 4) rfl)) wS145 e144 ((State.WarmedH.refl s).since 0) (Nat.zero_le _) (g := (mkF m 121 #[.val (.int p0), .val (.int p1), .val (.int p2), .val (.int p3), .val (.int (2 : Int32)), .val (.int (1 : Int32)), .val (.ref b134), .val (.ref b135), .val (.ref b137), .val (.ref b140), .val (.ref b137), .val .null, .unset, .unset, .unset] [(.ref b144), (.ref b144)])) rfl (hb hby at_121) (n := 12) (by decide) (by decide) (by decide) (by decide)
      refine own_st (fun zw zk => st145 zw zk) ?_
      have Vb134_145 := Vb134_144.ext E145
      have Bb134_145 := Bb134_144.ext E145
      have Bb135_145 := Bb135_144.ext E145
      have Vb135_145 := Vb135_144.ext E145
      have Bb137_145 := Bb137_144.ext E145
      have Vb137_145 := Vb137_144.ext E145
      have Bb140_145 := Bb140_144.ext E145
      have Vb140_145 := Vb140_144.ext E145
      have Fb144oid_145 := Fb144oid.ext E145
      have Fb144parameters_145 := Fb144parameters.ext E145
      have Ab144_145 := A144.ext E145
      have Z145 : n0 ≤ h145.size := Nat.le_trans Z144 E145.1
      refine own_st (fun zw zk => XS.aload X145.here hx rfl (hb hby at_123) rfl rfl zk) ?_
      obtain ⟨_, _, ⟨T146, L146, k146, n146⟩, -, X146, ⟨Lc146, hQ146, l146, y146, z146⟩, st146⟩ := X145.specialBack hx (y := (⟨"com/example/attestrum/attestrum/schemes/der/AlgorithmIdentifier", "<init>", "(Ljava/lang/String;[B)V"⟩ : MethodName)) rfl hown' (mvT hZ' (hw _ (List.mem_of_getElem? (i := 11) rfl))) (mvT hZ' (hw _ (List.mem_of_getElem? (i := 12) rfl))) (mvT hZ' (hw _ (List.mem_of_getElem? (i := 13) rfl))) (by decide) (backOf (W := 1) (rm_in l Z a0 hw [] b144 b145 h145 n0 Z145 (Ab144_145) (Fb144oid_145) (Fb144parameters_145) (G144)) hZ' (hw _ (List.mem_of_getElem? (i := 13) rfl)) (hw _ (List.mem_of_getElem? (i := 3) rfl)) (by decide) (by decide)) (g := (mkF m 125 #[.val (.int p0), .val (.int p1), .val (.int p2), .val (.int p3), .val (.int (2 : Int32)), .val (.int (1 : Int32)), .val (.ref b134), .val (.ref b135), .val (.ref b137), .val (.ref b140), .val (.ref b137), .val .null, .unset, .unset, .unset] [.null, (.ref b145), (.ref b144), (.ref b144)])) rfl (by rw [hml]; rfl) (Steps.refl _) (a := b144) (argsL := [(.ref b145), .null]) (rest := [(.ref b144)]) (lenOf pd_0 rfl) rfl (by show 2 * 0 + _ ≤ _; exact Nat.le_of_eq rfl) (hb hby at_125) (fun _ _ => ⟨rfl, e145, (by decide : 7 + 0 ≤ _), (by decide : 24 + 0 ≤ _)⟩)
      dsimp only [Pt.U, Pt.locs, Pt.cells, Pt.slots] at X146 l146 y146 z146 st146 hQ146
      subst l146 y146 z146
      obtain ⟨rfl, N146q, K146, O146_0, O146_1⟩ := hQ146
      have Zk146 := Nat.le_trans Zk145 K146.1
      have Vb134_146 := Vb134_145.keep K146 (ninS ne_b134_b144 nin0)
      have Bb134_146 := Bb134_145.keep K146
      have Bb135_146 := Bb135_145.keep K146
      have Vb135_146 := Vb135_145.keep K146 (ninS ne_b135_b144 nin0)
      have Bb137_146 := Bb137_145.keep K146
      have Vb137_146 := Vb137_145.keep K146 (ninS ne_b137_b144 nin0)
      have Bb140_146 := Bb140_145.keep K146
      have Vb140_146 := Vb140_145.keep K146 (ninS ne_b140_b144 nin0)
      have Ab144_146 := Ab144_145.keep K146
      have Z146 : n0 ≤ T146.heap.size := Nat.le_trans Z145 K146.1
      have N146 := Fr.app N143 N146q
      refine own_jp st146 ?_
      refine own_st (fun zw zk => XS.astore X146.here hx rfl (hb hby at_128) rfl rfl rfl zk) ?_
      show own_Go p e below G (T146.setTop (mkF m 130 #[.val (.int p0), .val (.int p1), .val (.int p2), .val (.int p3), .val (.int (2 : Int32)), .val (.int (1 : Int32)), .val (.ref b134), .val (.ref b135), .val (.ref b137), .val (.ref b140), .val (.ref b137), .val .null, .val (.ref b144), .unset, .unset] []))
      refine own_st (fun zw zk => XS.aload X146.here hx rfl (hb hby at_130) rfl rfl zk) ?_
      refine own_st (fun zw zk => XS.ifnonnullNo X146.here hx rfl (hb hby at_132) rfl zk) ?_
      refine own_st (fun zw zk => XS.aload X146.here hx rfl (hb hby at_135) rfl rfl zk) ?_
      obtain ⟨cq147, kq147, q147a, q147b, q147c⟩ := isOf hZ' rfl O146_0
      obtain ⟨_, _, ⟨T147, L147, k147, n147⟩, -, X147, ⟨Lc147, hQ147, l147, y147, z147⟩, st147⟩ := X146.virtualBack hx (y := (⟨"com/example/attestrum/attestrum/schemes/der/AlgorithmIdentifier", "parameters", "()[B"⟩ : MethodName)) (z := (⟨"com/example/attestrum/attestrum/schemes/der/AlgorithmIdentifier", "parameters", "()[B"⟩ : MethodName)) hown' (mvT hZ' (hw _ (List.mem_of_getElem? (i := 34) rfl))) (mvT hZ' (hw _ (List.mem_of_getElem? (i := 35) rfl))) (notFace_of_selects (args := #[]) (mvT hZ' (hw _ (List.mem_of_getElem? (i := 37) rfl)))) (mvT hZ' (hw _ (List.mem_of_getElem? (i := 37) rfl))) (mvT hZ' (hw _ (List.mem_of_getElem? (i := 36) rfl))) (by decide) (backOf (W := 0) (rm_pn l Z a0 hw [] b144 T146.heap n0 Z146 (O146_1)) hZ' (hw _ (List.mem_of_getElem? (i := 38) rfl)) (hw _ (List.mem_of_getElem? (i := 3) rfl)) (by decide) (by decide)) q147a q147c (g := (mkF m 137 #[.val (.int p0), .val (.int p1), .val (.int p2), .val (.int p3), .val (.int (2 : Int32)), .val (.int (1 : Int32)), .val (.ref b134), .val (.ref b135), .val (.ref b137), .val (.ref b140), .val (.ref b137), .val .null, .val (.ref b144), .unset, .unset] [(.ref b144)])) rfl (by rw [hml]; rfl) (Steps.refl _) (argsL := []) (rest := []) (lenOf pd_2 rfl) rfl (by show 2 * 0 + _ ≤ _; exact Nat.le_of_eq rfl) (hb hby at_137) (fun _ _ => ⟨rfl, rfl, (by decide : 7 + 0 ≤ _), (by decide : 24 + 0 ≤ _)⟩)
      dsimp only [Pt.U, Pt.locs, Pt.cells, Pt.slots] at X147 l147 y147 z147 st147 hQ147
      subst l147 y147 z147
      obtain ⟨rfl, N147q, e147⟩ := hQ147
      have N147 := Fr.app N146 N147q
      refine own_jp st147 ?_
      refine own_st (fun zw zk => XS.astore X147.here hx rfl (hb hby at_140) rfl rfl rfl zk) ?_
      show own_Go p e below G (T147.setTop (mkF m 142 #[.val (.int p0), .val (.int p1), .val (.int p2), .val (.int p3), .val (.int (2 : Int32)), .val (.int (1 : Int32)), .val (.ref b134), .val (.ref b135), .val (.ref b137), .val (.ref b140), .val (.ref b137), .val .null, .val (.ref b144), .val .null, .unset] []))
      refine own_st (fun zw zk => XS.aload X147.here hx rfl (hb hby at_142) rfl rfl zk) ?_
      obtain ⟨cq148, kq148, q148a, q148b, q148c⟩ := isOf hZ' e147 O146_0
      obtain ⟨_, _, ⟨T148, L148, k148, n148⟩, -, X148, ⟨Lc148, hQ148, l148, y148, z148⟩, st148⟩ := X147.virtualBack hx (y := (⟨"com/example/attestrum/attestrum/schemes/der/AlgorithmIdentifier", "parameters", "()[B"⟩ : MethodName)) (z := (⟨"com/example/attestrum/attestrum/schemes/der/AlgorithmIdentifier", "parameters", "()[B"⟩ : MethodName)) hown' (mvT hZ' (hw _ (List.mem_of_getElem? (i := 34) rfl))) (mvT hZ' (hw _ (List.mem_of_getElem? (i := 35) rfl))) (notFace_of_selects (args := #[]) (mvT hZ' (hw _ (List.mem_of_getElem? (i := 37) rfl)))) (mvT hZ' (hw _ (List.mem_of_getElem? (i := 37) rfl))) (mvT hZ' (hw _ (List.mem_of_getElem? (i := 36) rfl))) (by decide) (backOf (W := 0) (rm_pn l Z a0 hw [] b144 T146.heap n0 Z146 (O146_1)) hZ' (hw _ (List.mem_of_getElem? (i := 38) rfl)) (hw _ (List.mem_of_getElem? (i := 3) rfl)) (by decide) (by decide)) q148a q148c (g := (mkF m 144 #[.val (.int p0), .val (.int p1), .val (.int p2), .val (.int p3), .val (.int (2 : Int32)), .val (.int (1 : Int32)), .val (.ref b134), .val (.ref b135), .val (.ref b137), .val (.ref b140), .val (.ref b137), .val .null, .val (.ref b144), .val .null, .unset] [(.ref b144)])) rfl (by rw [hml]; rfl) (Steps.refl _) (argsL := []) (rest := []) (lenOf pd_2 rfl) rfl (by show 2 * 0 + _ ≤ _; exact Nat.le_of_eq rfl) (hb hby at_144) (fun _ _ => ⟨rfl, e147, (by decide : 7 + 0 ≤ _), (by decide : 24 + 0 ≤ _)⟩)
      dsimp only [Pt.U, Pt.locs, Pt.cells, Pt.slots] at X148 l148 y148 z148 st148 hQ148
      subst l148 y148 z148
      obtain ⟨rfl, N148q, e148⟩ := hQ148
      have N148 := Fr.app N147 N148q
      refine own_jp st148 ?_
      refine own_st (fun zw zk => XS.astore X148.here hx rfl (hb hby at_147) rfl rfl rfl zk) ?_
      show own_Go p e below G (T148.setTop (mkF m 149 #[.val (.int p0), .val (.int p1), .val (.int p2), .val (.int p3), .val (.int (2 : Int32)), .val (.int (1 : Int32)), .val (.ref b134), .val (.ref b135), .val (.ref b137), .val (.ref b140), .val (.ref b137), .val .null, .val (.ref b144), .val .null, .val .null] []))
      refine own_st (fun zw zk => XS.aload X148.here hx rfl (hb hby at_149) rfl rfl zk) ?_
      refine own_st (fun zw zk => XS.ifnonnullNo X148.here hx rfl (hb hby at_151) rfl zk) ?_
      refine own_st (fun zw zk => XS.aload X148.here hx rfl (hb hby at_154) rfl rfl zk) ?_
      refine own_st (fun zw zk => XS.ifnonnullNo X148.here hx rfl (hb hby at_156) rfl zk) ?_
      refine own_st (fun zw zk => XS.iconst X148.here hx rfl (hb hby at_159) zk) ?_
      refine own_st (fun zw zk => XS.goto X148.here hx rfl (pc0 := 160) (pc' := 164) rfl (hb hby at_160) (by decide) (by decide) zk) ?_
      show own_Go p e below G (T148.setTop (mkF m 164 #[.val (.int p0), .val (.int p1), .val (.int p2), .val (.int p3), .val (.int (2 : Int32)), .val (.int (1 : Int32)), .val (.ref b134), .val (.ref b135), .val (.ref b137), .val (.ref b140), .val (.ref b137), .val .null, .val (.ref b144), .val .null, .val .null] [(.int (1 : Int32))]))
      subst hG
      obtain ⟨fs, hr, hrun, hended, hRW⟩ := Jvm.Stand.leaveW (s := s) X148 hS (by rw [e148]; exact Zk146) (v := some (.int (1 : Int32))) (fun h => by rw [Bd.returns] at h; cases h)
      refine ⟨_, retN X148 hx (t := .boolean) Bd.returns (by simp) (hb hby at_164) hr, _, hrun, hended, _, _, rfl, ?_, hRW.1, hRW.2.1, hRW.2.2.1, hRW.2.2.2.mono (by decide) (by decide)⟩
      show Q0 Z p0 p1 p2 p3 h0 n0 _ T148.heap _
      rw [e148]
      exact ⟨rfl, N148⟩
  · refine own_st (fun zw zk => XS.iloadN X0.here hx rfl (hb hby at_5) rfl zk) ?_
    refine own_st (fun zw zk => XS.iconst X0.here hx rfl (hb hby at_6) zk) ?_
    refine own_st (fun zw zk => XS.iand X0.here hx rfl (hb hby at_7) rfl zk) ?_
    by_cases hc8 : (p3 &&& (4 : Int32)) = (0 : Int32)
    · refine own_st (fun zw zk => XS.ifYes X0.here hx rfl (pc0 := 8) (pc' := 15) rfl (hb hby at_8) rfl ((if0 _ _).trans (teq hc8).1) (by decide) (by decide) zk) ?_
      refine own_st (fun zw zk => XS.iconst X0.here hx rfl (hb hby at_15) zk) ?_
      refine own_st (fun zw zk => XS.istore X0.here hx rfl (hb hby at_16) rfl rfl zk) ?_
      show own_Go p e below G (s₁.setTop (mkF m 18 #[.val (.int p0), .val (.int p1), .val (.int p2), .val (.int p3), .val (.int (3 : Int32)), .val (.int (0 : Int32)), .unset, .unset, .unset, .unset, .unset, .unset, .unset, .unset, .unset] []))
      refine own_st (fun zw zk => XS.iconst X0.here hx rfl (hb hby at_18) zk) ?_
      obtain ⟨T149, h149, k149, X149, e149, E149, A149, B149, st149⟩ := newPE X0 hx hZ (hw _ (List.mem_of_getElem? (i := 0) rfl)) e0 (g := (mkF m 19 #[.val (.int p0), .val (.int p1), .val (.int p2), .val (.int p3), .val (.int (3 : Int32)), .val (.int (0 : Int32)), .unset, .unset, .unset, .unset, .unset, .unset, .unset, .unset, .unset] [(.int (0 : Int32))])) rfl (hb hby at_19) rfl (by decide) (cap := 0) (by decide) (by decide) (by decide) (by decide) (ad := "[B") (by decide)
      obtain ⟨b149, g149⟩ : ∃ z, z = h0.size := ⟨_, rfl⟩
      rw [← g149] at A149 B149 st149
      have G149 : n0 ≤ b149 := Nat.le_trans Z0 (Nat.le_of_eq g149.symm)
      have Z149 : n0 ≤ h149.size := Nat.le_trans Z0 E149.1
      have V149 : own_L Z h149 b149 .byte ([]) := own_L.new A149
      refine own_st (fun zw zk => st149 zw zk) ?_
      refine own_st (fun zw zk => XS.astore X149.here hx rfl (hb hby at_21) rfl rfl rfl zk) ?_
      show own_Go p e below G (T149.setTop (mkF m 23 #[.val (.int p0), .val (.int p1), .val (.int p2), .val (.int p3), .val (.int (3 : Int32)), .val (.int (0 : Int32)), .val (.ref b149), .unset, .unset, .unset, .unset, .unset, .unset, .unset, .unset] []))
      refine own_st (fun zw zk => XS.iconst X149.here hx rfl (hb hby at_23) zk) ?_
      obtain ⟨T150, h150, k150, X150, e150, E150, A150, B150, st150⟩ := newPE X149 hx hZ (hw _ (List.mem_of_getElem? (i := 0) rfl)) e149 (g := (mkF m 24 #[.val (.int p0), .val (.int p1), .val (.int p2), .val (.int p3), .val (.int (3 : Int32)), .val (.int (0 : Int32)), .val (.ref b149), .unset, .unset, .unset, .unset, .unset, .unset, .unset, .unset] [(.int (1 : Int32))])) rfl (hb hby at_24) rfl (by decide) (cap := 1) (by decide) (by decide) (by decide) (by decide) (ad := "[B") (by decide)
      obtain ⟨b150, g150⟩ : ∃ z, z = h149.size := ⟨_, rfl⟩
      rw [← g150] at A150 B150 st150
      have G150 : n0 ≤ b150 := Nat.le_trans Z149 (Nat.le_of_eq g150.symm)
      have ne_b149_b150 : b149 ≠ b150 := Nat.ne_of_lt (Nat.lt_of_lt_of_le V149.lt (Nat.le_of_eq g150.symm))
      have Vb149_150 := V149.ext E150
      have Bb149_150 := B149.ext E150
      have Z150 : n0 ≤ h150.size := Nat.le_trans Z149 E150.1
      have V150 : own_L Z h150 b150 .byte ([(.int (0 : Int32))]) := own_L.new A150
      refine own_st (fun zw zk => st150 zw zk) ?_
      refine own_st (fun zw zk => XS.dup X150.here hx rfl (hb hby at_26) rfl rfl zk) ?_
      refine own_st (fun zw zk => XS.iconst X150.here hx rfl (hb hby at_27) zk) ?_
      refine own_st (fun zw zk => XS.iloadN X150.here hx rfl (hb hby at_28) rfl zk) ?_
      refine own_st (fun zw zk => XS.i2b X150.here hx rfl (hb hby at_29) rfl zk) ?_
      obtain ⟨T151, h151, X151, e151, W151, V151, st151⟩ := own_bst X150 hx hZ e150 V150 (j := (0 : Int32)) (0) (by decide) (by decide) (Nat.le_of_ble_eq_true rfl) (g := (mkF m 30 #[.val (.int p0), .val (.int p1), .val (.int p2), .val (.int p3), .val (.int (3 : Int32)), .val (.int (0 : Int32)), .val (.ref b149), .unset, .unset, .unset, .unset, .unset, .unset, .unset, .unset] [(.int (p0.toInt8.toInt32)), (.int (0 : Int32)), (.ref b150), (.ref b150)])) rfl rfl (hb hby at_30)
      have Vb150_151 : own_L Z h151 b150 .byte ([(.int ((p0.toInt8.toInt32).toInt8.toInt32))]) := V151
      have N151 := Fr.snoc X151 N0 G150
      refine own_st (fun zw zk => st151 zw zk) ?_
      have Vb149_151 := Vb149_150.other W151 ne_b149_b150
      have Bb149_151 := Bb149_150.wr W151
      have Bb150_151 := B150.wr W151
      have Z151 : n0 ≤ h151.size := Nat.le_trans Z150 (Keep.of_wr W151).1
      refine own_st (fun zw zk => XS.astore X151.here hx rfl (hb hby at_31) rfl rfl rfl zk) ?_
      show own_Go p e below G (T151.setTop (mkF m 33 #[.val (.int p0), .val (.int p1), .val (.int p2), .val (.int p3), .val (.int (3 : Int32)), .val (.int (0 : Int32)), .val (.ref b149), .val (.ref b150), .unset, .unset, .unset, .unset, .unset, .unset, .unset] []))
      refine own_st (fun zw zk => XS.iconst X151.here hx rfl (hb hby at_33) zk) ?_
      obtain ⟨T152, h152, k152, X152, e152, E152, A152, B152, st152⟩ := newPE X151 hx hZ (hw _ (List.mem_of_getElem? (i := 0) rfl)) e151 (g := (mkF m 34 #[.val (.int p0), .val (.int p1), .val (.int p2), .val (.int p3), .val (.int (3 : Int32)), .val (.int (0 : Int32)), .val (.ref b149), .val (.ref b150), .unset, .unset, .unset, .unset, .unset, .unset, .unset] [(.int (2 : Int32))])) rfl (hb hby at_34) rfl (by decide) (cap := 2) (by decide) (by decide) (by decide) (by decide) (ad := "[B") (by decide)
      obtain ⟨b152, g152⟩ : ∃ z, z = h151.size := ⟨_, rfl⟩
      rw [← g152] at A152 B152 st152
      have G152 : n0 ≤ b152 := Nat.le_trans Z151 (Nat.le_of_eq g152.symm)
      have ne_b149_b152 : b149 ≠ b152 := Nat.ne_of_lt (Nat.lt_of_lt_of_le Vb149_151.lt (Nat.le_of_eq g152.symm))
      have ne_b150_b152 : b150 ≠ b152 := Nat.ne_of_lt (Nat.lt_of_lt_of_le Bb150_151.lt (Nat.le_of_eq g152.symm))
      have Vb149_152 := Vb149_151.ext E152
      have Bb149_152 := Bb149_151.ext E152
      have Bb150_152 := Bb150_151.ext E152
      have Vb150_152 := Vb150_151.ext E152
      have Z152 : n0 ≤ h152.size := Nat.le_trans Z151 E152.1
      have V152 : own_L Z h152 b152 .byte ([(.int (0 : Int32)), (.int (0 : Int32))]) := own_L.new A152
      refine own_st (fun zw zk => st152 zw zk) ?_
      refine own_st (fun zw zk => XS.dup X152.here hx rfl (hb hby at_36) rfl rfl zk) ?_
      refine own_st (fun zw zk => XS.iconst X152.here hx rfl (hb hby at_37) zk) ?_
      refine own_st (fun zw zk => XS.iloadN X152.here hx rfl (hb hby at_38) rfl zk) ?_
      refine own_st (fun zw zk => XS.i2b X152.here hx rfl (hb hby at_39) rfl zk) ?_
      obtain ⟨T153, h153, X153, e153, W153, V153, st153⟩ := own_bst X152 hx hZ e152 V152 (j := (0 : Int32)) (0) (by decide) (by decide) (Nat.le_of_ble_eq_true rfl) (g := (mkF m 40 #[.val (.int p0), .val (.int p1), .val (.int p2), .val (.int p3), .val (.int (3 : Int32)), .val (.int (0 : Int32)), .val (.ref b149), .val (.ref b150), .unset, .unset, .unset, .unset, .unset, .unset, .unset] [(.int (p0.toInt8.toInt32)), (.int (0 : Int32)), (.ref b152), (.ref b152)])) rfl rfl (hb hby at_40)
      have Vb152_153 : own_L Z h153 b152 .byte ([(.int ((p0.toInt8.toInt32).toInt8.toInt32)), (.int (0 : Int32))]) := V153
      have N153 := Fr.snoc X153 N151 G152
      refine own_st (fun zw zk => st153 zw zk) ?_
      have Vb149_153 := Vb149_152.other W153 ne_b149_b152
      have Bb149_153 := Bb149_152.wr W153
      have Bb150_153 := Bb150_152.wr W153
      have Vb150_153 := Vb150_152.other W153 ne_b150_b152
      have Bb152_153 := B152.wr W153
      have Z153 : n0 ≤ h153.size := Nat.le_trans Z152 (Keep.of_wr W153).1
      refine own_st (fun zw zk => XS.dup X153.here hx rfl (hb hby at_41) rfl rfl zk) ?_
      show own_Go p e below G (T153.setTop (mkF m 42 #[.val (.int p0), .val (.int p1), .val (.int p2), .val (.int p3), .val (.int (3 : Int32)), .val (.int (0 : Int32)), .val (.ref b149), .val (.ref b150), .unset, .unset, .unset, .unset, .unset, .unset, .unset] [(.ref b152), (.ref b152)]))
      refine own_st (fun zw zk => XS.iconst X153.here hx rfl (hb hby at_42) zk) ?_
      refine own_st (fun zw zk => XS.iloadN X153.here hx rfl (hb hby at_43) rfl zk) ?_
      refine own_st (fun zw zk => XS.i2b X153.here hx rfl (hb hby at_44) rfl zk) ?_
      obtain ⟨T154, h154, X154, e154, W154, V154, st154⟩ := own_bst X153 hx hZ e153 Vb152_153 (j := (1 : Int32)) (1) (by decide) (by decide) (Nat.le_of_ble_eq_true rfl) (g := (mkF m 45 #[.val (.int p0), .val (.int p1), .val (.int p2), .val (.int p3), .val (.int (3 : Int32)), .val (.int (0 : Int32)), .val (.ref b149), .val (.ref b150), .unset, .unset, .unset, .unset, .unset, .unset, .unset] [(.int (p1.toInt8.toInt32)), (.int (1 : Int32)), (.ref b152), (.ref b152)])) rfl rfl (hb hby at_45)
      have Vb152_154 : own_L Z h154 b152 .byte ([(.int ((p0.toInt8.toInt32).toInt8.toInt32)), (.int ((p1.toInt8.toInt32).toInt8.toInt32))]) := V154
      have N154 := Fr.snoc X154 N153 G152
      refine own_st (fun zw zk => st154 zw zk) ?_
      have Vb149_154 := Vb149_153.other W154 ne_b149_b152
      have Bb149_154 := Bb149_153.wr W154
      have Bb150_154 := Bb150_153.wr W154
      have Vb150_154 := Vb150_153.other W154 ne_b150_b152
      have Bb152_154 := Bb152_153.wr W154
      have Z154 : n0 ≤ h154.size := Nat.le_trans Z153 (Keep.of_wr W154).1
      refine own_st (fun zw zk => XS.astore X154.here hx rfl (hb hby at_46) rfl rfl rfl zk) ?_
      show own_Go p e below G (T154.setTop (mkF m 48 #[.val (.int p0), .val (.int p1), .val (.int p2), .val (.int p3), .val (.int (3 : Int32)), .val (.int (0 : Int32)), .val (.ref b149), .val (.ref b150), .val (.ref b152), .unset, .unset, .unset, .unset, .unset, .unset] []))
      refine own_st (fun zw zk => XS.iconst X154.here hx rfl (hb hby at_48) zk) ?_
      obtain ⟨T155, h155, k155, X155, e155, E155, A155, B155, st155⟩ := newPE X154 hx hZ (hw _ (List.mem_of_getElem? (i := 0) rfl)) e154 (g := (mkF m 49 #[.val (.int p0), .val (.int p1), .val (.int p2), .val (.int p3), .val (.int (3 : Int32)), .val (.int (0 : Int32)), .val (.ref b149), .val (.ref b150), .val (.ref b152), .unset, .unset, .unset, .unset, .unset, .unset] [(.int (3 : Int32))])) rfl (hb hby at_49) rfl (by decide) (cap := 3) (by decide) (by decide) (by decide) (by decide) (ad := "[B") (by decide)
      obtain ⟨b155, g155⟩ : ∃ z, z = h154.size := ⟨_, rfl⟩
      rw [← g155] at A155 B155 st155
      have G155 : n0 ≤ b155 := Nat.le_trans Z154 (Nat.le_of_eq g155.symm)
      have ne_b149_b155 : b149 ≠ b155 := Nat.ne_of_lt (Nat.lt_of_lt_of_le Vb149_154.lt (Nat.le_of_eq g155.symm))
      have ne_b150_b155 : b150 ≠ b155 := Nat.ne_of_lt (Nat.lt_of_lt_of_le Bb150_154.lt (Nat.le_of_eq g155.symm))
      have ne_b152_b155 : b152 ≠ b155 := Nat.ne_of_lt (Nat.lt_of_lt_of_le Bb152_154.lt (Nat.le_of_eq g155.symm))
      have Vb149_155 := Vb149_154.ext E155
      have Bb149_155 := Bb149_154.ext E155
      have Bb150_155 := Bb150_154.ext E155
      have Vb150_155 := Vb150_154.ext E155
      have Bb152_155 := Bb152_154.ext E155
      have Vb152_155 := Vb152_154.ext E155
      have Z155 : n0 ≤ h155.size := Nat.le_trans Z154 E155.1
      have V155 : own_L Z h155 b155 .byte ([(.int (0 : Int32)), (.int (0 : Int32)), (.int (0 : Int32))]) := own_L.new A155
      refine own_st (fun zw zk => st155 zw zk) ?_
      refine own_st (fun zw zk => XS.dup X155.here hx rfl (hb hby at_51) rfl rfl zk) ?_
      refine own_st (fun zw zk => XS.iconst X155.here hx rfl (hb hby at_52) zk) ?_
      refine own_st (fun zw zk => XS.iloadN X155.here hx rfl (hb hby at_53) rfl zk) ?_
      refine own_st (fun zw zk => XS.i2b X155.here hx rfl (hb hby at_54) rfl zk) ?_
      obtain ⟨T156, h156, X156, e156, W156, V156, st156⟩ := own_bst X155 hx hZ e155 V155 (j := (0 : Int32)) (0) (by decide) (by decide) (Nat.le_of_ble_eq_true rfl) (g := (mkF m 55 #[.val (.int p0), .val (.int p1), .val (.int p2), .val (.int p3), .val (.int (3 : Int32)), .val (.int (0 : Int32)), .val (.ref b149), .val (.ref b150), .val (.ref b152), .unset, .unset, .unset, .unset, .unset, .unset] [(.int (p0.toInt8.toInt32)), (.int (0 : Int32)), (.ref b155), (.ref b155)])) rfl rfl (hb hby at_55)
      have Vb155_156 : own_L Z h156 b155 .byte ([(.int ((p0.toInt8.toInt32).toInt8.toInt32)), (.int (0 : Int32)), (.int (0 : Int32))]) := V156
      have N156 := Fr.snoc X156 N154 G155
      refine own_st (fun zw zk => st156 zw zk) ?_
      have Vb149_156 := Vb149_155.other W156 ne_b149_b155
      have Bb149_156 := Bb149_155.wr W156
      have Bb150_156 := Bb150_155.wr W156
      have Vb150_156 := Vb150_155.other W156 ne_b150_b155
      have Bb152_156 := Bb152_155.wr W156
      have Vb152_156 := Vb152_155.other W156 ne_b152_b155
      have Bb155_156 := B155.wr W156
      have Z156 : n0 ≤ h156.size := Nat.le_trans Z155 (Keep.of_wr W156).1
      refine own_st (fun zw zk => XS.dup X156.here hx rfl (hb hby at_56) rfl rfl zk) ?_
      show own_Go p e below G (T156.setTop (mkF m 57 #[.val (.int p0), .val (.int p1), .val (.int p2), .val (.int p3), .val (.int (3 : Int32)), .val (.int (0 : Int32)), .val (.ref b149), .val (.ref b150), .val (.ref b152), .unset, .unset, .unset, .unset, .unset, .unset] [(.ref b155), (.ref b155)]))
      refine own_st (fun zw zk => XS.iconst X156.here hx rfl (hb hby at_57) zk) ?_
      refine own_st (fun zw zk => XS.iloadN X156.here hx rfl (hb hby at_58) rfl zk) ?_
      refine own_st (fun zw zk => XS.i2b X156.here hx rfl (hb hby at_59) rfl zk) ?_
      obtain ⟨T157, h157, X157, e157, W157, V157, st157⟩ := own_bst X156 hx hZ e156 Vb155_156 (j := (1 : Int32)) (1) (by decide) (by decide) (Nat.le_of_ble_eq_true rfl) (g := (mkF m 60 #[.val (.int p0), .val (.int p1), .val (.int p2), .val (.int p3), .val (.int (3 : Int32)), .val (.int (0 : Int32)), .val (.ref b149), .val (.ref b150), .val (.ref b152), .unset, .unset, .unset, .unset, .unset, .unset] [(.int (p1.toInt8.toInt32)), (.int (1 : Int32)), (.ref b155), (.ref b155)])) rfl rfl (hb hby at_60)
      have Vb155_157 : own_L Z h157 b155 .byte ([(.int ((p0.toInt8.toInt32).toInt8.toInt32)), (.int ((p1.toInt8.toInt32).toInt8.toInt32)), (.int (0 : Int32))]) := V157
      have N157 := Fr.snoc X157 N156 G155
      refine own_st (fun zw zk => st157 zw zk) ?_
      have Vb149_157 := Vb149_156.other W157 ne_b149_b155
      have Bb149_157 := Bb149_156.wr W157
      have Bb150_157 := Bb150_156.wr W157
      have Vb150_157 := Vb150_156.other W157 ne_b150_b155
      have Bb152_157 := Bb152_156.wr W157
      have Vb152_157 := Vb152_156.other W157 ne_b152_b155
      have Bb155_157 := Bb155_156.wr W157
      have Z157 : n0 ≤ h157.size := Nat.le_trans Z156 (Keep.of_wr W157).1
      refine own_st (fun zw zk => XS.dup X157.here hx rfl (hb hby at_61) rfl rfl zk) ?_
      refine own_st (fun zw zk => XS.iconst X157.here hx rfl (hb hby at_62) zk) ?_
      refine own_st (fun zw zk => XS.iloadN X157.here hx rfl (hb hby at_63) rfl zk) ?_
      refine own_st (fun zw zk => XS.i2b X157.here hx rfl (hb hby at_64) rfl zk) ?_
      show own_Go p e below G (T157.setTop (mkF m 65 #[.val (.int p0), .val (.int p1), .val (.int p2), .val (.int p3), .val (.int (3 : Int32)), .val (.int (0 : Int32)), .val (.ref b149), .val (.ref b150), .val (.ref b152), .unset, .unset, .unset, .unset, .unset, .unset] [(.int (p2.toInt8.toInt32)), (.int (2 : Int32)), (.ref b155), (.ref b155)]))
      obtain ⟨T158, h158, X158, e158, W158, V158, st158⟩ := own_bst X157 hx hZ e157 Vb155_157 (j := (2 : Int32)) (2) (by decide) (by decide) (Nat.le_of_ble_eq_true rfl) (g := (mkF m 65 #[.val (.int p0), .val (.int p1), .val (.int p2), .val (.int p3), .val (.int (3 : Int32)), .val (.int (0 : Int32)), .val (.ref b149), .val (.ref b150), .val (.ref b152), .unset, .unset, .unset, .unset, .unset, .unset] [(.int (p2.toInt8.toInt32)), (.int (2 : Int32)), (.ref b155), (.ref b155)])) rfl rfl (hb hby at_65)
      have Vb155_158 : own_L Z h158 b155 .byte ([(.int ((p0.toInt8.toInt32).toInt8.toInt32)), (.int ((p1.toInt8.toInt32).toInt8.toInt32)), (.int ((p2.toInt8.toInt32).toInt8.toInt32))]) := V158
      have N158 := Fr.snoc X158 N157 G155
      refine own_st (fun zw zk => st158 zw zk) ?_
      have Vb149_158 := Vb149_157.other W158 ne_b149_b155
      have Bb149_158 := Bb149_157.wr W158
      have Bb150_158 := Bb150_157.wr W158
      have Vb150_158 := Vb150_157.other W158 ne_b150_b155
      have Bb152_158 := Bb152_157.wr W158
      have Vb152_158 := Vb152_157.other W158 ne_b152_b155
      have Bb155_158 := Bb155_157.wr W158
      have Z158 : n0 ≤ h158.size := Nat.le_trans Z157 (Keep.of_wr W158).1
      refine own_st (fun zw zk => XS.astore X158.here hx rfl (hb hby at_66) rfl rfl rfl zk) ?_
      show own_Go p e below G (T158.setTop (mkF m 68 #[.val (.int p0), .val (.int p1), .val (.int p2), .val (.int p3), .val (.int (3 : Int32)), .val (.int (0 : Int32)), .val (.ref b149), .val (.ref b150), .val (.ref b152), .val (.ref b155), .unset, .unset, .unset, .unset, .unset] []))
      refine own_st (fun zw zk => XS.iload X158.here hx rfl (hb hby at_68) rfl zk) ?_
      refine own_st (fun zw zk => XS.ifYes X158.here hx rfl (pc0 := 70) (pc' := 78) rfl (hb hby at_70) rfl ((if0 _ _).trans (feq (by decide : ¬ ((3 : Int32) = (0 : Int32)))).2) (by decide) (by decide) zk) ?_
      refine own_st (fun zw zk => XS.iload X158.here hx rfl (hb hby at_78) rfl zk) ?_
      refine own_st (fun zw zk => XS.iconst X158.here hx rfl (hb hby at_80) zk) ?_
      refine own_st (fun zw zk => XS.icmpYes X158.here hx rfl (pc0 := 81) (pc' := 89) rfl (hb hby at_81) rfl (feq (by decide : ¬ ((3 : Int32) = (1 : Int32)))).2 (by decide) (by decide) zk) ?_
      refine own_st (fun zw zk => XS.iload X158.here hx rfl (hb hby at_89) rfl zk) ?_
      refine own_st (fun zw zk => XS.iconst X158.here hx rfl (hb hby at_91) zk) ?_
      refine own_st (fun zw zk => XS.icmpYes X158.here hx rfl (pc0 := 92) (pc' := 100) rfl (hb hby at_92) rfl (feq (by decide : ¬ ((3 : Int32) = (2 : Int32)))).2 (by decide) (by decide) zk) ?_
      show own_Go p e below G (T158.setTop (mkF m 100 #[.val (.int p0), .val (.int p1), .val (.int p2), .val (.int p3), .val (.int (3 : Int32)), .val (.int (0 : Int32)), .val (.ref b149), .val (.ref b150), .val (.ref b152), .val (.ref b155), .unset, .unset, .unset, .unset, .unset] []))
      refine own_st (fun zw zk => XS.aload X158.here hx rfl (hb hby at_100) rfl rfl zk) ?_
      refine own_st (fun zw zk => XS.astore X158.here hx rfl (hb hby at_102) rfl rfl rfl zk) ?_
      show own_Go p e below G (T158.setTop (mkF m 104 #[.val (.int p0), .val (.int p1), .val (.int p2), .val (.int p3), .val (.int (3 : Int32)), .val (.int (0 : Int32)), .val (.ref b149), .val (.ref b150), .val (.ref b152), .val (.ref b155), .val (.ref b155), .unset, .unset, .unset, .unset] []))
      refine own_st (fun zw zk => XS.iload X158.here hx rfl (hb hby at_104) rfl zk) ?_
      refine own_st (fun zw zk => XS.ifYes X158.here hx rfl (pc0 := 106) (pc' := 113) rfl (hb hby at_106) rfl ((if0 _ _).trans (teq (by decide : (0 : Int32) = (0 : Int32))).1) (by decide) (by decide) zk) ?_
      refine own_st (fun zw zk => XS.aload X158.here hx rfl (hb hby at_113) rfl rfl zk) ?_
      refine own_st (fun zw zk => XS.astore X158.here hx rfl (hb hby at_115) rfl rfl rfl zk) ?_
      show own_Go p e below G (T158.setTop (mkF m 117 #[.val (.int p0), .val (.int p1), .val (.int p2), .val (.int p3), .val (.int (3 : Int32)), .val (.int (0 : Int32)), .val (.ref b149), .val (.ref b150), .val (.ref b152), .val (.ref b155), .val (.ref b155), .val (.ref b155), .unset, .unset, .unset] []))
      obtain ⟨T159, h159, X159, e159, E159, A159, D159, -, st159⟩ := newO X158 hx hZ hown (hw _ (List.mem_of_getElem? (i := 1) rfl)) (hw _ (List.mem_of_getElem? (i := 2) rfl)) (hw _ (List.mem_of_getElem? (i := 3) rfl)) e158 (g := (mkF m 117 #[.val (.int p0), .val (.int p1), .val (.int p2), .val (.int p3), .val (.int (3 : Int32)), .val (.int (0 : Int32)), .val (.ref b149), .val (.ref b150), .val (.ref b152), .val (.ref b155), .val (.ref b155), .val (.ref b155), .unset, .unset, .unset] [])) rfl (hb hby at_117) (by decide) (by decide)
      obtain ⟨b159, g159⟩ : ∃ z, z = h158.size := ⟨_, rfl⟩
      rw [← g159] at A159 D159 st159
      have G159 : n0 ≤ b159 := Nat.le_trans Z158 (Nat.le_of_eq g159.symm)
      have ne_b149_b159 : b149 ≠ b159 := Nat.ne_of_lt (Nat.lt_of_lt_of_le Vb149_158.lt (Nat.le_of_eq g159.symm))
      have ne_b150_b159 : b150 ≠ b159 := Nat.ne_of_lt (Nat.lt_of_lt_of_le Bb150_158.lt (Nat.le_of_eq g159.symm))
      have ne_b152_b159 : b152 ≠ b159 := Nat.ne_of_lt (Nat.lt_of_lt_of_le Bb152_158.lt (Nat.le_of_eq g159.symm))
      have ne_b155_b159 : b155 ≠ b159 := Nat.ne_of_lt (Nat.lt_of_lt_of_le Bb155_158.lt (Nat.le_of_eq g159.symm))
      have Vb149_159 := Vb149_158.ext E159
      have Bb149_159 := Bb149_158.ext E159
      have Bb150_159 := Bb150_158.ext E159
      have Vb150_159 := Vb150_158.ext E159
      have Bb152_159 := Bb152_158.ext E159
      have Vb152_159 := Vb152_158.ext E159
      have Bb155_159 := Bb155_158.ext E159
      have Vb155_159 := Vb155_158.ext E159
      have Z159 : n0 ≤ h159.size := Nat.le_trans Z158 E159.1
      have Fb159oid : Fld Z h159 b159 "com/example/attestrum/attestrum/schemes/der/AlgorithmIdentifier" "oid" "Ljava/lang/String;" .null := D159 (Or.inr (hw _ (List.mem_of_getElem? (i := 18) rfl))) (ty := (.object "java/lang/String")) (by decide)
      have Fb159parameters : Fld Z h159 b159 "com/example/attestrum/attestrum/schemes/der/AlgorithmIdentifier" "parameters" "[B" .null := D159 (Or.inr (hw _ (List.mem_of_getElem? (i := 29) rfl))) (ty := (.array .byte)) (by decide)
      refine own_st (fun zw zk => st159 zw zk) ?_
      refine own_st (fun zw zk => XS.dup X159.here hx rfl (hb hby at_120) rfl rfl zk) ?_
      have wS160 : ∀ z ∈ Bundle.stringAtoms, z.before a0 Z = true := by
        intro z hz
        simp only [Bundle.stringAtoms, List.mem_cons, List.not_mem_nil, or_false] at hz
        rcases hz with rfl | rfl | rfl | rfl | rfl | rfl | rfl
        · exact (hw _ (List.mem_of_getElem? (i := 5) rfl))
        · exact (hw _ (List.mem_of_getElem? (i := 6) rfl))
        · exact (hw _ (List.mem_of_getElem? (i := 0) rfl))
        · exact (hw _ (List.mem_of_getElem? (i := 7) rfl))
        · exact (hw _ (List.mem_of_getElem? (i := 8) rfl))
        · exact (hw _ (List.mem_of_getElem? (i := 9) rfl))
        · exact (hw _ (List.mem_of_getElem? (i := 10) rfl))
      obtain ⟨b160, T160, h160, k160, X160, e160, E160, hS, Zk160, hZ', hown', st160⟩ := ldcS (s := s) (vm0 := s.vm) X159 hx hZ hown (hw _ (List.mem_of_getElem? (i := 4) rfl)) wS160 e159 ((State.WarmedH.refl s).since 0) (Nat.zero_le _) (g := (mkF m 121 #[.val (.int p0), .val (.int p1), .val (.int p2), .val (.int p3), .val (.int (3 : Int32)), .val (.int (0 : Int32)), .val (.ref b149), .val (.ref b150), .val (.ref b152), .val (.ref b155), .val (.ref b155), .val (.ref b155), .unset, .unset, .unset] [(.ref b159), (.ref b159)])) rfl (hb hby at_121) (n := 12) (by decide) (by decide) (by decide) (by decide)
      refine own_st (fun zw zk => st160 zw zk) ?_
      have Vb149_160 := Vb149_159.ext E160
      have Bb149_160 := Bb149_159.ext E160
      have Bb150_160 := Bb150_159.ext E160
      have Vb150_160 := Vb150_159.ext E160
      have Bb152_160 := Bb152_159.ext E160
      have Vb152_160 := Vb152_159.ext E160
      have Bb155_160 := Bb155_159.ext E160
      have Vb155_160 := Vb155_159.ext E160
      have Fb159oid_160 := Fb159oid.ext E160
      have Fb159parameters_160 := Fb159parameters.ext E160
      have Ab159_160 := A159.ext E160
      have Z160 : n0 ≤ h160.size := Nat.le_trans Z159 E160.1
      refine own_st (fun zw zk => XS.aload X160.here hx rfl (hb hby at_123) rfl rfl zk) ?_
      obtain ⟨_, _, ⟨T161, L161, k161, n161⟩, -, X161, ⟨Lc161, hQ161, l161, y161, z161⟩, st161⟩ := X160.specialBack hx (y := (⟨"com/example/attestrum/attestrum/schemes/der/AlgorithmIdentifier", "<init>", "(Ljava/lang/String;[B)V"⟩ : MethodName)) rfl hown' (mvT hZ' (hw _ (List.mem_of_getElem? (i := 11) rfl))) (mvT hZ' (hw _ (List.mem_of_getElem? (i := 12) rfl))) (mvT hZ' (hw _ (List.mem_of_getElem? (i := 13) rfl))) (by decide) (backOf (W := 1) (rm_i3 l Z a0 hw [] b159 b160 b155 ((p0.toInt8.toInt32).toInt8.toInt32) ((p1.toInt8.toInt32).toInt8.toInt32) ((p2.toInt8.toInt32).toInt8.toInt32) h160 n0 Z160 (Ab159_160) (Fb159oid_160) (Fb159parameters_160) (Vb155_160) (Bb155_160) (G159) ((Ne.symm ne_b155_b159)) ((own_fitc (own_fitc (own_fitc own_fit0))))) hZ' (hw _ (List.mem_of_getElem? (i := 13) rfl)) (hw _ (List.mem_of_getElem? (i := 3) rfl)) (by decide) (by decide)) (g := (mkF m 125 #[.val (.int p0), .val (.int p1), .val (.int p2), .val (.int p3), .val (.int (3 : Int32)), .val (.int (0 : Int32)), .val (.ref b149), .val (.ref b150), .val (.ref b152), .val (.ref b155), .val (.ref b155), .val (.ref b155), .unset, .unset, .unset] [(.ref b155), (.ref b160), (.ref b159), (.ref b159)])) rfl (by rw [hml]; rfl) (Steps.refl _) (a := b159) (argsL := [(.ref b160), (.ref b155)]) (rest := [(.ref b159)]) (lenOf pd_0 rfl) rfl (by show 2 * 0 + _ ≤ _; exact Nat.le_of_eq rfl) (hb hby at_125) (fun _ _ => ⟨rfl, e160, (by decide : 7 + 1 ≤ _), (by decide : 24 + 3 ≤ _)⟩)
      dsimp only [Pt.U, Pt.locs, Pt.cells, Pt.slots] at X161 l161 y161 z161 st161 hQ161
      subst l161 y161 z161
      obtain ⟨rfl, N161q, tt161, sztt161, K161, O161_0, O161_1, O161_2, O161_3⟩ := hQ161
      have ne_b149_tt161 : b149 ≠ tt161 := Nat.ne_of_lt (Nat.lt_of_lt_of_le Vb149_160.lt sztt161)
      have ne_b150_tt161 : b150 ≠ tt161 := Nat.ne_of_lt (Nat.lt_of_lt_of_le Bb150_160.lt sztt161)
      have ne_b152_tt161 : b152 ≠ tt161 := Nat.ne_of_lt (Nat.lt_of_lt_of_le Bb152_160.lt sztt161)
      have ne_b155_tt161 : b155 ≠ tt161 := Nat.ne_of_lt (Nat.lt_of_lt_of_le Bb155_160.lt sztt161)
      have ne_b159_tt161 : b159 ≠ tt161 := Nat.ne_of_lt (Nat.lt_of_lt_of_le Fb159oid_160.lt sztt161)
      have Gtt161 : n0 ≤ tt161 := Nat.le_trans Z160 sztt161
      have Zk161 := Nat.le_trans Zk160 K161.1
      have Vb149_161 := Vb149_160.keep K161 (ninS ne_b149_b159 nin0)
      have Bb149_161 := Bb149_160.keep K161
      have Bb150_161 := Bb150_160.keep K161
      have Vb150_161 := Vb150_160.keep K161 (ninS ne_b150_b159 nin0)
      have Bb152_161 := Bb152_160.keep K161
      have Vb152_161 := Vb152_160.keep K161 (ninS ne_b152_b159 nin0)
      have Bb155_161 := Bb155_160.keep K161
      have Vb155_161 := Vb155_160.keep K161 (ninS ne_b155_b159 nin0)
      have Ab159_161 := Ab159_160.keep K161
      have Z161 : n0 ≤ T161.heap.size := Nat.le_trans Z160 K161.1
      have N161 := Fr.app N158 N161q
      refine own_jp st161 ?_
      refine own_st (fun zw zk => XS.astore X161.here hx rfl (hb hby at_128) rfl rfl rfl zk) ?_
      show own_Go p e below G (T161.setTop (mkF m 130 #[.val (.int p0), .val (.int p1), .val (.int p2), .val (.int p3), .val (.int (3 : Int32)), .val (.int (0 : Int32)), .val (.ref b149), .val (.ref b150), .val (.ref b152), .val (.ref b155), .val (.ref b155), .val (.ref b155), .val (.ref b159), .unset, .unset] []))
      refine own_st (fun zw zk => XS.aload X161.here hx rfl (hb hby at_130) rfl rfl zk) ?_
      refine own_st (fun zw zk => XS.ifnonnullYes X161.here hx rfl (pc0 := 132) (pc' := 165) rfl (hb hby at_132) rfl (by decide) (by decide) zk) ?_
      refine own_st (fun zw zk => XS.aload X161.here hx rfl (hb hby at_165) rfl rfl zk) ?_
      refine own_st (fun zw zk => XS.iload X161.here hx rfl (hb hby at_167) rfl zk) ?_
      refine own_st (fun zw zk => XS.iloadN X161.here hx rfl (hb hby at_169) rfl zk) ?_
      refine own_st (fun zw zk => XS.iloadN X161.here hx rfl (hb hby at_170) rfl zk) ?_
      refine own_st (fun zw zk => XS.iloadN X161.here hx rfl (hb hby at_171) rfl zk) ?_
      obtain ⟨_, _, ⟨T162, L162, k162, n162⟩, -, X162, ⟨Lc162, hQ162, l162, y162, z162⟩, st162⟩ := Jvm.LawKit.callS X161 hx (y := (⟨"com/example/attestrum/attestrum/schemes/der/AlgorithmIdentifierParametersPinLaw", "spoil", "([BIIII)V"⟩ : MethodName)) hown' (mvT hZ' (hw _ (List.mem_of_getElem? (i := 30) rfl))) (mvT hZ' (hw _ (List.mem_of_getElem? (i := 31) rfl))) (mvT hZ' (hw _ (List.mem_of_getElem? (i := 32) rfl))) (mvT hZ' (hw _ (List.mem_of_getElem? (i := 33) rfl))) (by decide) (backOf (W := 0) (rm_s3 l Z a0 hw [] b155 (3 : Int32) p0 p1 p2 ((p0.toInt8.toInt32).toInt8.toInt32) ((p1.toInt8.toInt32).toInt8.toInt32) ((p2.toInt8.toInt32).toInt8.toInt32) T161.heap n0 Z161 (Vb155_161) (G155) (rfl)) hZ' (hw _ (List.mem_of_getElem? (i := 33) rfl)) (hw _ (List.mem_of_getElem? (i := 32) rfl)) (by decide) (by decide)) (g := (mkF m 172 #[.val (.int p0), .val (.int p1), .val (.int p2), .val (.int p3), .val (.int (3 : Int32)), .val (.int (0 : Int32)), .val (.ref b149), .val (.ref b150), .val (.ref b152), .val (.ref b155), .val (.ref b155), .val (.ref b155), .val (.ref b159), .unset, .unset] [(.int p2), (.int p1), (.int p0), (.int (3 : Int32)), (.ref b155)])) rfl (by rw [hml]; rfl) (argsL := [(.ref b155), (.int (3 : Int32)), (.int p0), (.int p1), (.int p2)]) (rest := []) (lenOf pd_1 rfl) rfl (by show 2 * 0 + _ ≤ _; exact Nat.le_of_eq rfl) (hb hby at_172) (fun _ _ => ⟨rfl, rfl, (by decide : 8 + 0 ≤ _), (by decide : 27 + 0 ≤ _)⟩)
      dsimp only [Pt.U, Pt.locs, Pt.cells, Pt.slots] at X162 l162 y162 z162 st162 hQ162
      subst l162 y162 z162
      obtain ⟨rfl, N162q, K162, O162_0⟩ := hQ162
      have Zk162 := Nat.le_trans Zk161 K162.1
      have Vb149_162 := Vb149_161.keep K162 (ninS ne_b149_b155 nin0)
      have Bb149_162 := Bb149_161.keep K162
      have Bb150_162 := Bb150_161.keep K162
      have Vb150_162 := Vb150_161.keep K162 (ninS ne_b150_b155 nin0)
      have Bb152_162 := Bb152_161.keep K162
      have Vb152_162 := Vb152_161.keep K162 (ninS ne_b152_b155 nin0)
      have Bb155_162 := Bb155_161.keep K162
      have Ob159E_162 := O161_0.keep K162
      have Ob159parameters_162 := O161_1.keep K162 (ninS (Ne.symm ne_b155_b159) nin0)
      have Ott161L_162 := O161_2.keep K162 (ninS (Ne.symm ne_b155_tt161) nin0)
      have Ott161E_162 := O161_3.keep K162
      have Z162 : n0 ≤ T162.heap.size := Nat.le_trans Z161 K162.1
      have N162 := Fr.app N161 N162q
      refine own_st (fun zw zk => st162 zw zk) ?_
      show own_Go p e below G (T162.setTop (mkF m 175 #[.val (.int p0), .val (.int p1), .val (.int p2), .val (.int p3), .val (.int (3 : Int32)), .val (.int (0 : Int32)), .val (.ref b149), .val (.ref b150), .val (.ref b152), .val (.ref b155), .val (.ref b155), .val (.ref b155), .val (.ref b159), .unset, .unset] []))
      refine own_st (fun zw zk => XS.aload X162.here hx rfl (hb hby at_175) rfl rfl zk) ?_
      obtain ⟨cq163, kq163, q163a, q163b, q163c⟩ := isOf hZ' rfl Ob159E_162
      obtain ⟨_, _, ⟨T163, L163, k163, n163⟩, -, X163, ⟨Lc163, hQ163, l163, y163, z163⟩, st163⟩ := X162.virtualBack hx (y := (⟨"com/example/attestrum/attestrum/schemes/der/AlgorithmIdentifier", "parameters", "()[B"⟩ : MethodName)) (z := (⟨"com/example/attestrum/attestrum/schemes/der/AlgorithmIdentifier", "parameters", "()[B"⟩ : MethodName)) hown' (mvT hZ' (hw _ (List.mem_of_getElem? (i := 34) rfl))) (mvT hZ' (hw _ (List.mem_of_getElem? (i := 35) rfl))) (notFace_of_selects (args := #[]) (mvT hZ' (hw _ (List.mem_of_getElem? (i := 37) rfl)))) (mvT hZ' (hw _ (List.mem_of_getElem? (i := 37) rfl))) (mvT hZ' (hw _ (List.mem_of_getElem? (i := 36) rfl))) (by decide) (backOf (W := 0) (rm_p3 l Z a0 hw [] b159 tt161 ((p0.toInt8.toInt32).toInt8.toInt32) ((p1.toInt8.toInt32).toInt8.toInt32) ((p2.toInt8.toInt32).toInt8.toInt32) T162.heap n0 Z162 (Ob159parameters_162) (Ott161L_162) (Ott161E_162) ((own_fitc (own_fitc (own_fitc own_fit0))))) hZ' (hw _ (List.mem_of_getElem? (i := 38) rfl)) (hw _ (List.mem_of_getElem? (i := 3) rfl)) (by decide) (by decide)) q163a q163c (g := (mkF m 177 #[.val (.int p0), .val (.int p1), .val (.int p2), .val (.int p3), .val (.int (3 : Int32)), .val (.int (0 : Int32)), .val (.ref b149), .val (.ref b150), .val (.ref b152), .val (.ref b155), .val (.ref b155), .val (.ref b155), .val (.ref b159), .unset, .unset] [(.ref b159)])) rfl (by rw [hml]; rfl) (Steps.refl _) (argsL := []) (rest := []) (lenOf pd_2 rfl) rfl (by show 2 * 0 + _ ≤ _; exact Nat.le_of_eq rfl) (hb hby at_177) (fun _ _ => ⟨rfl, rfl, (by decide : 8 + 1 ≤ _), (by decide : 27 + 3 ≤ _)⟩)
      dsimp only [Pt.U, Pt.locs, Pt.cells, Pt.slots] at X163 l163 y163 z163 st163 hQ163
      subst l163 y163 z163
      obtain ⟨b163, rfl, N163q, sz163, K163, R163_0, R163_1⟩ := hQ163
      have ne_b149_b163 : b149 ≠ b163 := Nat.ne_of_lt (Nat.lt_of_lt_of_le Vb149_162.lt sz163)
      have ne_b150_b163 : b150 ≠ b163 := Nat.ne_of_lt (Nat.lt_of_lt_of_le Bb150_162.lt sz163)
      have ne_b152_b163 : b152 ≠ b163 := Nat.ne_of_lt (Nat.lt_of_lt_of_le Bb152_162.lt sz163)
      have ne_b155_b163 : b155 ≠ b163 := Nat.ne_of_lt (Nat.lt_of_lt_of_le Bb155_162.lt sz163)
      have ne_b159_b163 : b159 ≠ b163 := Nat.ne_of_lt (Nat.lt_of_lt_of_le Ob159E_162.lt sz163)
      have ne_tt161_b163 : tt161 ≠ b163 := Nat.ne_of_lt (Nat.lt_of_lt_of_le Ott161L_162.lt sz163)
      have G163 : n0 ≤ b163 := Nat.le_trans Z162 sz163
      have Zk163 := Nat.le_trans Zk162 K163.1
      have Vb149_163 := Vb149_162.keep K163 nin0
      have Bb149_163 := Bb149_162.keep K163
      have Bb150_163 := Bb150_162.keep K163
      have Vb150_163 := Vb150_162.keep K163 nin0
      have Bb152_163 := Bb152_162.keep K163
      have Vb152_163 := Vb152_162.keep K163 nin0
      have Bb155_163 := Bb155_162.keep K163
      have Ob159E_163 := Ob159E_162.keep K163
      have Ob159parameters_163 := Ob159parameters_162.keep K163 nin0
      have Ott161L_163 := Ott161L_162.keep K163 nin0
      have Ott161E_163 := Ott161E_162.keep K163
      have Ob155L_163 := O162_0.keep K163 nin0
      have Z163 : n0 ≤ T163.heap.size := Nat.le_trans Z162 K163.1
      have N163 := Fr.app N162 N163q
      refine own_jp st163 ?_
      refine own_st (fun zw zk => XS.astore X163.here hx rfl (hb hby at_180) rfl rfl rfl zk) ?_
      show own_Go p e below G (T163.setTop (mkF m 182 #[.val (.int p0), .val (.int p1), .val (.int p2), .val (.int p3), .val (.int (3 : Int32)), .val (.int (0 : Int32)), .val (.ref b149), .val (.ref b150), .val (.ref b152), .val (.ref b155), .val (.ref b155), .val (.ref b155), .val (.ref b159), .val (.ref b163), .unset] []))
      refine own_st (fun zw zk => XS.aload X163.here hx rfl (hb hby at_182) rfl rfl zk) ?_
      refine own_st (fun zw zk => XS.aload X163.here hx rfl (hb hby at_184) rfl rfl zk) ?_
      refine own_st (fun zw zk => Jvm.RoadKit.acmp (g := (mkF m 186 #[.val (.int p0), .val (.int p1), .val (.int p2), .val (.int p3), .val (.int (3 : Int32)), .val (.int (0 : Int32)), .val (.ref b149), .val (.ref b150), .val (.ref b152), .val (.ref b155), .val (.ref b155), .val (.ref b155), .val (.ref b159), .val (.ref b163), .unset] [(.ref b155), (.ref b163)])) X163 hx rfl rfl rfl (pc0 := 186) (pc' := 191) (same := false) rfl (hb hby at_186) rfl (decide_eq_false fun q => (Ne.symm ne_b155_b163) (Value.ref.inj q)) (by decide) (by decide) zk) ?_
      refine own_st (fun zw zk => XS.aload X163.here hx rfl (hb hby at_191) rfl rfl zk) ?_
      refine own_st (fun zw zk => XS.iload X163.here hx rfl (hb hby at_193) rfl zk) ?_
      refine own_st (fun zw zk => XS.iloadN X163.here hx rfl (hb hby at_195) rfl zk) ?_
      refine own_st (fun zw zk => XS.iloadN X163.here hx rfl (hb hby at_196) rfl zk) ?_
      refine own_st (fun zw zk => XS.iloadN X163.here hx rfl (hb hby at_197) rfl zk) ?_
      show own_Go p e below G (T163.setTop (mkF m 198 #[.val (.int p0), .val (.int p1), .val (.int p2), .val (.int p3), .val (.int (3 : Int32)), .val (.int (0 : Int32)), .val (.ref b149), .val (.ref b150), .val (.ref b152), .val (.ref b155), .val (.ref b155), .val (.ref b155), .val (.ref b159), .val (.ref b163), .unset] [(.int p2), (.int p1), (.int p0), (.int (3 : Int32)), (.ref b163)]))
      obtain ⟨_, _, ⟨T164, L164, k164, n164⟩, -, X164, ⟨Lc164, hQ164, l164, y164, z164⟩, st164⟩ := Jvm.LawKit.callS X163 hx (y := (⟨"com/example/attestrum/attestrum/schemes/der/AlgorithmIdentifierParametersPinLaw", "matches", "([BIIII)Z"⟩ : MethodName)) hown' (mvT hZ' (hw _ (List.mem_of_getElem? (i := 39) rfl))) (mvT hZ' (hw _ (List.mem_of_getElem? (i := 40) rfl))) (mvT hZ' (hw _ (List.mem_of_getElem? (i := 32) rfl))) (mvT hZ' (hw _ (List.mem_of_getElem? (i := 41) rfl))) (by decide) (backOf (W := 0) (rm_m3 l Z a0 hw [] b163 (3 : Int32) p0 p1 p2 ((p0.toInt8.toInt32).toInt8.toInt32) ((p1.toInt8.toInt32).toInt8.toInt32) ((p2.toInt8.toInt32).toInt8.toInt32) T163.heap n0 Z163 (R163_0) (rfl) (own_i2b _) (own_i2b _) (own_i2b _)) hZ' (hw _ (List.mem_of_getElem? (i := 41) rfl)) (hw _ (List.mem_of_getElem? (i := 32) rfl)) (by decide) (by decide)) (g := (mkF m 198 #[.val (.int p0), .val (.int p1), .val (.int p2), .val (.int p3), .val (.int (3 : Int32)), .val (.int (0 : Int32)), .val (.ref b149), .val (.ref b150), .val (.ref b152), .val (.ref b155), .val (.ref b155), .val (.ref b155), .val (.ref b159), .val (.ref b163), .unset] [(.int p2), (.int p1), (.int p0), (.int (3 : Int32)), (.ref b163)])) rfl (by rw [hml]; rfl) (argsL := [(.ref b163), (.int (3 : Int32)), (.int p0), (.int p1), (.int p2)]) (rest := []) (lenOf pd_3 rfl) rfl (by show 2 * 0 + _ ≤ _; exact Nat.le_of_eq rfl) (hb hby at_198) (fun _ _ => ⟨rfl, rfl, (by decide : 9 + 0 ≤ _), (by decide : 30 + 0 ≤ _)⟩)
      dsimp only [Pt.U, Pt.locs, Pt.cells, Pt.slots] at X164 l164 y164 z164 st164 hQ164
      subst l164 y164 z164
      obtain ⟨rfl, N164q, e164⟩ := hQ164
      have N164 := Fr.app N163 N164q
      refine own_st (fun zw zk => st164 zw zk) ?_
      refine own_st (fun zw zk => XS.ifYes X164.here hx rfl (pc0 := 201) (pc' := 206) rfl (hb hby at_201) rfl ((if0 _ _).trans (feq (by decide : ¬ ((1 : Int32) = (0 : Int32)))).2) (by decide) (by decide) zk) ?_
      refine own_st (fun zw zk => XS.aload X164.here hx rfl (hb hby at_206) rfl rfl zk) ?_
      refine own_st (fun zw zk => XS.iload X164.here hx rfl (hb hby at_208) rfl zk) ?_
      refine own_st (fun zw zk => XS.iloadN X164.here hx rfl (hb hby at_210) rfl zk) ?_
      refine own_st (fun zw zk => XS.iloadN X164.here hx rfl (hb hby at_211) rfl zk) ?_
      refine own_st (fun zw zk => XS.iloadN X164.here hx rfl (hb hby at_212) rfl zk) ?_
      obtain ⟨_, _, ⟨T165, L165, k165, n165⟩, -, X165, ⟨Lc165, hQ165, l165, y165, z165⟩, st165⟩ := Jvm.LawKit.callS X164 hx (y := (⟨"com/example/attestrum/attestrum/schemes/der/AlgorithmIdentifierParametersPinLaw", "spoil", "([BIIII)V"⟩ : MethodName)) hown' (mvT hZ' (hw _ (List.mem_of_getElem? (i := 30) rfl))) (mvT hZ' (hw _ (List.mem_of_getElem? (i := 31) rfl))) (mvT hZ' (hw _ (List.mem_of_getElem? (i := 32) rfl))) (mvT hZ' (hw _ (List.mem_of_getElem? (i := 33) rfl))) (by decide) (backOf (W := 0) (rm_s3 l Z a0 hw [] b163 (3 : Int32) p0 p1 p2 ((p0.toInt8.toInt32).toInt8.toInt32) ((p1.toInt8.toInt32).toInt8.toInt32) ((p2.toInt8.toInt32).toInt8.toInt32) T163.heap n0 Z163 (R163_0) (G163) (rfl)) hZ' (hw _ (List.mem_of_getElem? (i := 33) rfl)) (hw _ (List.mem_of_getElem? (i := 32) rfl)) (by decide) (by decide)) (g := (mkF m 213 #[.val (.int p0), .val (.int p1), .val (.int p2), .val (.int p3), .val (.int (3 : Int32)), .val (.int (0 : Int32)), .val (.ref b149), .val (.ref b150), .val (.ref b152), .val (.ref b155), .val (.ref b155), .val (.ref b155), .val (.ref b159), .val (.ref b163), .unset] [(.int p2), (.int p1), (.int p0), (.int (3 : Int32)), (.ref b163)])) rfl (by rw [hml]; rfl) (argsL := [(.ref b163), (.int (3 : Int32)), (.int p0), (.int p1), (.int p2)]) (rest := []) (lenOf pd_1 rfl) rfl (by show 2 * 0 + _ ≤ _; exact Nat.le_of_eq rfl) (hb hby at_213) (fun _ _ => ⟨rfl, e164, (by decide : 9 + 0 ≤ _), (by decide : 30 + 0 ≤ _)⟩)
      dsimp only [Pt.U, Pt.locs, Pt.cells, Pt.slots] at X165 l165 y165 z165 st165 hQ165
      subst l165 y165 z165
      obtain ⟨rfl, N165q, K165, O165_0⟩ := hQ165
      have Zk165 := Nat.le_trans Zk163 K165.1
      have Vb149_165 := Vb149_163.keep K165 (ninS ne_b149_b163 nin0)
      have Bb149_165 := Bb149_163.keep K165
      have Bb150_165 := Bb150_163.keep K165
      have Vb150_165 := Vb150_163.keep K165 (ninS ne_b150_b163 nin0)
      have Bb152_165 := Bb152_163.keep K165
      have Vb152_165 := Vb152_163.keep K165 (ninS ne_b152_b163 nin0)
      have Bb155_165 := Bb155_163.keep K165
      have Ob159E_165 := Ob159E_163.keep K165
      have Ob159parameters_165 := Ob159parameters_163.keep K165 (ninS ne_b159_b163 nin0)
      have Ott161L_165 := Ott161L_163.keep K165 (ninS ne_tt161_b163 nin0)
      have Ott161E_165 := Ott161E_163.keep K165
      have Ob155L_165 := Ob155L_163.keep K165 (ninS ne_b155_b163 nin0)
      have Rb163E_165 := R163_1.keep K165
      have Z165 : n0 ≤ T165.heap.size := Nat.le_trans Z163 K165.1
      have N165 := Fr.app N164 N165q
      refine own_st (fun zw zk => st165 zw zk) ?_
      show own_Go p e below G (T165.setTop (mkF m 216 #[.val (.int p0), .val (.int p1), .val (.int p2), .val (.int p3), .val (.int (3 : Int32)), .val (.int (0 : Int32)), .val (.ref b149), .val (.ref b150), .val (.ref b152), .val (.ref b155), .val (.ref b155), .val (.ref b155), .val (.ref b159), .val (.ref b163), .unset] []))
      refine own_st (fun zw zk => XS.aload X165.here hx rfl (hb hby at_216) rfl rfl zk) ?_
      obtain ⟨cq166, kq166, q166a, q166b, q166c⟩ := isOf hZ' rfl Ob159E_165
      obtain ⟨_, _, ⟨T166, L166, k166, n166⟩, -, X166, ⟨Lc166, hQ166, l166, y166, z166⟩, st166⟩ := X165.virtualBack hx (y := (⟨"com/example/attestrum/attestrum/schemes/der/AlgorithmIdentifier", "parameters", "()[B"⟩ : MethodName)) (z := (⟨"com/example/attestrum/attestrum/schemes/der/AlgorithmIdentifier", "parameters", "()[B"⟩ : MethodName)) hown' (mvT hZ' (hw _ (List.mem_of_getElem? (i := 34) rfl))) (mvT hZ' (hw _ (List.mem_of_getElem? (i := 35) rfl))) (notFace_of_selects (args := #[]) (mvT hZ' (hw _ (List.mem_of_getElem? (i := 37) rfl)))) (mvT hZ' (hw _ (List.mem_of_getElem? (i := 37) rfl))) (mvT hZ' (hw _ (List.mem_of_getElem? (i := 36) rfl))) (by decide) (backOf (W := 0) (rm_p3 l Z a0 hw [] b159 tt161 ((p0.toInt8.toInt32).toInt8.toInt32) ((p1.toInt8.toInt32).toInt8.toInt32) ((p2.toInt8.toInt32).toInt8.toInt32) T165.heap n0 Z165 (Ob159parameters_165) (Ott161L_165) (Ott161E_165) ((own_fitc (own_fitc (own_fitc own_fit0))))) hZ' (hw _ (List.mem_of_getElem? (i := 38) rfl)) (hw _ (List.mem_of_getElem? (i := 3) rfl)) (by decide) (by decide)) q166a q166c (g := (mkF m 218 #[.val (.int p0), .val (.int p1), .val (.int p2), .val (.int p3), .val (.int (3 : Int32)), .val (.int (0 : Int32)), .val (.ref b149), .val (.ref b150), .val (.ref b152), .val (.ref b155), .val (.ref b155), .val (.ref b155), .val (.ref b159), .val (.ref b163), .unset] [(.ref b159)])) rfl (by rw [hml]; rfl) (Steps.refl _) (argsL := []) (rest := []) (lenOf pd_2 rfl) rfl (by show 2 * 0 + _ ≤ _; exact Nat.le_of_eq rfl) (hb hby at_218) (fun _ _ => ⟨rfl, rfl, (by decide : 9 + 1 ≤ _), (by decide : 30 + 3 ≤ _)⟩)
      dsimp only [Pt.U, Pt.locs, Pt.cells, Pt.slots] at X166 l166 y166 z166 st166 hQ166
      subst l166 y166 z166
      obtain ⟨b166, rfl, N166q, sz166, K166, R166_0, R166_1⟩ := hQ166
      have ne_b149_b166 : b149 ≠ b166 := Nat.ne_of_lt (Nat.lt_of_lt_of_le Vb149_165.lt sz166)
      have ne_b150_b166 : b150 ≠ b166 := Nat.ne_of_lt (Nat.lt_of_lt_of_le Bb150_165.lt sz166)
      have ne_b152_b166 : b152 ≠ b166 := Nat.ne_of_lt (Nat.lt_of_lt_of_le Bb152_165.lt sz166)
      have ne_b155_b166 : b155 ≠ b166 := Nat.ne_of_lt (Nat.lt_of_lt_of_le Bb155_165.lt sz166)
      have ne_b159_b166 : b159 ≠ b166 := Nat.ne_of_lt (Nat.lt_of_lt_of_le Ob159E_165.lt sz166)
      have ne_tt161_b166 : tt161 ≠ b166 := Nat.ne_of_lt (Nat.lt_of_lt_of_le Ott161L_165.lt sz166)
      have ne_b163_b166 : b163 ≠ b166 := Nat.ne_of_lt (Nat.lt_of_lt_of_le Rb163E_165.lt sz166)
      have G166 : n0 ≤ b166 := Nat.le_trans Z165 sz166
      have Zk166 := Nat.le_trans Zk165 K166.1
      have Vb149_166 := Vb149_165.keep K166 nin0
      have Bb149_166 := Bb149_165.keep K166
      have Bb150_166 := Bb150_165.keep K166
      have Vb150_166 := Vb150_165.keep K166 nin0
      have Bb152_166 := Bb152_165.keep K166
      have Vb152_166 := Vb152_165.keep K166 nin0
      have Bb155_166 := Bb155_165.keep K166
      have Ob159E_166 := Ob159E_165.keep K166
      have Ob159parameters_166 := Ob159parameters_165.keep K166 nin0
      have Ott161L_166 := Ott161L_165.keep K166 nin0
      have Ott161E_166 := Ott161E_165.keep K166
      have Ob155L_166 := Ob155L_165.keep K166 nin0
      have Rb163E_166 := Rb163E_165.keep K166
      have Ob163L_166 := O165_0.keep K166 nin0
      have Z166 : n0 ≤ T166.heap.size := Nat.le_trans Z165 K166.1
      have N166 := Fr.app N165 N166q
      refine own_jp st166 ?_
      refine own_st (fun zw zk => XS.astore X166.here hx rfl (hb hby at_221) rfl rfl rfl zk) ?_
      show own_Go p e below G (T166.setTop (mkF m 223 #[.val (.int p0), .val (.int p1), .val (.int p2), .val (.int p3), .val (.int (3 : Int32)), .val (.int (0 : Int32)), .val (.ref b149), .val (.ref b150), .val (.ref b152), .val (.ref b155), .val (.ref b155), .val (.ref b155), .val (.ref b159), .val (.ref b163), .val (.ref b166)] []))
      refine own_st (fun zw zk => XS.aload X166.here hx rfl (hb hby at_223) rfl rfl zk) ?_
      refine own_st (fun zw zk => XS.aload X166.here hx rfl (hb hby at_225) rfl rfl zk) ?_
      refine own_st (fun zw zk => Jvm.RoadKit.acmp (g := (mkF m 227 #[.val (.int p0), .val (.int p1), .val (.int p2), .val (.int p3), .val (.int (3 : Int32)), .val (.int (0 : Int32)), .val (.ref b149), .val (.ref b150), .val (.ref b152), .val (.ref b155), .val (.ref b155), .val (.ref b155), .val (.ref b159), .val (.ref b163), .val (.ref b166)] [(.ref b163), (.ref b166)])) X166 hx rfl rfl rfl (pc0 := 227) (pc' := 230) (same := false) rfl (hb hby at_227) rfl (decide_eq_false fun q => (Ne.symm ne_b163_b166) (Value.ref.inj q)) (by decide) (by decide) zk) ?_
      refine own_st (fun zw zk => XS.aload X166.here hx rfl (hb hby at_230) rfl rfl zk) ?_
      refine own_st (fun zw zk => XS.aload X166.here hx rfl (hb hby at_232) rfl rfl zk) ?_
      refine own_st (fun zw zk => Jvm.RoadKit.acmp (g := (mkF m 234 #[.val (.int p0), .val (.int p1), .val (.int p2), .val (.int p3), .val (.int (3 : Int32)), .val (.int (0 : Int32)), .val (.ref b149), .val (.ref b150), .val (.ref b152), .val (.ref b155), .val (.ref b155), .val (.ref b155), .val (.ref b159), .val (.ref b163), .val (.ref b166)] [(.ref b155), (.ref b166)])) X166 hx rfl rfl rfl (pc0 := 234) (pc' := 239) (same := false) rfl (hb hby at_234) rfl (decide_eq_false fun q => (Ne.symm ne_b155_b166) (Value.ref.inj q)) (by decide) (by decide) zk) ?_
      refine own_st (fun zw zk => XS.aload X166.here hx rfl (hb hby at_239) rfl rfl zk) ?_
      refine own_st (fun zw zk => XS.iload X166.here hx rfl (hb hby at_241) rfl zk) ?_
      show own_Go p e below G (T166.setTop (mkF m 243 #[.val (.int p0), .val (.int p1), .val (.int p2), .val (.int p3), .val (.int (3 : Int32)), .val (.int (0 : Int32)), .val (.ref b149), .val (.ref b150), .val (.ref b152), .val (.ref b155), .val (.ref b155), .val (.ref b155), .val (.ref b159), .val (.ref b163), .val (.ref b166)] [(.int (3 : Int32)), (.ref b166)]))
      refine own_st (fun zw zk => XS.iloadN X166.here hx rfl (hb hby at_243) rfl zk) ?_
      refine own_st (fun zw zk => XS.iloadN X166.here hx rfl (hb hby at_244) rfl zk) ?_
      refine own_st (fun zw zk => XS.iloadN X166.here hx rfl (hb hby at_245) rfl zk) ?_
      obtain ⟨_, _, ⟨T167, L167, k167, n167⟩, -, X167, ⟨Lc167, hQ167, l167, y167, z167⟩, st167⟩ := Jvm.LawKit.callS X166 hx (y := (⟨"com/example/attestrum/attestrum/schemes/der/AlgorithmIdentifierParametersPinLaw", "matches", "([BIIII)Z"⟩ : MethodName)) hown' (mvT hZ' (hw _ (List.mem_of_getElem? (i := 39) rfl))) (mvT hZ' (hw _ (List.mem_of_getElem? (i := 40) rfl))) (mvT hZ' (hw _ (List.mem_of_getElem? (i := 32) rfl))) (mvT hZ' (hw _ (List.mem_of_getElem? (i := 41) rfl))) (by decide) (backOf (W := 0) (rm_m3 l Z a0 hw [] b166 (3 : Int32) p0 p1 p2 ((p0.toInt8.toInt32).toInt8.toInt32) ((p1.toInt8.toInt32).toInt8.toInt32) ((p2.toInt8.toInt32).toInt8.toInt32) T166.heap n0 Z166 (R166_0) (rfl) (own_i2b _) (own_i2b _) (own_i2b _)) hZ' (hw _ (List.mem_of_getElem? (i := 41) rfl)) (hw _ (List.mem_of_getElem? (i := 32) rfl)) (by decide) (by decide)) (g := (mkF m 246 #[.val (.int p0), .val (.int p1), .val (.int p2), .val (.int p3), .val (.int (3 : Int32)), .val (.int (0 : Int32)), .val (.ref b149), .val (.ref b150), .val (.ref b152), .val (.ref b155), .val (.ref b155), .val (.ref b155), .val (.ref b159), .val (.ref b163), .val (.ref b166)] [(.int p2), (.int p1), (.int p0), (.int (3 : Int32)), (.ref b166)])) rfl (by rw [hml]; rfl) (argsL := [(.ref b166), (.int (3 : Int32)), (.int p0), (.int p1), (.int p2)]) (rest := []) (lenOf pd_3 rfl) rfl (by show 2 * 0 + _ ≤ _; exact Nat.le_of_eq rfl) (hb hby at_246) (fun _ _ => ⟨rfl, rfl, (by decide : 10 + 0 ≤ _), (by decide : 33 + 0 ≤ _)⟩)
      dsimp only [Pt.U, Pt.locs, Pt.cells, Pt.slots] at X167 l167 y167 z167 st167 hQ167
      subst l167 y167 z167
      obtain ⟨rfl, N167q, e167⟩ := hQ167
      have N167 := Fr.app N166 N167q
      refine own_st (fun zw zk => st167 zw zk) ?_
      subst hG
      obtain ⟨fs, hr, hrun, hended, hRW⟩ := Jvm.Stand.leaveW (s := s) X167 hS (by rw [e167]; exact Zk166) (v := some (.int (1 : Int32))) (fun h => by rw [Bd.returns] at h; cases h)
      refine ⟨_, retN X167 hx (t := .boolean) Bd.returns (by simp) (hb hby at_249) hr, _, hrun, hended, _, _, rfl, ?_, hRW.1, hRW.2.1, hRW.2.2.1, hRW.2.2.2.mono (by decide) (by decide)⟩
      show Q0 Z p0 p1 p2 p3 h0 n0 _ T167.heap _
      rw [e167]
      exact ⟨rfl, N167⟩
    · refine own_st (fun zw zk => XS.ifNo X0.here hx rfl (hb hby at_8) rfl ((if0 _ _).trans (feq hc8).1) zk) ?_
      refine own_st (fun zw zk => XS.iconst X0.here hx rfl (hb hby at_11) zk) ?_
      refine own_st (fun zw zk => XS.goto X0.here hx rfl (pc0 := 12) (pc' := 16) rfl (hb hby at_12) (by decide) (by decide) zk) ?_
      show own_Go p e below G (s₁.setTop (mkF m 16 #[.val (.int p0), .val (.int p1), .val (.int p2), .val (.int p3), .val (.int (3 : Int32)), .unset, .unset, .unset, .unset, .unset, .unset, .unset, .unset, .unset, .unset] [(.int (1 : Int32))]))
      refine own_st (fun zw zk => XS.istore X0.here hx rfl (hb hby at_16) rfl rfl zk) ?_
      show own_Go p e below G (s₁.setTop (mkF m 18 #[.val (.int p0), .val (.int p1), .val (.int p2), .val (.int p3), .val (.int (3 : Int32)), .val (.int (1 : Int32)), .unset, .unset, .unset, .unset, .unset, .unset, .unset, .unset, .unset] []))
      refine own_st (fun zw zk => XS.iconst X0.here hx rfl (hb hby at_18) zk) ?_
      obtain ⟨T168, h168, k168, X168, e168, E168, A168, B168, st168⟩ := newPE X0 hx hZ (hw _ (List.mem_of_getElem? (i := 0) rfl)) e0 (g := (mkF m 19 #[.val (.int p0), .val (.int p1), .val (.int p2), .val (.int p3), .val (.int (3 : Int32)), .val (.int (1 : Int32)), .unset, .unset, .unset, .unset, .unset, .unset, .unset, .unset, .unset] [(.int (0 : Int32))])) rfl (hb hby at_19) rfl (by decide) (cap := 0) (by decide) (by decide) (by decide) (by decide) (ad := "[B") (by decide)
      obtain ⟨b168, g168⟩ : ∃ z, z = h0.size := ⟨_, rfl⟩
      rw [← g168] at A168 B168 st168
      have G168 : n0 ≤ b168 := Nat.le_trans Z0 (Nat.le_of_eq g168.symm)
      have Z168 : n0 ≤ h168.size := Nat.le_trans Z0 E168.1
      have V168 : own_L Z h168 b168 .byte ([]) := own_L.new A168
      refine own_st (fun zw zk => st168 zw zk) ?_
      refine own_st (fun zw zk => XS.astore X168.here hx rfl (hb hby at_21) rfl rfl rfl zk) ?_
      show own_Go p e below G (T168.setTop (mkF m 23 #[.val (.int p0), .val (.int p1), .val (.int p2), .val (.int p3), .val (.int (3 : Int32)), .val (.int (1 : Int32)), .val (.ref b168), .unset, .unset, .unset, .unset, .unset, .unset, .unset, .unset] []))
      refine own_st (fun zw zk => XS.iconst X168.here hx rfl (hb hby at_23) zk) ?_
      obtain ⟨T169, h169, k169, X169, e169, E169, A169, B169, st169⟩ := newPE X168 hx hZ (hw _ (List.mem_of_getElem? (i := 0) rfl)) e168 (g := (mkF m 24 #[.val (.int p0), .val (.int p1), .val (.int p2), .val (.int p3), .val (.int (3 : Int32)), .val (.int (1 : Int32)), .val (.ref b168), .unset, .unset, .unset, .unset, .unset, .unset, .unset, .unset] [(.int (1 : Int32))])) rfl (hb hby at_24) rfl (by decide) (cap := 1) (by decide) (by decide) (by decide) (by decide) (ad := "[B") (by decide)
      obtain ⟨b169, g169⟩ : ∃ z, z = h168.size := ⟨_, rfl⟩
      rw [← g169] at A169 B169 st169
      have G169 : n0 ≤ b169 := Nat.le_trans Z168 (Nat.le_of_eq g169.symm)
      have ne_b168_b169 : b168 ≠ b169 := Nat.ne_of_lt (Nat.lt_of_lt_of_le V168.lt (Nat.le_of_eq g169.symm))
      have Vb168_169 := V168.ext E169
      have Bb168_169 := B168.ext E169
      have Z169 : n0 ≤ h169.size := Nat.le_trans Z168 E169.1
      have V169 : own_L Z h169 b169 .byte ([(.int (0 : Int32))]) := own_L.new A169
      refine own_st (fun zw zk => st169 zw zk) ?_
      refine own_st (fun zw zk => XS.dup X169.here hx rfl (hb hby at_26) rfl rfl zk) ?_
      refine own_st (fun zw zk => XS.iconst X169.here hx rfl (hb hby at_27) zk) ?_
      refine own_st (fun zw zk => XS.iloadN X169.here hx rfl (hb hby at_28) rfl zk) ?_
      refine own_st (fun zw zk => XS.i2b X169.here hx rfl (hb hby at_29) rfl zk) ?_
      obtain ⟨T170, h170, X170, e170, W170, V170, st170⟩ := own_bst X169 hx hZ e169 V169 (j := (0 : Int32)) (0) (by decide) (by decide) (Nat.le_of_ble_eq_true rfl) (g := (mkF m 30 #[.val (.int p0), .val (.int p1), .val (.int p2), .val (.int p3), .val (.int (3 : Int32)), .val (.int (1 : Int32)), .val (.ref b168), .unset, .unset, .unset, .unset, .unset, .unset, .unset, .unset] [(.int (p0.toInt8.toInt32)), (.int (0 : Int32)), (.ref b169), (.ref b169)])) rfl rfl (hb hby at_30)
      have Vb169_170 : own_L Z h170 b169 .byte ([(.int ((p0.toInt8.toInt32).toInt8.toInt32))]) := V170
      have N170 := Fr.snoc X170 N0 G169
      refine own_st (fun zw zk => st170 zw zk) ?_
      have Vb168_170 := Vb168_169.other W170 ne_b168_b169
      have Bb168_170 := Bb168_169.wr W170
      have Bb169_170 := B169.wr W170
      have Z170 : n0 ≤ h170.size := Nat.le_trans Z169 (Keep.of_wr W170).1
      refine own_st (fun zw zk => XS.astore X170.here hx rfl (hb hby at_31) rfl rfl rfl zk) ?_
      show own_Go p e below G (T170.setTop (mkF m 33 #[.val (.int p0), .val (.int p1), .val (.int p2), .val (.int p3), .val (.int (3 : Int32)), .val (.int (1 : Int32)), .val (.ref b168), .val (.ref b169), .unset, .unset, .unset, .unset, .unset, .unset, .unset] []))
      refine own_st (fun zw zk => XS.iconst X170.here hx rfl (hb hby at_33) zk) ?_
      obtain ⟨T171, h171, k171, X171, e171, E171, A171, B171, st171⟩ := newPE X170 hx hZ (hw _ (List.mem_of_getElem? (i := 0) rfl)) e170 (g := (mkF m 34 #[.val (.int p0), .val (.int p1), .val (.int p2), .val (.int p3), .val (.int (3 : Int32)), .val (.int (1 : Int32)), .val (.ref b168), .val (.ref b169), .unset, .unset, .unset, .unset, .unset, .unset, .unset] [(.int (2 : Int32))])) rfl (hb hby at_34) rfl (by decide) (cap := 2) (by decide) (by decide) (by decide) (by decide) (ad := "[B") (by decide)
      obtain ⟨b171, g171⟩ : ∃ z, z = h170.size := ⟨_, rfl⟩
      rw [← g171] at A171 B171 st171
      have G171 : n0 ≤ b171 := Nat.le_trans Z170 (Nat.le_of_eq g171.symm)
      have ne_b168_b171 : b168 ≠ b171 := Nat.ne_of_lt (Nat.lt_of_lt_of_le Vb168_170.lt (Nat.le_of_eq g171.symm))
      have ne_b169_b171 : b169 ≠ b171 := Nat.ne_of_lt (Nat.lt_of_lt_of_le Bb169_170.lt (Nat.le_of_eq g171.symm))
      have Vb168_171 := Vb168_170.ext E171
      have Bb168_171 := Bb168_170.ext E171
      have Bb169_171 := Bb169_170.ext E171
      have Vb169_171 := Vb169_170.ext E171
      have Z171 : n0 ≤ h171.size := Nat.le_trans Z170 E171.1
      have V171 : own_L Z h171 b171 .byte ([(.int (0 : Int32)), (.int (0 : Int32))]) := own_L.new A171
      refine own_st (fun zw zk => st171 zw zk) ?_
      refine own_st (fun zw zk => XS.dup X171.here hx rfl (hb hby at_36) rfl rfl zk) ?_
      refine own_st (fun zw zk => XS.iconst X171.here hx rfl (hb hby at_37) zk) ?_
      refine own_st (fun zw zk => XS.iloadN X171.here hx rfl (hb hby at_38) rfl zk) ?_
      refine own_st (fun zw zk => XS.i2b X171.here hx rfl (hb hby at_39) rfl zk) ?_
      obtain ⟨T172, h172, X172, e172, W172, V172, st172⟩ := own_bst X171 hx hZ e171 V171 (j := (0 : Int32)) (0) (by decide) (by decide) (Nat.le_of_ble_eq_true rfl) (g := (mkF m 40 #[.val (.int p0), .val (.int p1), .val (.int p2), .val (.int p3), .val (.int (3 : Int32)), .val (.int (1 : Int32)), .val (.ref b168), .val (.ref b169), .unset, .unset, .unset, .unset, .unset, .unset, .unset] [(.int (p0.toInt8.toInt32)), (.int (0 : Int32)), (.ref b171), (.ref b171)])) rfl rfl (hb hby at_40)
      have Vb171_172 : own_L Z h172 b171 .byte ([(.int ((p0.toInt8.toInt32).toInt8.toInt32)), (.int (0 : Int32))]) := V172
      have N172 := Fr.snoc X172 N170 G171
      refine own_st (fun zw zk => st172 zw zk) ?_
      have Vb168_172 := Vb168_171.other W172 ne_b168_b171
      have Bb168_172 := Bb168_171.wr W172
      have Bb169_172 := Bb169_171.wr W172
      have Vb169_172 := Vb169_171.other W172 ne_b169_b171
      have Bb171_172 := B171.wr W172
      have Z172 : n0 ≤ h172.size := Nat.le_trans Z171 (Keep.of_wr W172).1
      refine own_st (fun zw zk => XS.dup X172.here hx rfl (hb hby at_41) rfl rfl zk) ?_
      show own_Go p e below G (T172.setTop (mkF m 42 #[.val (.int p0), .val (.int p1), .val (.int p2), .val (.int p3), .val (.int (3 : Int32)), .val (.int (1 : Int32)), .val (.ref b168), .val (.ref b169), .unset, .unset, .unset, .unset, .unset, .unset, .unset] [(.ref b171), (.ref b171)]))
      refine own_st (fun zw zk => XS.iconst X172.here hx rfl (hb hby at_42) zk) ?_
      refine own_st (fun zw zk => XS.iloadN X172.here hx rfl (hb hby at_43) rfl zk) ?_
      refine own_st (fun zw zk => XS.i2b X172.here hx rfl (hb hby at_44) rfl zk) ?_
      obtain ⟨T173, h173, X173, e173, W173, V173, st173⟩ := own_bst X172 hx hZ e172 Vb171_172 (j := (1 : Int32)) (1) (by decide) (by decide) (Nat.le_of_ble_eq_true rfl) (g := (mkF m 45 #[.val (.int p0), .val (.int p1), .val (.int p2), .val (.int p3), .val (.int (3 : Int32)), .val (.int (1 : Int32)), .val (.ref b168), .val (.ref b169), .unset, .unset, .unset, .unset, .unset, .unset, .unset] [(.int (p1.toInt8.toInt32)), (.int (1 : Int32)), (.ref b171), (.ref b171)])) rfl rfl (hb hby at_45)
      have Vb171_173 : own_L Z h173 b171 .byte ([(.int ((p0.toInt8.toInt32).toInt8.toInt32)), (.int ((p1.toInt8.toInt32).toInt8.toInt32))]) := V173
      have N173 := Fr.snoc X173 N172 G171
      refine own_st (fun zw zk => st173 zw zk) ?_
      have Vb168_173 := Vb168_172.other W173 ne_b168_b171
      have Bb168_173 := Bb168_172.wr W173
      have Bb169_173 := Bb169_172.wr W173
      have Vb169_173 := Vb169_172.other W173 ne_b169_b171
      have Bb171_173 := Bb171_172.wr W173
      have Z173 : n0 ≤ h173.size := Nat.le_trans Z172 (Keep.of_wr W173).1
      refine own_st (fun zw zk => XS.astore X173.here hx rfl (hb hby at_46) rfl rfl rfl zk) ?_
      show own_Go p e below G (T173.setTop (mkF m 48 #[.val (.int p0), .val (.int p1), .val (.int p2), .val (.int p3), .val (.int (3 : Int32)), .val (.int (1 : Int32)), .val (.ref b168), .val (.ref b169), .val (.ref b171), .unset, .unset, .unset, .unset, .unset, .unset] []))
      refine own_st (fun zw zk => XS.iconst X173.here hx rfl (hb hby at_48) zk) ?_
      obtain ⟨T174, h174, k174, X174, e174, E174, A174, B174, st174⟩ := newPE X173 hx hZ (hw _ (List.mem_of_getElem? (i := 0) rfl)) e173 (g := (mkF m 49 #[.val (.int p0), .val (.int p1), .val (.int p2), .val (.int p3), .val (.int (3 : Int32)), .val (.int (1 : Int32)), .val (.ref b168), .val (.ref b169), .val (.ref b171), .unset, .unset, .unset, .unset, .unset, .unset] [(.int (3 : Int32))])) rfl (hb hby at_49) rfl (by decide) (cap := 3) (by decide) (by decide) (by decide) (by decide) (ad := "[B") (by decide)
      obtain ⟨b174, g174⟩ : ∃ z, z = h173.size := ⟨_, rfl⟩
      rw [← g174] at A174 B174 st174
      have G174 : n0 ≤ b174 := Nat.le_trans Z173 (Nat.le_of_eq g174.symm)
      have ne_b168_b174 : b168 ≠ b174 := Nat.ne_of_lt (Nat.lt_of_lt_of_le Vb168_173.lt (Nat.le_of_eq g174.symm))
      have ne_b169_b174 : b169 ≠ b174 := Nat.ne_of_lt (Nat.lt_of_lt_of_le Bb169_173.lt (Nat.le_of_eq g174.symm))
      have ne_b171_b174 : b171 ≠ b174 := Nat.ne_of_lt (Nat.lt_of_lt_of_le Bb171_173.lt (Nat.le_of_eq g174.symm))
      have Vb168_174 := Vb168_173.ext E174
      have Bb168_174 := Bb168_173.ext E174
      have Bb169_174 := Bb169_173.ext E174
      have Vb169_174 := Vb169_173.ext E174
      have Bb171_174 := Bb171_173.ext E174
      have Vb171_174 := Vb171_173.ext E174
      have Z174 : n0 ≤ h174.size := Nat.le_trans Z173 E174.1
      have V174 : own_L Z h174 b174 .byte ([(.int (0 : Int32)), (.int (0 : Int32)), (.int (0 : Int32))]) := own_L.new A174
      refine own_st (fun zw zk => st174 zw zk) ?_
      refine own_st (fun zw zk => XS.dup X174.here hx rfl (hb hby at_51) rfl rfl zk) ?_
      refine own_st (fun zw zk => XS.iconst X174.here hx rfl (hb hby at_52) zk) ?_
      refine own_st (fun zw zk => XS.iloadN X174.here hx rfl (hb hby at_53) rfl zk) ?_
      refine own_st (fun zw zk => XS.i2b X174.here hx rfl (hb hby at_54) rfl zk) ?_
      obtain ⟨T175, h175, X175, e175, W175, V175, st175⟩ := own_bst X174 hx hZ e174 V174 (j := (0 : Int32)) (0) (by decide) (by decide) (Nat.le_of_ble_eq_true rfl) (g := (mkF m 55 #[.val (.int p0), .val (.int p1), .val (.int p2), .val (.int p3), .val (.int (3 : Int32)), .val (.int (1 : Int32)), .val (.ref b168), .val (.ref b169), .val (.ref b171), .unset, .unset, .unset, .unset, .unset, .unset] [(.int (p0.toInt8.toInt32)), (.int (0 : Int32)), (.ref b174), (.ref b174)])) rfl rfl (hb hby at_55)
      have Vb174_175 : own_L Z h175 b174 .byte ([(.int ((p0.toInt8.toInt32).toInt8.toInt32)), (.int (0 : Int32)), (.int (0 : Int32))]) := V175
      have N175 := Fr.snoc X175 N173 G174
      refine own_st (fun zw zk => st175 zw zk) ?_
      have Vb168_175 := Vb168_174.other W175 ne_b168_b174
      have Bb168_175 := Bb168_174.wr W175
      have Bb169_175 := Bb169_174.wr W175
      have Vb169_175 := Vb169_174.other W175 ne_b169_b174
      have Bb171_175 := Bb171_174.wr W175
      have Vb171_175 := Vb171_174.other W175 ne_b171_b174
      have Bb174_175 := B174.wr W175
      have Z175 : n0 ≤ h175.size := Nat.le_trans Z174 (Keep.of_wr W175).1
      refine own_st (fun zw zk => XS.dup X175.here hx rfl (hb hby at_56) rfl rfl zk) ?_
      show own_Go p e below G (T175.setTop (mkF m 57 #[.val (.int p0), .val (.int p1), .val (.int p2), .val (.int p3), .val (.int (3 : Int32)), .val (.int (1 : Int32)), .val (.ref b168), .val (.ref b169), .val (.ref b171), .unset, .unset, .unset, .unset, .unset, .unset] [(.ref b174), (.ref b174)]))
      refine own_st (fun zw zk => XS.iconst X175.here hx rfl (hb hby at_57) zk) ?_
      refine own_st (fun zw zk => XS.iloadN X175.here hx rfl (hb hby at_58) rfl zk) ?_
      refine own_st (fun zw zk => XS.i2b X175.here hx rfl (hb hby at_59) rfl zk) ?_
      obtain ⟨T176, h176, X176, e176, W176, V176, st176⟩ := own_bst X175 hx hZ e175 Vb174_175 (j := (1 : Int32)) (1) (by decide) (by decide) (Nat.le_of_ble_eq_true rfl) (g := (mkF m 60 #[.val (.int p0), .val (.int p1), .val (.int p2), .val (.int p3), .val (.int (3 : Int32)), .val (.int (1 : Int32)), .val (.ref b168), .val (.ref b169), .val (.ref b171), .unset, .unset, .unset, .unset, .unset, .unset] [(.int (p1.toInt8.toInt32)), (.int (1 : Int32)), (.ref b174), (.ref b174)])) rfl rfl (hb hby at_60)
      have Vb174_176 : own_L Z h176 b174 .byte ([(.int ((p0.toInt8.toInt32).toInt8.toInt32)), (.int ((p1.toInt8.toInt32).toInt8.toInt32)), (.int (0 : Int32))]) := V176
      have N176 := Fr.snoc X176 N175 G174
      refine own_st (fun zw zk => st176 zw zk) ?_
      have Vb168_176 := Vb168_175.other W176 ne_b168_b174
      have Bb168_176 := Bb168_175.wr W176
      have Bb169_176 := Bb169_175.wr W176
      have Vb169_176 := Vb169_175.other W176 ne_b169_b174
      have Bb171_176 := Bb171_175.wr W176
      have Vb171_176 := Vb171_175.other W176 ne_b171_b174
      have Bb174_176 := Bb174_175.wr W176
      have Z176 : n0 ≤ h176.size := Nat.le_trans Z175 (Keep.of_wr W176).1
      refine own_st (fun zw zk => XS.dup X176.here hx rfl (hb hby at_61) rfl rfl zk) ?_
      refine own_st (fun zw zk => XS.iconst X176.here hx rfl (hb hby at_62) zk) ?_
      refine own_st (fun zw zk => XS.iloadN X176.here hx rfl (hb hby at_63) rfl zk) ?_
      refine own_st (fun zw zk => XS.i2b X176.here hx rfl (hb hby at_64) rfl zk) ?_
      show own_Go p e below G (T176.setTop (mkF m 65 #[.val (.int p0), .val (.int p1), .val (.int p2), .val (.int p3), .val (.int (3 : Int32)), .val (.int (1 : Int32)), .val (.ref b168), .val (.ref b169), .val (.ref b171), .unset, .unset, .unset, .unset, .unset, .unset] [(.int (p2.toInt8.toInt32)), (.int (2 : Int32)), (.ref b174), (.ref b174)]))
      obtain ⟨T177, h177, X177, e177, W177, V177, st177⟩ := own_bst X176 hx hZ e176 Vb174_176 (j := (2 : Int32)) (2) (by decide) (by decide) (Nat.le_of_ble_eq_true rfl) (g := (mkF m 65 #[.val (.int p0), .val (.int p1), .val (.int p2), .val (.int p3), .val (.int (3 : Int32)), .val (.int (1 : Int32)), .val (.ref b168), .val (.ref b169), .val (.ref b171), .unset, .unset, .unset, .unset, .unset, .unset] [(.int (p2.toInt8.toInt32)), (.int (2 : Int32)), (.ref b174), (.ref b174)])) rfl rfl (hb hby at_65)
      have Vb174_177 : own_L Z h177 b174 .byte ([(.int ((p0.toInt8.toInt32).toInt8.toInt32)), (.int ((p1.toInt8.toInt32).toInt8.toInt32)), (.int ((p2.toInt8.toInt32).toInt8.toInt32))]) := V177
      have N177 := Fr.snoc X177 N176 G174
      refine own_st (fun zw zk => st177 zw zk) ?_
      have Vb168_177 := Vb168_176.other W177 ne_b168_b174
      have Bb168_177 := Bb168_176.wr W177
      have Bb169_177 := Bb169_176.wr W177
      have Vb169_177 := Vb169_176.other W177 ne_b169_b174
      have Bb171_177 := Bb171_176.wr W177
      have Vb171_177 := Vb171_176.other W177 ne_b171_b174
      have Bb174_177 := Bb174_176.wr W177
      have Z177 : n0 ≤ h177.size := Nat.le_trans Z176 (Keep.of_wr W177).1
      refine own_st (fun zw zk => XS.astore X177.here hx rfl (hb hby at_66) rfl rfl rfl zk) ?_
      show own_Go p e below G (T177.setTop (mkF m 68 #[.val (.int p0), .val (.int p1), .val (.int p2), .val (.int p3), .val (.int (3 : Int32)), .val (.int (1 : Int32)), .val (.ref b168), .val (.ref b169), .val (.ref b171), .val (.ref b174), .unset, .unset, .unset, .unset, .unset] []))
      refine own_st (fun zw zk => XS.iload X177.here hx rfl (hb hby at_68) rfl zk) ?_
      refine own_st (fun zw zk => XS.ifYes X177.here hx rfl (pc0 := 70) (pc' := 78) rfl (hb hby at_70) rfl ((if0 _ _).trans (feq (by decide : ¬ ((3 : Int32) = (0 : Int32)))).2) (by decide) (by decide) zk) ?_
      refine own_st (fun zw zk => XS.iload X177.here hx rfl (hb hby at_78) rfl zk) ?_
      refine own_st (fun zw zk => XS.iconst X177.here hx rfl (hb hby at_80) zk) ?_
      refine own_st (fun zw zk => XS.icmpYes X177.here hx rfl (pc0 := 81) (pc' := 89) rfl (hb hby at_81) rfl (feq (by decide : ¬ ((3 : Int32) = (1 : Int32)))).2 (by decide) (by decide) zk) ?_
      refine own_st (fun zw zk => XS.iload X177.here hx rfl (hb hby at_89) rfl zk) ?_
      refine own_st (fun zw zk => XS.iconst X177.here hx rfl (hb hby at_91) zk) ?_
      refine own_st (fun zw zk => XS.icmpYes X177.here hx rfl (pc0 := 92) (pc' := 100) rfl (hb hby at_92) rfl (feq (by decide : ¬ ((3 : Int32) = (2 : Int32)))).2 (by decide) (by decide) zk) ?_
      show own_Go p e below G (T177.setTop (mkF m 100 #[.val (.int p0), .val (.int p1), .val (.int p2), .val (.int p3), .val (.int (3 : Int32)), .val (.int (1 : Int32)), .val (.ref b168), .val (.ref b169), .val (.ref b171), .val (.ref b174), .unset, .unset, .unset, .unset, .unset] []))
      refine own_st (fun zw zk => XS.aload X177.here hx rfl (hb hby at_100) rfl rfl zk) ?_
      refine own_st (fun zw zk => XS.astore X177.here hx rfl (hb hby at_102) rfl rfl rfl zk) ?_
      show own_Go p e below G (T177.setTop (mkF m 104 #[.val (.int p0), .val (.int p1), .val (.int p2), .val (.int p3), .val (.int (3 : Int32)), .val (.int (1 : Int32)), .val (.ref b168), .val (.ref b169), .val (.ref b171), .val (.ref b174), .val (.ref b174), .unset, .unset, .unset, .unset] []))
      refine own_st (fun zw zk => XS.iload X177.here hx rfl (hb hby at_104) rfl zk) ?_
      refine own_st (fun zw zk => XS.ifNo X177.here hx rfl (hb hby at_106) rfl ((if0 _ _).trans (feq (by decide : ¬ ((1 : Int32) = (0 : Int32)))).1) zk) ?_
      refine own_st (fun zw zk => XS.aconstNull X177.here hx rfl (hb hby at_109) zk) ?_
      refine own_st (fun zw zk => XS.goto X177.here hx rfl (pc0 := 110) (pc' := 115) rfl (hb hby at_110) (by decide) (by decide) zk) ?_
      show own_Go p e below G (T177.setTop (mkF m 115 #[.val (.int p0), .val (.int p1), .val (.int p2), .val (.int p3), .val (.int (3 : Int32)), .val (.int (1 : Int32)), .val (.ref b168), .val (.ref b169), .val (.ref b171), .val (.ref b174), .val (.ref b174), .unset, .unset, .unset, .unset] [.null]))
      refine own_st (fun zw zk => XS.astore X177.here hx rfl (hb hby at_115) rfl rfl rfl zk) ?_
      show own_Go p e below G (T177.setTop (mkF m 117 #[.val (.int p0), .val (.int p1), .val (.int p2), .val (.int p3), .val (.int (3 : Int32)), .val (.int (1 : Int32)), .val (.ref b168), .val (.ref b169), .val (.ref b171), .val (.ref b174), .val (.ref b174), .val .null, .unset, .unset, .unset] []))
      obtain ⟨T178, h178, X178, e178, E178, A178, D178, -, st178⟩ := newO X177 hx hZ hown (hw _ (List.mem_of_getElem? (i := 1) rfl)) (hw _ (List.mem_of_getElem? (i := 2) rfl)) (hw _ (List.mem_of_getElem? (i := 3) rfl)) e177 (g := (mkF m 117 #[.val (.int p0), .val (.int p1), .val (.int p2), .val (.int p3), .val (.int (3 : Int32)), .val (.int (1 : Int32)), .val (.ref b168), .val (.ref b169), .val (.ref b171), .val (.ref b174), .val (.ref b174), .val .null, .unset, .unset, .unset] [])) rfl (hb hby at_117) (by decide) (by decide)
      obtain ⟨b178, g178⟩ : ∃ z, z = h177.size := ⟨_, rfl⟩
      rw [← g178] at A178 D178 st178
      have G178 : n0 ≤ b178 := Nat.le_trans Z177 (Nat.le_of_eq g178.symm)
      have ne_b168_b178 : b168 ≠ b178 := Nat.ne_of_lt (Nat.lt_of_lt_of_le Vb168_177.lt (Nat.le_of_eq g178.symm))
      have ne_b169_b178 : b169 ≠ b178 := Nat.ne_of_lt (Nat.lt_of_lt_of_le Bb169_177.lt (Nat.le_of_eq g178.symm))
      have ne_b171_b178 : b171 ≠ b178 := Nat.ne_of_lt (Nat.lt_of_lt_of_le Bb171_177.lt (Nat.le_of_eq g178.symm))
      have ne_b174_b178 : b174 ≠ b178 := Nat.ne_of_lt (Nat.lt_of_lt_of_le Bb174_177.lt (Nat.le_of_eq g178.symm))
      have Vb168_178 := Vb168_177.ext E178
      have Bb168_178 := Bb168_177.ext E178
      have Bb169_178 := Bb169_177.ext E178
      have Vb169_178 := Vb169_177.ext E178
      have Bb171_178 := Bb171_177.ext E178
      have Vb171_178 := Vb171_177.ext E178
      have Bb174_178 := Bb174_177.ext E178
      have Vb174_178 := Vb174_177.ext E178
      have Z178 : n0 ≤ h178.size := Nat.le_trans Z177 E178.1
      have Fb178oid : Fld Z h178 b178 "com/example/attestrum/attestrum/schemes/der/AlgorithmIdentifier" "oid" "Ljava/lang/String;" .null := D178 (Or.inr (hw _ (List.mem_of_getElem? (i := 18) rfl))) (ty := (.object "java/lang/String")) (by decide)
      have Fb178parameters : Fld Z h178 b178 "com/example/attestrum/attestrum/schemes/der/AlgorithmIdentifier" "parameters" "[B" .null := D178 (Or.inr (hw _ (List.mem_of_getElem? (i := 29) rfl))) (ty := (.array .byte)) (by decide)
      refine own_st (fun zw zk => st178 zw zk) ?_
      refine own_st (fun zw zk => XS.dup X178.here hx rfl (hb hby at_120) rfl rfl zk) ?_
      have wS179 : ∀ z ∈ Bundle.stringAtoms, z.before a0 Z = true := by
        intro z hz
        simp only [Bundle.stringAtoms, List.mem_cons, List.not_mem_nil, or_false] at hz
        rcases hz with rfl | rfl | rfl | rfl | rfl | rfl | rfl
        · exact (hw _ (List.mem_of_getElem? (i := 5) rfl))
        · exact (hw _ (List.mem_of_getElem? (i := 6) rfl))
        · exact (hw _ (List.mem_of_getElem? (i := 0) rfl))
        · exact (hw _ (List.mem_of_getElem? (i := 7) rfl))
        · exact (hw _ (List.mem_of_getElem? (i := 8) rfl))
        · exact (hw _ (List.mem_of_getElem? (i := 9) rfl))
        · exact (hw _ (List.mem_of_getElem? (i := 10) rfl))
      obtain ⟨b179, T179, h179, k179, X179, e179, E179, hS, Zk179, hZ', hown', st179⟩ := ldcS (s := s) (vm0 := s.vm) X178 hx hZ hown (hw _ (List.mem_of_getElem? (i := 4) rfl)) wS179 e178 ((State.WarmedH.refl s).since 0) (Nat.zero_le _) (g := (mkF m 121 #[.val (.int p0), .val (.int p1), .val (.int p2), .val (.int p3), .val (.int (3 : Int32)), .val (.int (1 : Int32)), .val (.ref b168), .val (.ref b169), .val (.ref b171), .val (.ref b174), .val (.ref b174), .val .null, .unset, .unset, .unset] [(.ref b178), (.ref b178)])) rfl (hb hby at_121) (n := 12) (by decide) (by decide) (by decide) (by decide)
      refine own_st (fun zw zk => st179 zw zk) ?_
      have Vb168_179 := Vb168_178.ext E179
      have Bb168_179 := Bb168_178.ext E179
      have Bb169_179 := Bb169_178.ext E179
      have Vb169_179 := Vb169_178.ext E179
      have Bb171_179 := Bb171_178.ext E179
      have Vb171_179 := Vb171_178.ext E179
      have Bb174_179 := Bb174_178.ext E179
      have Vb174_179 := Vb174_178.ext E179
      have Fb178oid_179 := Fb178oid.ext E179
      have Fb178parameters_179 := Fb178parameters.ext E179
      have Ab178_179 := A178.ext E179
      have Z179 : n0 ≤ h179.size := Nat.le_trans Z178 E179.1
      refine own_st (fun zw zk => XS.aload X179.here hx rfl (hb hby at_123) rfl rfl zk) ?_
      obtain ⟨_, _, ⟨T180, L180, k180, n180⟩, -, X180, ⟨Lc180, hQ180, l180, y180, z180⟩, st180⟩ := X179.specialBack hx (y := (⟨"com/example/attestrum/attestrum/schemes/der/AlgorithmIdentifier", "<init>", "(Ljava/lang/String;[B)V"⟩ : MethodName)) rfl hown' (mvT hZ' (hw _ (List.mem_of_getElem? (i := 11) rfl))) (mvT hZ' (hw _ (List.mem_of_getElem? (i := 12) rfl))) (mvT hZ' (hw _ (List.mem_of_getElem? (i := 13) rfl))) (by decide) (backOf (W := 1) (rm_in l Z a0 hw [] b178 b179 h179 n0 Z179 (Ab178_179) (Fb178oid_179) (Fb178parameters_179) (G178)) hZ' (hw _ (List.mem_of_getElem? (i := 13) rfl)) (hw _ (List.mem_of_getElem? (i := 3) rfl)) (by decide) (by decide)) (g := (mkF m 125 #[.val (.int p0), .val (.int p1), .val (.int p2), .val (.int p3), .val (.int (3 : Int32)), .val (.int (1 : Int32)), .val (.ref b168), .val (.ref b169), .val (.ref b171), .val (.ref b174), .val (.ref b174), .val .null, .unset, .unset, .unset] [.null, (.ref b179), (.ref b178), (.ref b178)])) rfl (by rw [hml]; rfl) (Steps.refl _) (a := b178) (argsL := [(.ref b179), .null]) (rest := [(.ref b178)]) (lenOf pd_0 rfl) rfl (by show 2 * 0 + _ ≤ _; exact Nat.le_of_eq rfl) (hb hby at_125) (fun _ _ => ⟨rfl, e179, (by decide : 7 + 0 ≤ _), (by decide : 24 + 0 ≤ _)⟩)
      dsimp only [Pt.U, Pt.locs, Pt.cells, Pt.slots] at X180 l180 y180 z180 st180 hQ180
      subst l180 y180 z180
      obtain ⟨rfl, N180q, K180, O180_0, O180_1⟩ := hQ180
      have Zk180 := Nat.le_trans Zk179 K180.1
      have Vb168_180 := Vb168_179.keep K180 (ninS ne_b168_b178 nin0)
      have Bb168_180 := Bb168_179.keep K180
      have Bb169_180 := Bb169_179.keep K180
      have Vb169_180 := Vb169_179.keep K180 (ninS ne_b169_b178 nin0)
      have Bb171_180 := Bb171_179.keep K180
      have Vb171_180 := Vb171_179.keep K180 (ninS ne_b171_b178 nin0)
      have Bb174_180 := Bb174_179.keep K180
      have Vb174_180 := Vb174_179.keep K180 (ninS ne_b174_b178 nin0)
      have Ab178_180 := Ab178_179.keep K180
      have Z180 : n0 ≤ T180.heap.size := Nat.le_trans Z179 K180.1
      have N180 := Fr.app N177 N180q
      refine own_jp st180 ?_
      refine own_st (fun zw zk => XS.astore X180.here hx rfl (hb hby at_128) rfl rfl rfl zk) ?_
      show own_Go p e below G (T180.setTop (mkF m 130 #[.val (.int p0), .val (.int p1), .val (.int p2), .val (.int p3), .val (.int (3 : Int32)), .val (.int (1 : Int32)), .val (.ref b168), .val (.ref b169), .val (.ref b171), .val (.ref b174), .val (.ref b174), .val .null, .val (.ref b178), .unset, .unset] []))
      refine own_st (fun zw zk => XS.aload X180.here hx rfl (hb hby at_130) rfl rfl zk) ?_
      refine own_st (fun zw zk => XS.ifnonnullNo X180.here hx rfl (hb hby at_132) rfl zk) ?_
      refine own_st (fun zw zk => XS.aload X180.here hx rfl (hb hby at_135) rfl rfl zk) ?_
      obtain ⟨cq181, kq181, q181a, q181b, q181c⟩ := isOf hZ' rfl O180_0
      obtain ⟨_, _, ⟨T181, L181, k181, n181⟩, -, X181, ⟨Lc181, hQ181, l181, y181, z181⟩, st181⟩ := X180.virtualBack hx (y := (⟨"com/example/attestrum/attestrum/schemes/der/AlgorithmIdentifier", "parameters", "()[B"⟩ : MethodName)) (z := (⟨"com/example/attestrum/attestrum/schemes/der/AlgorithmIdentifier", "parameters", "()[B"⟩ : MethodName)) hown' (mvT hZ' (hw _ (List.mem_of_getElem? (i := 34) rfl))) (mvT hZ' (hw _ (List.mem_of_getElem? (i := 35) rfl))) (notFace_of_selects (args := #[]) (mvT hZ' (hw _ (List.mem_of_getElem? (i := 37) rfl)))) (mvT hZ' (hw _ (List.mem_of_getElem? (i := 37) rfl))) (mvT hZ' (hw _ (List.mem_of_getElem? (i := 36) rfl))) (by decide) (backOf (W := 0) (rm_pn l Z a0 hw [] b178 T180.heap n0 Z180 (O180_1)) hZ' (hw _ (List.mem_of_getElem? (i := 38) rfl)) (hw _ (List.mem_of_getElem? (i := 3) rfl)) (by decide) (by decide)) q181a q181c (g := (mkF m 137 #[.val (.int p0), .val (.int p1), .val (.int p2), .val (.int p3), .val (.int (3 : Int32)), .val (.int (1 : Int32)), .val (.ref b168), .val (.ref b169), .val (.ref b171), .val (.ref b174), .val (.ref b174), .val .null, .val (.ref b178), .unset, .unset] [(.ref b178)])) rfl (by rw [hml]; rfl) (Steps.refl _) (argsL := []) (rest := []) (lenOf pd_2 rfl) rfl (by show 2 * 0 + _ ≤ _; exact Nat.le_of_eq rfl) (hb hby at_137) (fun _ _ => ⟨rfl, rfl, (by decide : 7 + 0 ≤ _), (by decide : 24 + 0 ≤ _)⟩)
      dsimp only [Pt.U, Pt.locs, Pt.cells, Pt.slots] at X181 l181 y181 z181 st181 hQ181
      subst l181 y181 z181
      obtain ⟨rfl, N181q, e181⟩ := hQ181
      have N181 := Fr.app N180 N181q
      refine own_jp st181 ?_
      refine own_st (fun zw zk => XS.astore X181.here hx rfl (hb hby at_140) rfl rfl rfl zk) ?_
      show own_Go p e below G (T181.setTop (mkF m 142 #[.val (.int p0), .val (.int p1), .val (.int p2), .val (.int p3), .val (.int (3 : Int32)), .val (.int (1 : Int32)), .val (.ref b168), .val (.ref b169), .val (.ref b171), .val (.ref b174), .val (.ref b174), .val .null, .val (.ref b178), .val .null, .unset] []))
      refine own_st (fun zw zk => XS.aload X181.here hx rfl (hb hby at_142) rfl rfl zk) ?_
      obtain ⟨cq182, kq182, q182a, q182b, q182c⟩ := isOf hZ' e181 O180_0
      obtain ⟨_, _, ⟨T182, L182, k182, n182⟩, -, X182, ⟨Lc182, hQ182, l182, y182, z182⟩, st182⟩ := X181.virtualBack hx (y := (⟨"com/example/attestrum/attestrum/schemes/der/AlgorithmIdentifier", "parameters", "()[B"⟩ : MethodName)) (z := (⟨"com/example/attestrum/attestrum/schemes/der/AlgorithmIdentifier", "parameters", "()[B"⟩ : MethodName)) hown' (mvT hZ' (hw _ (List.mem_of_getElem? (i := 34) rfl))) (mvT hZ' (hw _ (List.mem_of_getElem? (i := 35) rfl))) (notFace_of_selects (args := #[]) (mvT hZ' (hw _ (List.mem_of_getElem? (i := 37) rfl)))) (mvT hZ' (hw _ (List.mem_of_getElem? (i := 37) rfl))) (mvT hZ' (hw _ (List.mem_of_getElem? (i := 36) rfl))) (by decide) (backOf (W := 0) (rm_pn l Z a0 hw [] b178 T180.heap n0 Z180 (O180_1)) hZ' (hw _ (List.mem_of_getElem? (i := 38) rfl)) (hw _ (List.mem_of_getElem? (i := 3) rfl)) (by decide) (by decide)) q182a q182c (g := (mkF m 144 #[.val (.int p0), .val (.int p1), .val (.int p2), .val (.int p3), .val (.int (3 : Int32)), .val (.int (1 : Int32)), .val (.ref b168), .val (.ref b169), .val (.ref b171), .val (.ref b174), .val (.ref b174), .val .null, .val (.ref b178), .val .null, .unset] [(.ref b178)])) rfl (by rw [hml]; rfl) (Steps.refl _) (argsL := []) (rest := []) (lenOf pd_2 rfl) rfl (by show 2 * 0 + _ ≤ _; exact Nat.le_of_eq rfl) (hb hby at_144) (fun _ _ => ⟨rfl, e181, (by decide : 7 + 0 ≤ _), (by decide : 24 + 0 ≤ _)⟩)
      dsimp only [Pt.U, Pt.locs, Pt.cells, Pt.slots] at X182 l182 y182 z182 st182 hQ182
      subst l182 y182 z182
      obtain ⟨rfl, N182q, e182⟩ := hQ182
      have N182 := Fr.app N181 N182q
      refine own_jp st182 ?_
      refine own_st (fun zw zk => XS.astore X182.here hx rfl (hb hby at_147) rfl rfl rfl zk) ?_
      show own_Go p e below G (T182.setTop (mkF m 149 #[.val (.int p0), .val (.int p1), .val (.int p2), .val (.int p3), .val (.int (3 : Int32)), .val (.int (1 : Int32)), .val (.ref b168), .val (.ref b169), .val (.ref b171), .val (.ref b174), .val (.ref b174), .val .null, .val (.ref b178), .val .null, .val .null] []))
      refine own_st (fun zw zk => XS.aload X182.here hx rfl (hb hby at_149) rfl rfl zk) ?_
      refine own_st (fun zw zk => XS.ifnonnullNo X182.here hx rfl (hb hby at_151) rfl zk) ?_
      refine own_st (fun zw zk => XS.aload X182.here hx rfl (hb hby at_154) rfl rfl zk) ?_
      refine own_st (fun zw zk => XS.ifnonnullNo X182.here hx rfl (hb hby at_156) rfl zk) ?_
      refine own_st (fun zw zk => XS.iconst X182.here hx rfl (hb hby at_159) zk) ?_
      refine own_st (fun zw zk => XS.goto X182.here hx rfl (pc0 := 160) (pc' := 164) rfl (hb hby at_160) (by decide) (by decide) zk) ?_
      show own_Go p e below G (T182.setTop (mkF m 164 #[.val (.int p0), .val (.int p1), .val (.int p2), .val (.int p3), .val (.int (3 : Int32)), .val (.int (1 : Int32)), .val (.ref b168), .val (.ref b169), .val (.ref b171), .val (.ref b174), .val (.ref b174), .val .null, .val (.ref b178), .val .null, .val .null] [(.int (1 : Int32))]))
      subst hG
      obtain ⟨fs, hr, hrun, hended, hRW⟩ := Jvm.Stand.leaveW (s := s) X182 hS (by rw [e182]; exact Zk180) (v := some (.int (1 : Int32))) (fun h => by rw [Bd.returns] at h; cases h)
      refine ⟨_, retN X182 hx (t := .boolean) Bd.returns (by simp) (hb hby at_164) hr, _, hrun, hended, _, _, rfl, ?_, hRW.1, hRW.2.1, hRW.2.2.1, hRW.2.2.2.mono (by decide) (by decide)⟩
      show Q0 Z p0 p1 p2 p3 h0 n0 _ T182.heap _
      rw [e182]
      exact ⟨rfl, N182⟩
set_option maxRecDepth 65536 in
set_option maxHeartbeats 40000000 in
theorem comes_1 {Post : Tables → Env → Array Value → State → Outcome → State → Prop} (hpost : ∀ tb e args s v u, (limb_1_1.after args s (.returned v) u = true ∧ limb_1_2.after args s (.returned v) u = true ∧ True) → ReturnedEndW s (.returned v) u (Jvm.fieldLocs frame_1_writes args s ++ Jvm.arrayLocs frame_1_arrays args s ++ Jvm.staticLocs frame_1_statics s) 32 1152 → Post tb e args s (.returned v) u) :
    ArmFor flags0 classFile x code maxLocals ret World_1 tables_1 room_1 Calls_1 rest_1 Pre_1 Post := by
  intro l hfl _ _ p e ha hc hk s m args below hf hA hF happ hP
  obtain ⟨hcalls, hrest, hpre⟩ := hP
  obtain ⟨-, -, -, hnamed, -, -, -, hat⟩ := (Spec.applies_iff hf).mp happ
  obtain ⟨hg, hn⟩ := and_e (Cond.before_iff.mp (show (Jvm.Cond.and given_1 narrow_1).before args s = true from hpre))
  obtain ⟨g1, g2⟩ := and_e hg
  obtain ⟨g3, g4⟩ := and_e g2
  obtain ⟨g5, g6⟩ := and_e g4
  obtain ⟨g7, g8⟩ := and_e g6
  obtain ⟨w0, w1, w2, w3, rfl⟩ : ∃ w0 w1 w2 w3 : Value, args = #[w0, w1, w2, w3] := by
    have hs : args.size = 4 := by simpa [Cond.value, given_1] using g1
    obtain ⟨L⟩ := args
    match L, hs with
    | [w0, w1, w2, w3], _ => exact ⟨w0, w1, w2, w3, rfl⟩
  have hw := fun d (hd : d ∈ tables_1) => atoms_spec (ws := Jvm.Cond.code x code maxLocals ret :: tables_1) hat d (List.mem_cons_of_mem _ hd)
  obtain ⟨i0, ei0⟩ := is_v g3
  obtain rfl : w0 = (.int i0) := Option.some.inj ei0
  obtain ⟨i1, ei1⟩ := is_v g5
  obtain rfl : w1 = (.int i1) := Option.some.inj ei1
  obtain ⟨i2, ei2⟩ := is_v g7
  obtain rfl : w2 = (.int i2) := Option.some.inj ei2
  obtain ⟨i3, ei3⟩ := is_v g8
  obtain rfl : w3 = (.int i3) := Option.some.inj ei3
  obtain ⟨n, o, h1, h2, h3, _, L, rfl, ⟨rfl, N⟩, hq⟩ := rm0 l s _ hw tables_1 i0 i1 i2 i3 s.heap s.heap.size (Nat.le_refl _) p e ha hc hk s m _ below hf ((Spec.applies_iff_loose hf).mp happ).1 ⟨rfl, State.Warmed39.refl s, rfl⟩ trivial
  refine ⟨n, _, h1, h2, h3, hpost _ _ _ _ _ _ ⟨Cond.after_iff.mpr rfl, Cond.after_iff.mpr (eq_i res_at (Term.int_eval (1)) rfl), trivial⟩ ⟨hq.1, hq.2.1, hq.2.2.1, (hq.2.2.2.sift fun y hy => Or.inr (N y hy)).mono (by decide) (by decide)⟩⟩
theorem main_1_1 : Claimed_1_1 := comes_1 fun _ _ _ _ _ _ h hF => ⟨h.1, hF⟩
theorem main_1_2 : Claimed_1_2 := comes_1 fun _ _ _ _ _ _ h hF => ⟨h.2.1, hF⟩
end Jvm.Pilot.@@N@@
namespace Jvm.Pilot.@@N@@
open Jvm Jvm.ClassFile Sem Op Lib Jvm.Free Jvm.Stand Jvm.Pilot.@@N@@.Jvm.D
/-! MADE BY PROGRAM (witnessworld.py) out of the Statement's table words and the real class files: 14 classes; the members and pool entries that the words name. The judged class is class 1, her method 3. -/
namespace start1
open Jvm.ClassFile
def u (s : String) : CpInfo := .utf8 (stringToUtf16 s)
/-- a pool by its gaps: so many unusable entries, then the entry; so many at the end -/
def gap : Nat → List CpInfo → List CpInfo
  | 0, r => r
  | n + 1, r => .unusable :: gap n r
def poolList (es : List (Nat × CpInfo)) (last : Nat) : List CpInfo := es.foldr (fun e r => gap e.1 (e.2 :: r)) (gap last [])
def pool (es : List (Nat × CpInfo)) (last : Nat) : Array CpInfo := ⟨poolList es last⟩
def fileOf (pool : Array CpInfo) (this : Nat) (attrs : Array Attribute := #[]) (ms : Array MethodInfo := #[]) (fl : Nat := 33) (sup : Nat := 0) (ifs : Array Nat := #[]) (fds : Array FieldInfo := #[]) : ClassFile where
  minorVersion := 0
  majorVersion := 65
  constantPool := pool
  accessFlags := fl
  thisClass := this
  superClass := sup
  interfaces := ifs
  fields := fds
  methods := ms
  attributes := attrs
def plain (name : String) (sup : Option ClassId) : Class where
  name := name
  kind := .ordinary
  loader := none
  accessFlags := 33
  super := sup
  interfaces := #[]
  cf := none
  fields := #[]
  methods := #[]
  instanceTypes := #[]
  staticTypes := #[]
  resolved := #[]
  callSites := []
  init := .initialized
  statics := none
  mirror := none

def pool0 : Array CpInfo := pool [(5, u "<init>"), (0, u "()V"), (1, .class_ 10), (1, u "java/lang/Object"), (85, u "clone"), (0, u "()Ljava/lang/Object;")] 26

def k0c0 : Code := { maxStack := 0, maxLocals := 1, code := object_method_1_code, exceptionTable := #[], attributes := #[] }
def k0m0 : Method := { name := "<init>", desc := "()V", sig := { parameters := [], returnType := none }, accessFlags := 1, code := some k0c0 }
def k0m1 : Method := { name := "clone", desc := "()Ljava/lang/Object;", sig := { parameters := [], returnType := some (.object "java/lang/Object") }, accessFlags := 260, code := none }
/-- java/lang/Object -/
def k0 : Class := { plain "java/lang/Object" none with
  accessFlags := 33
  interfaces := #[]
  cf := some (fileOf pool0 8 #[] #[{ accessFlags := 1, nameIndex := 5, descriptorIndex := 6, attributes := #[] }, { accessFlags := 260, nameIndex := 96, descriptorIndex := 97, attributes := #[] }] 33 0 #[] #[])
  fields := #[]
  methods := #[k0m0, k0m1]
  instanceTypes := #[]
  staticTypes := #[]
  resolved := Array.replicate 124 none
  statics := none }

def pool1 : Array CpInfo := pool [(2, .class_ 4), (1, u "java/lang/Object"), (0, u "<init>"), (0, u "()V"), (0, .class_ 8), (0, u "com/example/attestrum/attestrum/schemes/der/AlgorithmIdentifier"), (0, .string 10), (0, u "1.2"), (0, .methodref 7 12), (0, .nameAndType 5 13), (0, u "(Ljava/lang/String;[B)V"), (0, .methodref 7 15), (0, .nameAndType 16 17), (0, u "parameters"), (0, u "()[B"), (0, .methodref 19 20), (0, .class_ 21), (0, .nameAndType 22 23), (0, u "com/example/attestrum/attestrum/schemes/der/AlgorithmIdentifierParametersPinLaw"), (0, u "spoil"), (0, u "([BIIII)V"), (0, .methodref 19 25), (0, .nameAndType 26 27), (0, u "matches"), (0, u "([BIIII)Z"), (3, u "law"), (0, u "(IIII)Z")] 4

def k1m0 : Method := { name := "<init>", desc := "()V", sig := { parameters := [], returnType := none }, accessFlags := 2, code := none }
def k1c1 : Code := { maxStack := 2, maxLocals := 5, code := method_2_code, exceptionTable := #[], attributes := #[] }
def k1m1 : Method := { name := "matches", desc := "([BIIII)Z", sig := { parameters := [(.array .byte), .int, .int, .int, .int], returnType := some .boolean }, accessFlags := 10, code := some k1c1 }
def k1c2 : Code := { maxStack := 4, maxLocals := 5, code := method_3_code, exceptionTable := #[], attributes := #[] }
def k1m2 : Method := { name := "spoil", desc := "([BIIII)V", sig := { parameters := [(.array .byte), .int, .int, .int, .int], returnType := none }, accessFlags := 10, code := some k1c2 }
def k1c3 : Code := { maxStack := 5, maxLocals := 15, code := code, exceptionTable := #[], attributes := #[] }
def k1m3 : Method := { name := "law", desc := "(IIII)Z", sig := { parameters := [.int, .int, .int, .int], returnType := some .boolean }, accessFlags := 9, code := some k1c3 }
/-- com/example/attestrum/attestrum/schemes/der/AlgorithmIdentifierParametersPinLaw -/
def k1 : Class := { plain "com/example/attestrum/attestrum/schemes/der/AlgorithmIdentifierParametersPinLaw" (some 0) with
  accessFlags := 49
  interfaces := #[]
  cf := some (fileOf pool1 19 #[] #[{ accessFlags := 2, nameIndex := 5, descriptorIndex := 6, attributes := #[] }, { accessFlags := 10, nameIndex := 26, descriptorIndex := 27, attributes := #[] }, { accessFlags := 10, nameIndex := 22, descriptorIndex := 23, attributes := #[] }, { accessFlags := 9, nameIndex := 31, descriptorIndex := 32, attributes := #[] }] 49 2 #[] #[])
  fields := #[]
  methods := #[k1m0, k1m1, k1m2, k1m3]
  instanceTypes := #[]
  staticTypes := #[]
  resolved := Array.replicate 37 none
  statics := none }

def pool2 : Array CpInfo := pool [(1, .methodref 2 3), (0, .class_ 4), (0, .nameAndType 5 6), (0, u "java/lang/Object"), (0, u "<init>"), (0, u "()V"), (0, .fieldref 8 9), (0, .class_ 10), (0, .nameAndType 11 12), (0, u "com/example/attestrum/attestrum/schemes/der/AlgorithmIdentifier"), (0, u "oid"), (0, u "Ljava/lang/String;"), (0, .methodref 14 15), (0, .class_ 16), (0, .nameAndType 17 18), (0, u "[B"), (0, u "clone"), (0, u "()Ljava/lang/Object;"), (0, .fieldref 8 20), (0, .nameAndType 21 16), (0, u "parameters"), (17, u "()[B"), (5, u "(Ljava/lang/String;[B)V"), (2, u "NULL")] 32

def k2c0 : Code := { maxStack := 2, maxLocals := 3, code := prog_30_method_1_code, exceptionTable := #[], attributes := #[] }
def k2m0 : Method := { name := "<init>", desc := "(Ljava/lang/String;[B)V", sig := { parameters := [(.object "java/lang/String"), (.array .byte)], returnType := none }, accessFlags := 1, code := some k2c0 }
def k2c1 : Code := { maxStack := 1, maxLocals := 1, code := prog_30_method_4_code, exceptionTable := #[], attributes := #[] }
def k2m1 : Method := { name := "parameters", desc := "()[B", sig := { parameters := [], returnType := some (.array .byte) }, accessFlags := 1, code := some k2c1 }
/-- com/example/attestrum/attestrum/schemes/der/AlgorithmIdentifier -/
def k2 : Class := { plain "com/example/attestrum/attestrum/schemes/der/AlgorithmIdentifier" (some 0) with
  accessFlags := 49
  interfaces := #[]
  cf := some (fileOf pool2 8 #[] #[{ accessFlags := 1, nameIndex := 5, descriptorIndex := 45, attributes := #[] }, { accessFlags := 1, nameIndex := 21, descriptorIndex := 39, attributes := #[] }] 49 2 #[] #[{ accessFlags := 26, nameIndex := 48, descriptorIndex := 16, attributes := #[] }, { accessFlags := 18, nameIndex := 11, descriptorIndex := 12, attributes := #[] }, { accessFlags := 18, nameIndex := 21, descriptorIndex := 16, attributes := #[] }])
  fields := #[{ name := "NULL", type := (.array .byte), accessFlags := 26, slot := 0, constantValue := 0 }, { name := "oid", type := (.object "java/lang/String"), accessFlags := 18, slot := 0, constantValue := 0 }, { name := "parameters", type := (.array .byte), accessFlags := 18, slot := 1, constantValue := 0 }]
  methods := #[k2m0, k2m1]
  instanceTypes := #[(.object "java/lang/String"), (.array .byte)]
  staticTypes := #[(.array .byte)]
  resolved := Array.replicate 81 none
  statics := none }

def pool3 : Array CpInfo := pool [(1, .class_ 2), (0, u "java/io/Serializable"), (0, .class_ 4), (0, u "java/lang/Object")] 2

/-- java/io/Serializable -/
def k3 : Class := { plain "java/io/Serializable" (some 0) with
  accessFlags := 1537
  interfaces := #[]
  cf := some (fileOf pool3 1 #[] #[] 1537 3 #[] #[])
  fields := #[]
  methods := #[]
  instanceTypes := #[]
  staticTypes := #[]
  resolved := Array.replicate 7 none
  statics := none }

def pool4 : Array CpInfo := pool [(1, .class_ 2), (0, u "java/lang/Comparable"), (0, .class_ 4), (0, u "java/lang/Object")] 7

/-- java/lang/Comparable -/
def k4 : Class := { plain "java/lang/Comparable" (some 0) with
  accessFlags := 1537
  interfaces := #[]
  cf := some (fileOf pool4 1 #[] #[] 1537 3 #[] #[])
  fields := #[]
  methods := #[]
  instanceTypes := #[]
  staticTypes := #[]
  resolved := Array.replicate 12 none
  statics := none }

def pool5 : Array CpInfo := pool [(2, .class_ 4), (1, u "java/lang/CharSequence"), (42, .class_ 48), (0, u "java/lang/CharSequence$1CodePointIterator"), (10, .class_ 60), (0, u "java/lang/CharSequence$1CharIterator"), (5, .class_ 67), (0, u "java/lang/Object")] 63

/-- java/lang/CharSequence -/
def k5 : Class := { plain "java/lang/CharSequence" (some 0) with
  accessFlags := 1537
  interfaces := #[]
  cf := some (fileOf pool5 2 #[.nestMembers #[47, 59]] #[] 1537 66 #[] #[])
  fields := #[]
  methods := #[]
  instanceTypes := #[]
  staticTypes := #[]
  resolved := Array.replicate 131 none
  statics := none }

def pool6 : Array CpInfo := pool [(1, .class_ 2), (0, u "java/lang/constant/Constable"), (0, .class_ 4), (0, u "java/lang/Object")] 6

/-- java/lang/constant/Constable -/
def k6 : Class := { plain "java/lang/constant/Constable" (some 0) with
  accessFlags := 1537
  interfaces := #[]
  cf := some (fileOf pool6 1 #[] #[] 1537 3 #[] #[])
  fields := #[]
  methods := #[]
  instanceTypes := #[]
  staticTypes := #[]
  resolved := Array.replicate 11 none
  statics := none }

def pool7 : Array CpInfo := pool [(1, .class_ 2), (0, u "java/lang/constant/ConstantDesc"), (0, .class_ 4), (0, u "java/lang/Object")] 32

/-- java/lang/constant/ConstantDesc -/
def k7 : Class := { plain "java/lang/constant/ConstantDesc" (some 0) with
  accessFlags := 1537
  interfaces := #[]
  cf := some (fileOf pool7 1 #[] #[] 1537 3 #[] #[])
  fields := #[]
  methods := #[]
  instanceTypes := #[]
  staticTypes := #[]
  resolved := Array.replicate 37 none
  statics := none }

def pool8 : Array CpInfo := pool [(2, .class_ 4), (1, u "java/lang/Object"), (0, u "<init>"), (0, u "()V"), (3, .class_ 12), (1, u "java/lang/String"), (0, u "value"), (0, u "[B"), (2, u "coder"), (0, u "B"), (2, u "hash"), (0, u "I"), (2, u "hashIsZero"), (0, u "Z"), (13, u "COMPACT_STRINGS"), (534, .class_ 576), (0, u "java/lang/CharSequence"), (22, u "CASE_INSENSITIVE_ORDER"), (0, u "Ljava/util/Comparator;"), (500, u "serialPersistentFields"), (0, u "[Ljava/io/ObjectStreamField;"), (0, .class_ 1104), (0, u "java/lang/String$CaseInsensitiveComparator"), (1, .class_ 1107), (0, u "java/io/Serializable"), (0, .class_ 1109), (0, u "java/lang/Comparable"), (0, .class_ 1111), (0, u "java/lang/constant/Constable"), (0, .class_ 1113), (0, u "java/lang/constant/ConstantDesc"), (2, u "serialVersionUID"), (0, u "J"), (3, u "REPL"), (0, u "C"), (2, u "LATIN1"), (1, u "UTF16")] 323

def k8m0 : Method := { name := "<init>", desc := "()V", sig := { parameters := [], returnType := none }, accessFlags := 1, code := none }
/-- java/lang/String -/
def k8 : Class := { plain "java/lang/String" (some 0) with
  accessFlags := 49
  interfaces := #[3, 4, 5, 6, 7]
  cf := some (fileOf pool8 10 #[.nestMembers #[1103]] #[{ accessFlags := 1, nameIndex := 5, descriptorIndex := 6, attributes := #[] }] 49 2 #[1106, 1108, 575, 1110, 1112] #[{ accessFlags := 18, nameIndex := 13, descriptorIndex := 14, attributes := #[] }, { accessFlags := 18, nameIndex := 17, descriptorIndex := 18, attributes := #[] }, { accessFlags := 2, nameIndex := 21, descriptorIndex := 22, attributes := #[] }, { accessFlags := 2, nameIndex := 25, descriptorIndex := 26, attributes := #[] }, { accessFlags := 26, nameIndex := 1116, descriptorIndex := 1117, attributes := #[] }, { accessFlags := 24, nameIndex := 40, descriptorIndex := 26, attributes := #[] }, { accessFlags := 26, nameIndex := 1101, descriptorIndex := 1102, attributes := #[] }, { accessFlags := 26, nameIndex := 1121, descriptorIndex := 1122, attributes := #[] }, { accessFlags := 25, nameIndex := 599, descriptorIndex := 600, attributes := #[] }, { accessFlags := 24, nameIndex := 1125, descriptorIndex := 18, attributes := #[] }, { accessFlags := 24, nameIndex := 1127, descriptorIndex := 18, attributes := #[] }])
  fields := #[{ name := "value", type := (.array .byte), accessFlags := 18, slot := 0, constantValue := 0 }, { name := "coder", type := .byte, accessFlags := 18, slot := 1, constantValue := 0 }, { name := "hash", type := .int, accessFlags := 2, slot := 2, constantValue := 0 }, { name := "hashIsZero", type := .boolean, accessFlags := 2, slot := 3, constantValue := 0 }, { name := "serialVersionUID", type := .long, accessFlags := 26, slot := 0, constantValue := 0 }, { name := "COMPACT_STRINGS", type := .boolean, accessFlags := 24, slot := 1, constantValue := 0 }, { name := "serialPersistentFields", type := (.array (.object "java/io/ObjectStreamField")), accessFlags := 26, slot := 2, constantValue := 0 }, { name := "REPL", type := .char, accessFlags := 26, slot := 3, constantValue := 0 }, { name := "CASE_INSENSITIVE_ORDER", type := (.object "java/util/Comparator"), accessFlags := 25, slot := 4, constantValue := 0 }, { name := "LATIN1", type := .byte, accessFlags := 24, slot := 5, constantValue := 0 }, { name := "UTF16", type := .byte, accessFlags := 24, slot := 6, constantValue := 0 }]
  methods := #[k8m0]
  instanceTypes := #[(.array .byte), .byte, .int, .boolean]
  staticTypes := #[.long, .boolean, (.array (.object "java/io/ObjectStreamField")), .char, (.object "java/util/Comparator"), .byte, .byte]
  resolved := Array.replicate 1451 none
  statics := none }

def pool9 : Array CpInfo := pool [(1, .class_ 2), (0, u "java/lang/Cloneable"), (0, .class_ 4), (0, u "java/lang/Object")] 2

/-- java/lang/Cloneable -/
def k9 : Class := { plain "java/lang/Cloneable" (some 0) with
  accessFlags := 1537
  interfaces := #[]
  cf := some (fileOf pool9 1 #[] #[] 1537 3 #[] #[])
  fields := #[]
  methods := #[]
  instanceTypes := #[]
  staticTypes := #[]
  resolved := Array.replicate 7 none
  statics := none }

/-- the primitive byte -/
def k10 : Class := { plain "byte" none with kind := .primitive 'B', accessFlags := 0x411 }
/-- [B -/
def k11 : Class := { plain "[B" (some 0) with kind := .array 10 .byte, interfaces := #[9, 3], accessFlags := 1041 }

/-- the primitive int -/
def k12 : Class := { plain "int" none with kind := .primitive 'I', accessFlags := 0x411 }
/-- [I -/
def k13 : Class := { plain "[I" (some 0) with kind := .array 12 .int, interfaces := #[9, 3], accessFlags := 1041 }

def heap : Heap := #[]
def classes : Array Class := #[k0, k1, k2, k3, k4, k5, k6, k7, k8, k9, k10, k11, k12, k13]
def interned : List (Array UInt16 × Addr) := []
def slotsUsed : Nat := 0
def theMethod : MethodId := ⟨1, 3⟩
def args0 : Array Value := #[.int 5, .int 6, .int 7, .int 1]
def aboutOver (below : List Frame) : State where
  vm := { classes := classes, interned := interned.toArray }
  heap := heap
  slotsUsed := slotsUsed
  threads := #[{ frames := .invoking theMethod args0 :: below }]
def below0 : List Frame := [.native { method := ⟨0, 0⟩, args := #[] }]
def about1 : State := aboutOver below0
def p0 : Program := .bare "" "" ""
def e0 : Env := launch0.env 0 0 0
theorem w_frames : about1.frames = Frame.invoking theMethod args0 :: below0 := rfl
set_option maxRecDepth 65536 in
theorem w_args : argsFit about1.vm theMethod args0 = true := by decide +kernel
set_option maxRecDepth 65536 in
theorem w_heap : heapFits about1 = true := by decide +kernel
set_option maxRecDepth 65536 in
theorem w_runnable : about1.curStatus? = some .runnable := by decide +kernel
set_option maxRecDepth 65536 in
theorem w_alone : about1.alone = true := by decide +kernel
set_option maxRecDepth 65536 in
theorem w_named : about1.methodNamed? x = some theMethod := by decide +kernel
set_option maxRecDepth 65536 in
theorem w_hears : about1.hears theMethod below0 = true := by decide +kernel
set_option maxRecDepth 65536 in
theorem w_ripe : about1.ripe theMethod args0 below0 = true := by decide +kernel
theorem w_running : about1.status = .running := rfl
set_option maxRecDepth 65536 in
theorem w_room : about1.hasRoom e0.platform room_1 = true :=
  launch0.hasRoom_least _ room_1 (by decide +kernel) (by decide +kernel) (by decide +kernel) (by decide +kernel) (by decide +kernel) (by decide +kernel)
theorem allAtoms_all (ts : List Jvm.Cond) (a : Array Jvm.Value) (st : Jvm.State) : (allAtoms ts).before a st = ts.all (fun c => c.before a st) := by
  induction ts with
  | nil => rfl
  | cons c t ih =>
    show (Jvm.Cond.and c (allAtoms t)).before a st = _
    rw [Jvm.Cond.before_and, ih, List.all_cons]
def words1 : List Jvm.Cond := Jvm.Cond.code x code maxLocals ret :: tables_1
/-- a 'code' word, met by the world's own term for the bytes: nothing is compared byte by byte -/
theorem code_word {y : MethodName} {bytes : ByteArray} {mx : Nat} {rt : Option FieldType} {a : Array Value} {s : State} {m : MethodId} {meth : Method} {c : Code} (h1 : s.methodNamed? y = some m) (h2 : s.vm.method? m = some meth) (h3 : meth.code = some c) (h4 : c.code = bytes)
    (h5 : (c.maxLocals == mx && c.exceptionTable.isEmpty && decide (c.maxStack ≤ mostOperands) && decide (meth.sig.returnType = rt) && !meth.locks && decide (parseMethodDescriptor y.desc = some meth.sig)) = true) : (Jvm.Cond.code y bytes mx rt).before a s = true := by
  simp only [Bool.and_eq_true, beq_iff_eq, Bool.not_eq_true', decide_eq_true_eq] at h5
  obtain ⟨⟨⟨⟨⟨g1, g2⟩, g3⟩, g4⟩, g5⟩, g6⟩ := h5
  simp [Cond.before, Cond.holds, Cond.value, h1, h2, h3, h4, g1, g2, g3, g4, g5, g6]
def isCode : Jvm.Cond → Bool
  | .code _ _ _ _ => true
  | _ => false
theorem all_split {L : List Jvm.Cond} {P : Jvm.Cond → Bool} (h1 : L.all (fun c => isCode c || P c) = true) (h2 : ∀ c ∈ L.filter isCode, P c = true) : L.all P = true := by
  refine List.all_eq_true.mpr fun c hc => ?_
  have h := List.all_eq_true.mp h1 c hc
  rcases Bool.eq_false_or_eq_true (isCode c) with hi | hi
  · exact h2 c (List.mem_filter.mpr ⟨hc, hi⟩)
  · simpa [hi] using h
set_option maxRecDepth 65536 in
theorem w_c0 : (Jvm.Cond.code x code maxLocals ret).before args0 about1 = true := code_word (m := ⟨1, 3⟩) (meth := k1m3) (c := k1c3) (by decide +kernel) rfl rfl rfl (by decide +kernel)
set_option maxRecDepth 65536 in
theorem w_c1 : (Jvm.Cond.code ({ cls := "com/example/attestrum/attestrum/schemes/der/AlgorithmIdentifier", name := "<init>", desc := "(Ljava/lang/String;[B)V" } : Jvm.MethodName) prog_30_method_1_code (3 : Nat) (Option.none : Option Jvm.ClassFile.FieldType)).before args0 about1 = true := code_word (m := ⟨2, 0⟩) (meth := k2m0) (c := k2c0) (by decide +kernel) rfl rfl rfl (by decide +kernel)
set_option maxRecDepth 65536 in
theorem w_c2 : (Jvm.Cond.code ({ cls := "java/lang/Object", name := "<init>", desc := "()V" } : Jvm.MethodName) object_method_1_code (1 : Nat) (Option.none : Option Jvm.ClassFile.FieldType)).before args0 about1 = true := code_word (m := ⟨0, 0⟩) (meth := k0m0) (c := k0c0) (by decide +kernel) rfl rfl rfl (by decide +kernel)
set_option maxRecDepth 65536 in
theorem w_c3 : (Jvm.Cond.code ({ cls := "com/example/attestrum/attestrum/schemes/der/AlgorithmIdentifierParametersPinLaw", name := "spoil", desc := "([BIIII)V" } : Jvm.MethodName) method_3_code (5 : Nat) (Option.none : Option Jvm.ClassFile.FieldType)).before args0 about1 = true := code_word (m := ⟨1, 2⟩) (meth := k1m2) (c := k1c2) (by decide +kernel) rfl rfl rfl (by decide +kernel)
set_option maxRecDepth 65536 in
theorem w_c4 : (Jvm.Cond.code ({ cls := "com/example/attestrum/attestrum/schemes/der/AlgorithmIdentifier", name := "parameters", desc := "()[B" } : Jvm.MethodName) prog_30_method_4_code (1 : Nat) (Option.some (Jvm.ClassFile.FieldType.array Jvm.ClassFile.FieldType.byte))).before args0 about1 = true := code_word (m := ⟨2, 1⟩) (meth := k2m1) (c := k2c1) (by decide +kernel) rfl rfl rfl (by decide +kernel)
set_option maxRecDepth 65536 in
theorem w_c5 : (Jvm.Cond.code ({ cls := "com/example/attestrum/attestrum/schemes/der/AlgorithmIdentifierParametersPinLaw", name := "matches", desc := "([BIIII)Z" } : Jvm.MethodName) method_2_code (5 : Nat) (Option.some Jvm.ClassFile.FieldType.boolean)).before args0 about1 = true := code_word (m := ⟨1, 1⟩) (meth := k1m1) (c := k1c1) (by decide +kernel) rfl rfl rfl (by decide +kernel)
def codes1 : List Jvm.Cond := [Jvm.Cond.code x code maxLocals ret, Jvm.Cond.code ({ cls := "com/example/attestrum/attestrum/schemes/der/AlgorithmIdentifier", name := "<init>", desc := "(Ljava/lang/String;[B)V" } : Jvm.MethodName) prog_30_method_1_code (3 : Nat) (Option.none : Option Jvm.ClassFile.FieldType), Jvm.Cond.code ({ cls := "java/lang/Object", name := "<init>", desc := "()V" } : Jvm.MethodName) object_method_1_code (1 : Nat) (Option.none : Option Jvm.ClassFile.FieldType), Jvm.Cond.code ({ cls := "com/example/attestrum/attestrum/schemes/der/AlgorithmIdentifierParametersPinLaw", name := "spoil", desc := "([BIIII)V" } : Jvm.MethodName) method_3_code (5 : Nat) (Option.none : Option Jvm.ClassFile.FieldType), Jvm.Cond.code ({ cls := "com/example/attestrum/attestrum/schemes/der/AlgorithmIdentifier", name := "parameters", desc := "()[B" } : Jvm.MethodName) prog_30_method_4_code (1 : Nat) (Option.some (Jvm.ClassFile.FieldType.array Jvm.ClassFile.FieldType.byte)), Jvm.Cond.code ({ cls := "com/example/attestrum/attestrum/schemes/der/AlgorithmIdentifierParametersPinLaw", name := "matches", desc := "([BIIII)Z" } : Jvm.MethodName) method_2_code (5 : Nat) (Option.some Jvm.ClassFile.FieldType.boolean)]
set_option maxRecDepth 65536 in
theorem codes_eq : words1.filter isCode = codes1 := rfl
theorem w_codes : ∀ c ∈ words1.filter isCode, c.before args0 about1 = true := by
  rw [codes_eq]
  intro c hc
  simp only [codes1, List.mem_cons, List.not_mem_nil, or_false] at hc
  rcases hc with rfl | rfl | rfl | rfl | rfl | rfl
  · exact w_c0
  · exact w_c1
  · exact w_c2
  · exact w_c3
  · exact w_c4
  · exact w_c5
set_option maxRecDepth 65536 in
theorem w_t1 : (words1.take 24).all (fun c => isCode c || c.before args0 about1) = true := by decide +kernel
set_option maxRecDepth 65536 in
theorem w_t2 : (words1.drop 24).all (fun c => isCode c || c.before args0 about1) = true := by decide +kernel
theorem w_tables : (allAtoms (Jvm.Cond.code x code maxLocals ret :: tables_1)).before args0 about1 = true := by
  rw [allAtoms_all]
  show words1.all (fun c => c.before args0 about1) = true
  refine all_split ?_ w_codes
  rw [← List.take_append_drop 24 words1, List.all_append, w_t1, w_t2]
  rfl
set_option maxRecDepth 65536 in
theorem w_case : (Jvm.Cond.and given_1 narrow_1).before args0 about1 = true := by decide +kernel
theorem w_applies : (headSpec (Jvm.Cond.code x code maxLocals ret :: tables_1) room_1).applies x e0.platform about1 = true :=
  (Spec.applies_iff w_frames).mpr ⟨w_running, w_runnable, w_alone, w_named, w_hears, w_ripe, w_room, w_tables⟩
theorem atStart : AtStart classFile x code maxLocals ret World_1 tables_1 room_1 Calls_1 rest_1 Pre_1 launch0 p0 e0 about1 theMethod args0 below0 :=
  ⟨lists_1, trivial, launch0.admits_env _ _ _, launch0.least_env, fairChoices_fair.cas, fairChoices_fair.clock, w_frames, w_args, w_heap, w_applies, trivial, trivial, w_case⟩
end start1
theorem witness_1 : WitnessClaimed_1 := ⟨start1.p0, start1.e0, start1.about1, start1.theMethod, start1.args0, start1.below0, start1.atStart⟩
end Jvm.Pilot.@@N@@
