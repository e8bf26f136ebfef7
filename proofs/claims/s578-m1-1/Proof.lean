import JvmDerived
import JvmDerived.Pilot.@@N@@Statement
import JvmDerived.Pilot.@@N@@Code
set_option linter.unusedVariables false
set_option linter.unusedSimpArgs false
namespace Jvm.Pilot.@@N@@
open Jvm Jvm.ClassFile Sem Op Lib Jvm.Free Jvm.Stand Jvm.LawKit Jvm.RoadKit Bundle Jvm.Pilot.@@N@@.Jvm.D
/-! own_Go: from t the run comes to a state where G holds. A walk is written backwards from the goal, so that a case split may stand anywhere. -/
def own_Go (p : Program) (e : Env) (below : List Frame) (G : State → Prop) (t : State) : Prop := ∃ u, Steps p.tables e below t u ∧ G u
theorem own_st {p : Program} {e : Env} {below : List Frame} {G : State → Prop} {t u : State} (f : ∀ w, Steps p.tables e below u w → Steps p.tables e below t w) (k : own_Go p e below G u) : own_Go p e below G t := by
  obtain ⟨w, s, g⟩ := k
  exact ⟨w, f w s, g⟩
theorem own_jp {p : Program} {e : Env} {below : List Frame} {G : State → Prop} {t u : State} (f : Steps p.tables e below t u) (k : own_Go p e below G u) : own_Go p e below G t := by
  obtain ⟨w, s, g⟩ := k
  exact ⟨w, f.trans s, g⟩
theorem own_out {p : Program} {e : Env} {below : List Frame} {t : State} {Q : Outcome → State → Prop} (k : own_Go p e below (fun u => ∃ o, u.status = .running ∧ Ended u below o ∧ Q o u) t) : ∃ s₂ o, Steps p.tables e below t s₂ ∧ s₂.status = .running ∧ Ended s₂ below o ∧ Q o s₂ := by
  obtain ⟨w, s, o, g⟩ := k
  exact ⟨w, o, s, g⟩
theorem own_nm {p : Program} {e : Env} {below : List Frame} {G0 : State → Prop} {t : State} (k : ∀ G, G = G0 → own_Go p e below G t) : own_Go p e below G0 t := k _ rfl
theorem own_tll {x y : Int64} (h : x < y) : lcmpW x y < 0 := (lw_lt x y).mpr h
theorem own_fll {x y : Int64} (h : ¬ x < y) : ¬ lcmpW x y < 0 := fun q => h ((lw_lt x y).mp q)
theorem own_tlg {x y : Int64} (h : y < x) : 0 < lcmpW x y := (lw_gt x y).mpr h
theorem own_flg {x y : Int64} (h : ¬ y < x) : ¬ 0 < lcmpW x y := fun q => h ((lw_gt x y).mp q)
theorem own_tle {x y : Int64} (h : x = y) : lcmpW x y = 0 := (lw_eq x y).mpr h
theorem own_fle {x y : Int64} (h : ¬ x = y) : ¬ lcmpW x y = 0 := fun q => h ((lw_eq x y).mp q)
section Own
variable {p : Program} {l : Launch} {e : Env} {R : Room} {s : State} {m : MethodId} {args : Array Value} {below : List Frame} {meth : Method} {c : Code} {T : State} {locs : List Loc} {cells slots : Nat} {Z : State} {h h' : Heap} {a b : Addr} {ty : FieldType} {vs : List Value} {v : Value}
theorem own_retI (X : Stand p l e R s m args below meth c T locs cells slots) (hx : p.tables.exec = Jvm.exec) {pc : Nat} {Ls : Array Slot} {z : Int32} {rest : List Value} (hret : meth.sig.returnType = some .int) (hd : decode c.code pc = .ok (.ireturn, 1)) {fs : List Frame}
    (hl : ∀ (f : JFrame) (acts : List Action), f.method = m → f.locked = none → f.entered = [] → (doReturn e (T.setTop f) acts (some (.int z))).1 = T.setFrames fs) : Steps p.tables e below (T.setTop (mkF m pc Ls (.int z :: rest))) (T.setFrames fs) :=
  retOut X hx hret rfl (Or.inl ⟨rfl, Or.inl rfl, z, rfl⟩) hd hl
theorem own_retJ (X : Stand p l e R s m args below meth c T locs cells slots) (hx : p.tables.exec = Jvm.exec) {pc : Nat} {Ls : Array Slot} {z : Int64} {rest : List Value} (hret : meth.sig.returnType = some .long) (hd : decode c.code pc = .ok (.lreturn, 1)) {fs : List Frame}
    (hl : ∀ (f : JFrame) (acts : List Action), f.method = m → f.locked = none → f.entered = [] → (doReturn e (T.setTop f) acts (some (.long z))).1 = T.setFrames fs) : Steps p.tables e below (T.setTop (mkF m pc Ls (.long z :: rest))) (T.setFrames fs) :=
  retOut X hx hret rfl (Or.inr (Or.inl ⟨rfl, rfl, z, rfl⟩)) hd hl
/-! own_L: the array at a holds just the list vs -/
def own_L (Z : State) (h : Heap) (a : Addr) (ty : FieldType) (vs : List Value) : Prop := ∃ cl : Cell, Arr Z h a cl ty ∧ cl.slots = vs.toArray
theorem own_L.lt (F : own_L Z h a ty vs) : a < h.size := by obtain ⟨cl, A, -⟩ := F; exact A.lt
theorem own_L.ext (F : own_L Z h a ty vs) (E : Ext h h') : own_L Z h' a ty vs := by obtain ⟨cl, A, q⟩ := F; exact ⟨cl, A.ext E, q⟩
theorem own_L.other {sl : Nat} (F : own_L Z h b ty vs) (W : Wr h h' a sl v) (q : b ≠ a) : own_L Z h' b ty vs := by obtain ⟨cl, A, r⟩ := F; exact ⟨cl, A.other W q, r⟩
theorem own_L.keep {ws : List Addr} (F : own_L Z h a ty vs) (K : Keep h h' ws) (q : a ∉ ws) : own_L Z h' a ty vs := by obtain ⟨cl, A, r⟩ := F; exact ⟨cl, ⟨K.2.1 a cl A.1 q, A.2⟩, r⟩
theorem own_L.new {k : ClassId} {z : Int32} (A : Arr Z h a (newA k ty z) ty) : own_L Z h a ty (List.replicate z.toNatClampNeg (defaultValue ty)) := ⟨_, A, by simp [newA]⟩
theorem own_L.same {k : Nat} (F : own_L Z h a ty vs) (W : Wr h h' a k v) : own_L Z h' a ty (vs.set k v) := by
  obtain ⟨cl, A, q⟩ := F
  exact ⟨_, A.same W, by simp [Cell.setSlot, q]⟩
theorem own_in {cl : Cell} {j : Int32} (q : cl.slots = vs.toArray) (h1 : ¬ j < 0) (h2 : j.toNatClampNeg < vs.length) : ¬ (j < 0 ∨ cl.slots.size ≤ j.toNatClampNeg) := by
  rw [q]
  rintro (r | r)
  · exact h1 r
  · simp at r; omega
theorem own_at {cl : Cell} {k : Nat} (q : cl.slots = vs.toArray) (hv : vs[k]? = some v) : cl.slots[k]? = some v := by rw [q]; simpa using hv
theorem own_lt {k : Nat} (hv : vs[k]? = some v) : k < vs.length := by
  obtain ⟨q, -⟩ := List.getElem?_eq_some_iff.mp hv
  exact q
theorem own_bld (X : Stand p l e R s m args below meth c T locs cells slots) (hx : p.tables.exec = Jvm.exec) (hZ : Z.Warmed39 s.vm) (eT : T.heap = h) (F : own_L Z h a .byte vs) {j : Int32} {i : Nat} (h1 : ¬ j < 0) (hi : j.toNatClampNeg = i) (hv : vs[i]? = some v) {g : JFrame} (hg : g.method = m) {rest : List Value} (hs : g.stack = .int j :: .ref a :: rest) (hd : decode c.code g.pc = .ok (.baload, 1)) :
    ∀ target, Steps p.tables e below (T.setTop { g with pc := g.pc + 1, stack := v :: rest }) target → Steps p.tables e below (T.setTop g) target := by
  obtain ⟨cl, A, q⟩ := F
  subst hi
  exact X.baloadBytes hx (by rw [eT]; exact A.1) (State.isArrayOf_alike hZ.alike A.2.1) A.2.2 (own_in q h1 (own_lt hv)) (own_at q hv) hg hs hd
theorem own_jld (X : Stand p l e R s m args below meth c T locs cells slots) (hx : p.tables.exec = Jvm.exec) (hZ : Z.Warmed39 s.vm) (eT : T.heap = h) (F : own_L Z h a .long vs) {j : Int32} {i : Nat} (h1 : ¬ j < 0) (hi : j.toNatClampNeg = i) (hv : vs[i]? = some v) {g : JFrame} (hg : g.method = m) {rest : List Value} (hs : g.stack = .int j :: .ref a :: rest) (hd : decode c.code g.pc = .ok (.laload, 1)) :
    ∀ target, Steps p.tables e below (T.setTop { g with pc := g.pc + 1, stack := v :: rest }) target → Steps p.tables e below (T.setTop g) target := by
  obtain ⟨cl, A, q⟩ := F
  subst hi
  exact X.laload hx (by rw [eT]; exact A.1) (State.isArrayOf_alike hZ.alike A.2.1) A.2.2 (own_in q h1 (own_lt hv)) (own_at q hv) hg hs hd
theorem own_ild (X : Stand p l e R s m args below meth c T locs cells slots) (hx : p.tables.exec = Jvm.exec) (hZ : Z.Warmed39 s.vm) (eT : T.heap = h) (F : own_L Z h a .int vs) {j : Int32} {i : Nat} (h1 : ¬ j < 0) (hi : j.toNatClampNeg = i) (hv : vs[i]? = some v) {g : JFrame} (hg : g.method = m) {rest : List Value} (hs : g.stack = .int j :: .ref a :: rest) (hd : decode c.code g.pc = .ok (.iaload, 1)) :
    ∀ target, Steps p.tables e below (T.setTop { g with pc := g.pc + 1, stack := v :: rest }) target → Steps p.tables e below (T.setTop g) target := by
  obtain ⟨cl, A, q⟩ := F
  subst hi
  exact X.iaload hx (by rw [eT]; exact A.1) (State.isArrayOf_alike hZ.alike A.2.1) A.2.2 (own_in q h1 (own_lt hv)) (own_at q hv) hg hs hd
theorem own_zld (X : Stand p l e R s m args below meth c T locs cells slots) (hx : p.tables.exec = Jvm.exec) (hZ : Z.Warmed39 s.vm) (eT : T.heap = h) (F : own_L Z h a .boolean vs) {j : Int32} {i : Nat} (h1 : ¬ j < 0) (hi : j.toNatClampNeg = i) (hv : vs[i]? = some v) {g : JFrame} (hg : g.method = m) {rest : List Value} (hs : g.stack = .int j :: .ref a :: rest) (hd : decode c.code g.pc = .ok (.baload, 1)) :
    ∀ target, Steps p.tables e below (T.setTop { g with pc := g.pc + 1, stack := v :: rest }) target → Steps p.tables e below (T.setTop g) target := by
  obtain ⟨cl, A, q⟩ := F
  subst hi
  exact X.baloadBooleans hx (by rw [eT]; exact A.1) (State.isArrayOf_alike hZ.alike A.2.1) A.2.2 (own_in q h1 (own_lt hv)) (own_at q hv) hg hs hd
theorem own_len (X : Stand p l e R s m args below meth c T locs cells slots) (hx : p.tables.exec = Jvm.exec) (hZ : Z.Warmed39 s.vm) (eT : T.heap = h) (F : own_L Z h a ty vs) {z : Int32} (hz : vs.length.toInt32 = z) {g : JFrame} (hg : g.method = m) {rest : List Value} (hs : g.stack = .ref a :: rest) (hd : decode c.code g.pc = .ok (.arraylength, 1)) :
    ∀ target, Steps p.tables e below (T.setTop { g with pc := g.pc + 1, stack := .int z :: rest }) target → Steps p.tables e below (T.setTop g) target := by
  obtain ⟨cl, A, q⟩ := F
  intro w k
  refine X.arraylength hx (by rw [eT]; exact A.1) (State.isArrayOf_alike hZ.alike A.2.1) hg hs hd w ?_
  have q2 : cl.slots.size.toInt32 = z := by rw [← hz, q]; simp
  rw [q2]; exact k
theorem own_bst (X : Stand p l e R s m args below meth c T locs cells slots) (hx : p.tables.exec = Jvm.exec) (hZ : Z.Warmed39 s.vm) (eT : T.heap = h) (F : own_L Z h a .byte vs) {j x : Int32} (i : Nat) (h1 : ¬ j < 0) (hi : j.toNatClampNeg = i) (h2 : i < vs.length) {g : JFrame} (hg : g.method = m) {rest : List Value} (hs : g.stack = .int x :: .int j :: .ref a :: rest) (hd : decode c.code g.pc = .ok (.bastore, 1)) :
    ∃ T' h', Stand p l e R s m args below meth c T' (locs ++ [⟨a, i⟩]) cells slots ∧ T'.heap = h' ∧ Wr h h' a i (.int x.toInt8.toInt32) ∧ own_L Z h' a .byte (vs.set i (.int x.toInt8.toInt32)) ∧ ∀ target, Steps p.tables e below (T'.setTop { g with pc := g.pc + 1, stack := rest }) target → Steps p.tables e below (T.setTop g) target := by
  obtain ⟨cl, A, q⟩ := F
  subst hi
  obtain ⟨T', h', X', e', W, st⟩ := stB X hx hZ eT A (own_in q h1 h2) hg hs hd
  exact ⟨T', h', X', e', W, own_L.same ⟨cl, A, q⟩ W, st⟩
theorem own_zst (X : Stand p l e R s m args below meth c T locs cells slots) (hx : p.tables.exec = Jvm.exec) (hZ : Z.Warmed39 s.vm) (eT : T.heap = h) (F : own_L Z h a .boolean vs) {j x : Int32} (i : Nat) (h1 : ¬ j < 0) (hi : j.toNatClampNeg = i) (h2 : i < vs.length) {g : JFrame} (hg : g.method = m) {rest : List Value} (hs : g.stack = .int x :: .int j :: .ref a :: rest) (hd : decode c.code g.pc = .ok (.bastore, 1)) :
    ∃ T' h', Stand p l e R s m args below meth c T' (locs ++ [⟨a, i⟩]) cells slots ∧ T'.heap = h' ∧ Wr h h' a i (.int (x &&& 1)) ∧ own_L Z h' a .boolean (vs.set i (.int (x &&& 1))) ∧ ∀ target, Steps p.tables e below (T'.setTop { g with pc := g.pc + 1, stack := rest }) target → Steps p.tables e below (T.setTop g) target := by
  obtain ⟨cl, A, q⟩ := F
  subst hi
  obtain ⟨T', h', X', e', W, st⟩ := stZ X hx hZ eT A (own_in q h1 h2) hg hs hd
  exact ⟨T', h', X', e', W, own_L.same ⟨cl, A, q⟩ W, st⟩
theorem own_jst (X : Stand p l e R s m args below meth c T locs cells slots) (hx : p.tables.exec = Jvm.exec) (hZ : Z.Warmed39 s.vm) (eT : T.heap = h) (F : own_L Z h a .long vs) {j : Int32} {x : Int64} (i : Nat) (h1 : ¬ j < 0) (hi : j.toNatClampNeg = i) (h2 : i < vs.length) {g : JFrame} (hg : g.method = m) {rest : List Value} (hs : g.stack = .long x :: .int j :: .ref a :: rest) (hd : decode c.code g.pc = .ok (.lastore, 1)) :
    ∃ T' h', Stand p l e R s m args below meth c T' (locs ++ [⟨a, i⟩]) cells slots ∧ T'.heap = h' ∧ Wr h h' a i (.long x) ∧ own_L Z h' a .long (vs.set i (.long x)) ∧ ∀ target, Steps p.tables e below (T'.setTop { g with pc := g.pc + 1, stack := rest }) target → Steps p.tables e below (T.setTop g) target := by
  obtain ⟨cl, A, q⟩ := F
  subst hi
  obtain ⟨T', h', X', e', W, st⟩ := stJ X hx hZ eT A (own_in q h1 h2) hg hs hd
  exact ⟨T', h', X', e', W, own_L.same ⟨cl, A, q⟩ W, st⟩
theorem own_ist (X : Stand p l e R s m args below meth c T locs cells slots) (hx : p.tables.exec = Jvm.exec) (hZ : Z.Warmed39 s.vm) (eT : T.heap = h) (F : own_L Z h a .int vs) {j x : Int32} (i : Nat) (h1 : ¬ j < 0) (hi : j.toNatClampNeg = i) (h2 : i < vs.length) {g : JFrame} (hg : g.method = m) {rest : List Value} (hs : g.stack = .int x :: .int j :: .ref a :: rest) (hd : decode c.code g.pc = .ok (.iastore, 1)) :
    ∃ T' h', Stand p l e R s m args below meth c T' (locs ++ [⟨a, i⟩]) cells slots ∧ T'.heap = h' ∧ Wr h h' a i (.int x) ∧ own_L Z h' a .int (vs.set i (.int x)) ∧ ∀ target, Steps p.tables e below (T'.setTop { g with pc := g.pc + 1, stack := rest }) target → Steps p.tables e below (T.setTop g) target := by
  obtain ⟨cl, A, q⟩ := F
  subst hi
  obtain ⟨T', h', X', e', W, st⟩ := stI X hx hZ eT A (own_in q h1 h2) hg hs hd
  exact ⟨T', h', X', e', W, own_L.same ⟨cl, A, q⟩ W, st⟩
theorem own_clone (X : Stand p l e R s m args below meth c T locs cells slots) (hx : p.tables.exec = Jvm.exec) (hZ : Z.Warmed39 s.vm) {a0 : Array Value} {own ad : String} {index : Nat} (hown : s.vm.findClass own = some m.cls)
    (w1 : (Cond.methodLink own index ⟨ad, "clone", "()Ljava/lang/Object;"⟩).before a0 Z = true) (w2 : (Cond.sameMethod ad "java/lang/Object" "clone" "()Ljava/lang/Object;").before a0 Z = true) (w3 : (Cond.native ⟨"java/lang/Object", "clone", "()Ljava/lang/Object;"⟩).before a0 Z = true)
    (w4 : (Cond.instanceMethod ⟨"java/lang/Object", "clone", "()Ljava/lang/Object;"⟩).before a0 Z = true) (w5 : (Cond.selects ad ⟨ad, "clone", "()Ljava/lang/Object;"⟩ ⟨"java/lang/Object", "clone", "()Ljava/lang/Object;"⟩).before a0 Z = true) (w6 : (Cond.castable ad "java/lang/Cloneable").before a0 Z = true)
    (eT : T.heap = h) (F : own_L Z h a ty vs) (E : Exa Z h a ad) (hfit : ∀ v ∈ vs, fits ty v = true) {g : JFrame} (hg : g.method = m) (hsize : g.locals.size = c.maxLocals) {rest : List Value} (hs : g.stack = .ref a :: rest) (hd : decode c.code g.pc = .ok (.invokevirtual index, 3))
    (hf : 1 ≤ R.frames) {W cap : Nat} (hW : 2 * g.monitorRoom + (rest.map fun v => v.category).sum ≤ W) (hl : W + 14 ≤ R.locals) (hcap : vs.length ≤ cap) (hc : cells + 1 ≤ R.cells) (hsl : slots + cap ≤ R.slots) :
    ∃ T' h', Stand p l e R s m args below meth c T' locs (cells + 1) (slots + cap) ∧ T'.heap = h' ∧ Ext h h' ∧ own_L Z h' h.size ty vs ∧ Exa Z h' h.size ad ∧
      ∀ target, Steps p.tables e below (T'.setTop { g with pc := g.pc + 3, stack := .ref h.size :: rest }) target → Steps p.tables e below (T.setTop g) target := by
  obtain ⟨cl, A, q⟩ := F
  have FC : FitC Z cl := fitC_of A fun i hi v hv => hfit v (by
    rw [q] at hv
    exact List.mem_of_getElem? (by simpa using hv))
  obtain ⟨T', h', X', e', ex, A', E', st⟩ := cloneA X hx hZ hown w1 w2 w3 w4 w5 w6 eT A E FC hg hsize hs hd hf hW hl (by rw [q]; simpa using hcap) hc hsl
  exact ⟨T', h', X', e', ex, ⟨cloneOf cl, A', q⟩, E', st⟩
end Own
theorem pn_0 : plainName "com/example/attestrum/attestrum/schemes/ec/P256FieldSelectPinLaw" = true := by first | (simp [plainName, overriddenIn]; done) | decide +kernel
theorem d1_0 : decode method_3_code 0 = .ok (.aload_n 0, 1) := by decide +kernel
theorem d1_1 : decode method_3_code 1 = .ok (.iconst 0, 1) := by decide +kernel
theorem d1_2 : decode method_3_code 2 = .ok (.lload_n 1, 1) := by decide +kernel
theorem d1_3 : decode method_3_code 3 = .ok (.ldc2_w 25, 3) := by decide +kernel
theorem d1_6 : decode method_3_code 6 = .ok (.land, 1) := by decide +kernel
theorem d1_7 : decode method_3_code 7 = .ok (.lastore, 1) := by decide +kernel
theorem d1_8 : decode method_3_code 8 = .ok (.aload_n 0, 1) := by decide +kernel
theorem d1_9 : decode method_3_code 9 = .ok (.iconst 1, 1) := by decide +kernel
theorem d1_10 : decode method_3_code 10 = .ok (.lload_n 1, 1) := by decide +kernel
theorem d1_11 : decode method_3_code 11 = .ok (.bipush 32, 2) := by decide +kernel
theorem d1_13 : decode method_3_code 13 = .ok (.lushr, 1) := by decide +kernel
theorem d1_14 : decode method_3_code 14 = .ok (.lastore, 1) := by decide +kernel
theorem d1_15 : decode method_3_code 15 = .ok (.aload_n 0, 1) := by decide +kernel
theorem d1_16 : decode method_3_code 16 = .ok (.iconst 2, 1) := by decide +kernel
theorem d1_17 : decode method_3_code 17 = .ok (.lload_n 3, 1) := by decide +kernel
theorem d1_18 : decode method_3_code 18 = .ok (.ldc2_w 25, 3) := by decide +kernel
theorem d1_21 : decode method_3_code 21 = .ok (.land, 1) := by decide +kernel
theorem d1_22 : decode method_3_code 22 = .ok (.lastore, 1) := by decide +kernel
theorem d1_23 : decode method_3_code 23 = .ok (.aload_n 0, 1) := by decide +kernel
theorem d1_24 : decode method_3_code 24 = .ok (.iconst 3, 1) := by decide +kernel
theorem d1_25 : decode method_3_code 25 = .ok (.lload_n 3, 1) := by decide +kernel
theorem d1_26 : decode method_3_code 26 = .ok (.bipush 32, 2) := by decide +kernel
theorem d1_28 : decode method_3_code 28 = .ok (.lushr, 1) := by decide +kernel
theorem d1_29 : decode method_3_code 29 = .ok (.lastore, 1) := by decide +kernel
theorem d1_30 : decode method_3_code 30 = .ok (.lload_n 1, 1) := by decide +kernel
theorem d1_31 : decode method_3_code 31 = .ok (.lload_n 3, 1) := by decide +kernel
theorem d1_32 : decode method_3_code 32 = .ok (.lxor, 1) := by decide +kernel
theorem d1_33 : decode method_3_code 33 = .ok (.lstore 5, 2) := by decide +kernel
theorem d1_35 : decode method_3_code 35 = .ok (.aload_n 0, 1) := by decide +kernel
theorem d1_36 : decode method_3_code 36 = .ok (.iconst 4, 1) := by decide +kernel
theorem d1_37 : decode method_3_code 37 = .ok (.lload 5, 2) := by decide +kernel
theorem d1_39 : decode method_3_code 39 = .ok (.ldc2_w 25, 3) := by decide +kernel
theorem d1_42 : decode method_3_code 42 = .ok (.land, 1) := by decide +kernel
theorem d1_43 : decode method_3_code 43 = .ok (.lastore, 1) := by decide +kernel
theorem d1_44 : decode method_3_code 44 = .ok (.aload_n 0, 1) := by decide +kernel
theorem d1_45 : decode method_3_code 45 = .ok (.iconst 5, 1) := by decide +kernel
theorem d1_46 : decode method_3_code 46 = .ok (.lload 5, 2) := by decide +kernel
theorem d1_48 : decode method_3_code 48 = .ok (.bipush 32, 2) := by decide +kernel
theorem d1_50 : decode method_3_code 50 = .ok (.lushr, 1) := by decide +kernel
theorem d1_51 : decode method_3_code 51 = .ok (.lastore, 1) := by decide +kernel
theorem d1_52 : decode method_3_code 52 = .ok (.lload_n 1, 1) := by decide +kernel
theorem d1_53 : decode method_3_code 53 = .ok (.lload_n 3, 1) := by decide +kernel
theorem d1_54 : decode method_3_code 54 = .ok (.ladd, 1) := by decide +kernel
theorem d1_55 : decode method_3_code 55 = .ok (.lstore 7, 2) := by decide +kernel
theorem d1_57 : decode method_3_code 57 = .ok (.aload_n 0, 1) := by decide +kernel
theorem d1_58 : decode method_3_code 58 = .ok (.bipush 6, 2) := by decide +kernel
theorem d1_60 : decode method_3_code 60 = .ok (.lload 7, 2) := by decide +kernel
theorem d1_62 : decode method_3_code 62 = .ok (.ldc2_w 25, 3) := by decide +kernel
theorem d1_65 : decode method_3_code 65 = .ok (.land, 1) := by decide +kernel
theorem d1_66 : decode method_3_code 66 = .ok (.lastore, 1) := by decide +kernel
theorem d1_67 : decode method_3_code 67 = .ok (.aload_n 0, 1) := by decide +kernel
theorem d1_68 : decode method_3_code 68 = .ok (.bipush 7, 2) := by decide +kernel
theorem d1_70 : decode method_3_code 70 = .ok (.lload 7, 2) := by decide +kernel
theorem d1_72 : decode method_3_code 72 = .ok (.bipush 32, 2) := by decide +kernel
theorem d1_74 : decode method_3_code 74 = .ok (.lushr, 1) := by decide +kernel
theorem d1_75 : decode method_3_code 75 = .ok (.lastore, 1) := by decide +kernel
theorem d1_76 : decode method_3_code 76 = .ok (.return_, 1) := by decide +kernel
theorem ef_rm1 (m : MethodId) (d0 : Addr) (q1 : Int64) (q2 : Int64) : entryFrame m #[(.ref d0), (.long q1), (.long q2)] 9 = mkF m 0 #[.val (.ref d0), .val (.long q1), .second, .val (.long q2), .second, .unset, .unset, .unset, .unset] [] := by first | (simp [entryFrame, mkF, argsToLocals, Value.category]; done) | rfl
def Q1 (Z : State) (d0 : Addr) (q1 : Int64) (q2 : Int64) (h0 : Heap) (n0 : Nat) (rv : Option Value) (hq : Heap) (Lq : List Loc) : Prop := rv = none ∧ Fr n0 Lq ∧ Keep h0 hq [d0] ∧ own_L Z hq d0 .long ([(.long (q1 &&& (4294967295 : Int64))), (.long ((q1.toUInt64 >>> ((32 : Int32) &&& 0x3f).toInt64.toUInt64).toInt64)), (.long (q2 &&& (4294967295 : Int64))), (.long ((q2.toUInt64 >>> ((32 : Int32) &&& 0x3f).toInt64.toUInt64).toInt64)), (.long ((q1 ^^^ q2) &&& (4294967295 : Int64))), (.long (((q1 ^^^ q2).toUInt64 >>> ((32 : Int32) &&& 0x3f).toInt64.toUInt64).toInt64)), (.long ((q1 + q2) &&& (4294967295 : Int64))), (.long (((q1 + q2).toUInt64 >>> ((32 : Int32) &&& 0x3f).toInt64.toUInt64).toInt64))])
set_option maxRecDepth 65536 in
set_option maxHeartbeats 40000000 in
theorem rm1 (l : Launch) (Z : State) (a0 : Array Value) (hw : ∀ d ∈ tables_1, d.before a0 Z = true) (ws : List Jvm.Cond) (d0 : Addr) (q1 : Int64) (q2 : Int64) (h0 : Heap) (n0 : Nat) (Z0 : n0 ≤ h0.size) (F0_ : own_L Z h0 d0 .long ([(.long (0 : Int64)), (.long (0 : Int64)), (.long (0 : Int64)), (.long (0 : Int64)), (.long (0 : Int64)), (.long (0 : Int64)), (.long (0 : Int64)), (.long (0 : Int64))])) (ge_d0 : n0 ≤ d0) :
    MetFree l (⟨"com/example/attestrum/attestrum/schemes/ec/P256FieldSelectPinLaw", "fill", "([JJJ)V"⟩ : MethodName) (head1 (Jvm.Cond.code (⟨"com/example/attestrum/attestrum/schemes/ec/P256FieldSelectPinLaw", "fill", "([JJJ)V"⟩ : MethodName) method_3_code 9 none :: ws) ({ frames := 0, cells := 0, slots := 0, locals := 0 } : Room)) (fun za U => za = #[(.ref d0), (.long q1), (.long q2)] ∧ Z.Warmed39 U.vm ∧ U.heap = h0) (fun _ _ _ _ _ => True) (fun _ U o U' => ∃ rv Lq, o = .returned rv ∧ Q1 Z d0 q1 q2 h0 n0 rv U'.heap Lq ∧ FrameEnd U o U' Lq ({ frames := 0, cells := 0, slots := 0, locals := 0 } : Room).cells ({ frames := 0, cells := 0, slots := 0, locals := 0 } : Room).slots) := by
  refine MetFree.of_bodySF (plainFor_of_name pn_0) hisR ?_
  intro p e s m args below meth c s₁ Bd hml0 hP hK
  obtain ⟨rfl, hZ, hh⟩ := hP
  have hx := Bd.exec
  have hby := Bd.bytes
  have hml : c.maxLocals = 9 := hml0
  have hown : s.vm.findClass "com/example/attestrum/attestrum/schemes/ec/P256FieldSelectPinLaw" = some m.cls := findClass_of_methodNamed Bd.named
  have hnm := (name_of_methodNamed Bd.named Bd.method).1
  have X0 : Stand p l e ({ frames := 0, cells := 0, slots := 0, locals := 0 } : Room) s m #[(.ref d0), (.long q1), (.long q2)] below meth c s₁ [] 0 0 := Stand.of_body Bd
  have e0 : s₁.heap = h0 := by rw [← hh, Bd.state]; rfl
  have N0 := Fr.nil n0
  refine own_out (own_nm fun G hG => own_st (fun zt zk => castTop (ef_rm1 m d0 q1 q2) zk) ?_)
  show own_Go p e below G (s₁.setTop (mkF m 0 #[.val (.ref d0), .val (.long q1), .second, .val (.long q2), .second, .unset, .unset, .unset, .unset] []))
  refine own_st (fun zw zk => XS.aloadN X0.here hx rfl (hb hby d1_0) rfl rfl zk) ?_
  refine own_st (fun zw zk => XS.iconst X0.here hx rfl (hb hby d1_1) zk) ?_
  refine own_st (fun zw zk => XS.lloadN X0.here hx rfl (hb hby d1_2) rfl zk) ?_
  refine own_st (fun zw zk => X0.ldc2Long hx hown (mvT hZ (hw _ (List.mem_of_getElem? (i := 5) rfl))) (g := (mkF m 3 #[.val (.ref d0), .val (.long q1), .second, .val (.long q2), .second, .unset, .unset, .unset, .unset] [(.long q1), (.int (0 : Int32)), (.ref d0)])) rfl (hb hby d1_3) _ zk) ?_
  refine own_st (fun zw zk => XS.land X0.here hx rfl (hb hby d1_6) rfl zk) ?_
  obtain ⟨T1, h1, X1, e1, W1, V1, st1⟩ := own_jst X0 hx hZ e0 F0_ (j := (0 : Int32)) (0) (by decide) (by decide) (Nat.le_of_ble_eq_true rfl) (g := (mkF m 7 #[.val (.ref d0), .val (.long q1), .second, .val (.long q2), .second, .unset, .unset, .unset, .unset] [(.long (q1 &&& (4294967295 : Int64))), (.int (0 : Int32)), (.ref d0)])) rfl rfl (hb hby d1_7)
  have F0_1 : own_L Z h1 d0 .long ([(.long (q1 &&& (4294967295 : Int64))), (.long (0 : Int64)), (.long (0 : Int64)), (.long (0 : Int64)), (.long (0 : Int64)), (.long (0 : Int64)), (.long (0 : Int64)), (.long (0 : Int64))]) := V1
  have N1 := Fr.snoc X1 N0 ge_d0
  refine own_st (fun zw zk => st1 zw zk) ?_
  have Z1 : n0 ≤ h1.size := Nat.le_trans Z0 (Keep.of_wr W1).1
  have Kp1 := (Keep.refl h0 [d0]).wr W1 (Or.inl (List.mem_of_getElem? (i := 0) rfl))
  refine own_st (fun zw zk => XS.aloadN X1.here hx rfl (hb hby d1_8) rfl rfl zk) ?_
  refine own_st (fun zw zk => XS.iconst X1.here hx rfl (hb hby d1_9) zk) ?_
  show own_Go p e below G (T1.setTop (mkF m 10 #[.val (.ref d0), .val (.long q1), .second, .val (.long q2), .second, .unset, .unset, .unset, .unset] [(.int (1 : Int32)), (.ref d0)]))
  refine own_st (fun zw zk => XS.lloadN X1.here hx rfl (hb hby d1_10) rfl zk) ?_
  refine own_st (fun zw zk => XS.bipush X1.here hx rfl (hb hby d1_11) zk) ?_
  refine own_st (fun zw zk => XS.lushr X1.here hx rfl (hb hby d1_13) rfl zk) ?_
  obtain ⟨T2, h2, X2, e2, W2, V2, st2⟩ := own_jst X1 hx hZ e1 F0_1 (j := (1 : Int32)) (1) (by decide) (by decide) (Nat.le_of_ble_eq_true rfl) (g := (mkF m 14 #[.val (.ref d0), .val (.long q1), .second, .val (.long q2), .second, .unset, .unset, .unset, .unset] [(.long ((q1.toUInt64 >>> ((32 : Int32) &&& 0x3f).toInt64.toUInt64).toInt64)), (.int (1 : Int32)), (.ref d0)])) rfl rfl (hb hby d1_14)
  have F0_2 : own_L Z h2 d0 .long ([(.long (q1 &&& (4294967295 : Int64))), (.long ((q1.toUInt64 >>> ((32 : Int32) &&& 0x3f).toInt64.toUInt64).toInt64)), (.long (0 : Int64)), (.long (0 : Int64)), (.long (0 : Int64)), (.long (0 : Int64)), (.long (0 : Int64)), (.long (0 : Int64))]) := V2
  have N2 := Fr.snoc X2 N1 ge_d0
  refine own_st (fun zw zk => st2 zw zk) ?_
  have Z2 : n0 ≤ h2.size := Nat.le_trans Z1 (Keep.of_wr W2).1
  have Kp2 := Kp1.wr W2 (Or.inl (List.mem_of_getElem? (i := 0) rfl))
  refine own_st (fun zw zk => XS.aloadN X2.here hx rfl (hb hby d1_15) rfl rfl zk) ?_
  refine own_st (fun zw zk => XS.iconst X2.here hx rfl (hb hby d1_16) zk) ?_
  refine own_st (fun zw zk => XS.lloadN X2.here hx rfl (hb hby d1_17) rfl zk) ?_
  refine own_st (fun zw zk => X2.ldc2Long hx hown (mvT hZ (hw _ (List.mem_of_getElem? (i := 5) rfl))) (g := (mkF m 18 #[.val (.ref d0), .val (.long q1), .second, .val (.long q2), .second, .unset, .unset, .unset, .unset] [(.long q2), (.int (2 : Int32)), (.ref d0)])) rfl (hb hby d1_18) _ zk) ?_
  show own_Go p e below G (T2.setTop (mkF m 21 #[.val (.ref d0), .val (.long q1), .second, .val (.long q2), .second, .unset, .unset, .unset, .unset] [(.long (4294967295 : Int64)), (.long q2), (.int (2 : Int32)), (.ref d0)]))
  refine own_st (fun zw zk => XS.land X2.here hx rfl (hb hby d1_21) rfl zk) ?_
  obtain ⟨T3, h3, X3, e3, W3, V3, st3⟩ := own_jst X2 hx hZ e2 F0_2 (j := (2 : Int32)) (2) (by decide) (by decide) (Nat.le_of_ble_eq_true rfl) (g := (mkF m 22 #[.val (.ref d0), .val (.long q1), .second, .val (.long q2), .second, .unset, .unset, .unset, .unset] [(.long (q2 &&& (4294967295 : Int64))), (.int (2 : Int32)), (.ref d0)])) rfl rfl (hb hby d1_22)
  have F0_3 : own_L Z h3 d0 .long ([(.long (q1 &&& (4294967295 : Int64))), (.long ((q1.toUInt64 >>> ((32 : Int32) &&& 0x3f).toInt64.toUInt64).toInt64)), (.long (q2 &&& (4294967295 : Int64))), (.long (0 : Int64)), (.long (0 : Int64)), (.long (0 : Int64)), (.long (0 : Int64)), (.long (0 : Int64))]) := V3
  have N3 := Fr.snoc X3 N2 ge_d0
  refine own_st (fun zw zk => st3 zw zk) ?_
  have Z3 : n0 ≤ h3.size := Nat.le_trans Z2 (Keep.of_wr W3).1
  have Kp3 := Kp2.wr W3 (Or.inl (List.mem_of_getElem? (i := 0) rfl))
  refine own_st (fun zw zk => XS.aloadN X3.here hx rfl (hb hby d1_23) rfl rfl zk) ?_
  refine own_st (fun zw zk => XS.iconst X3.here hx rfl (hb hby d1_24) zk) ?_
  refine own_st (fun zw zk => XS.lloadN X3.here hx rfl (hb hby d1_25) rfl zk) ?_
  refine own_st (fun zw zk => XS.bipush X3.here hx rfl (hb hby d1_26) zk) ?_
  refine own_st (fun zw zk => XS.lushr X3.here hx rfl (hb hby d1_28) rfl zk) ?_
  obtain ⟨T4, h4, X4, e4, W4, V4, st4⟩ := own_jst X3 hx hZ e3 F0_3 (j := (3 : Int32)) (3) (by decide) (by decide) (Nat.le_of_ble_eq_true rfl) (g := (mkF m 29 #[.val (.ref d0), .val (.long q1), .second, .val (.long q2), .second, .unset, .unset, .unset, .unset] [(.long ((q2.toUInt64 >>> ((32 : Int32) &&& 0x3f).toInt64.toUInt64).toInt64)), (.int (3 : Int32)), (.ref d0)])) rfl rfl (hb hby d1_29)
  have F0_4 : own_L Z h4 d0 .long ([(.long (q1 &&& (4294967295 : Int64))), (.long ((q1.toUInt64 >>> ((32 : Int32) &&& 0x3f).toInt64.toUInt64).toInt64)), (.long (q2 &&& (4294967295 : Int64))), (.long ((q2.toUInt64 >>> ((32 : Int32) &&& 0x3f).toInt64.toUInt64).toInt64)), (.long (0 : Int64)), (.long (0 : Int64)), (.long (0 : Int64)), (.long (0 : Int64))]) := V4
  have N4 := Fr.snoc X4 N3 ge_d0
  refine own_st (fun zw zk => st4 zw zk) ?_
  have Z4 : n0 ≤ h4.size := Nat.le_trans Z3 (Keep.of_wr W4).1
  have Kp4 := Kp3.wr W4 (Or.inl (List.mem_of_getElem? (i := 0) rfl))
  show own_Go p e below G (T4.setTop (mkF m 30 #[.val (.ref d0), .val (.long q1), .second, .val (.long q2), .second, .unset, .unset, .unset, .unset] []))
  refine own_st (fun zw zk => XS.lloadN X4.here hx rfl (hb hby d1_30) rfl zk) ?_
  refine own_st (fun zw zk => XS.lloadN X4.here hx rfl (hb hby d1_31) rfl zk) ?_
  refine own_st (fun zw zk => XS.lxor X4.here hx rfl (hb hby d1_32) rfl zk) ?_
  refine own_st (fun zw zk => XS.lstore X4.here hx rfl (hb hby d1_33) rfl rfl zk) ?_
  show own_Go p e below G (T4.setTop (mkF m 35 #[.val (.ref d0), .val (.long q1), .second, .val (.long q2), .second, .val (.long (q1 ^^^ q2)), .second, .unset, .unset] []))
  refine own_st (fun zw zk => XS.aloadN X4.here hx rfl (hb hby d1_35) rfl rfl zk) ?_
  refine own_st (fun zw zk => XS.iconst X4.here hx rfl (hb hby d1_36) zk) ?_
  refine own_st (fun zw zk => XS.lload X4.here hx rfl (hb hby d1_37) rfl zk) ?_
  refine own_st (fun zw zk => X4.ldc2Long hx hown (mvT hZ (hw _ (List.mem_of_getElem? (i := 5) rfl))) (g := (mkF m 39 #[.val (.ref d0), .val (.long q1), .second, .val (.long q2), .second, .val (.long (q1 ^^^ q2)), .second, .unset, .unset] [(.long (q1 ^^^ q2)), (.int (4 : Int32)), (.ref d0)])) rfl (hb hby d1_39) _ zk) ?_
  refine own_st (fun zw zk => XS.land X4.here hx rfl (hb hby d1_42) rfl zk) ?_
  obtain ⟨T5, h5, X5, e5, W5, V5, st5⟩ := own_jst X4 hx hZ e4 F0_4 (j := (4 : Int32)) (4) (by decide) (by decide) (Nat.le_of_ble_eq_true rfl) (g := (mkF m 43 #[.val (.ref d0), .val (.long q1), .second, .val (.long q2), .second, .val (.long (q1 ^^^ q2)), .second, .unset, .unset] [(.long ((q1 ^^^ q2) &&& (4294967295 : Int64))), (.int (4 : Int32)), (.ref d0)])) rfl rfl (hb hby d1_43)
  have F0_5 : own_L Z h5 d0 .long ([(.long (q1 &&& (4294967295 : Int64))), (.long ((q1.toUInt64 >>> ((32 : Int32) &&& 0x3f).toInt64.toUInt64).toInt64)), (.long (q2 &&& (4294967295 : Int64))), (.long ((q2.toUInt64 >>> ((32 : Int32) &&& 0x3f).toInt64.toUInt64).toInt64)), (.long ((q1 ^^^ q2) &&& (4294967295 : Int64))), (.long (0 : Int64)), (.long (0 : Int64)), (.long (0 : Int64))]) := V5
  have N5 := Fr.snoc X5 N4 ge_d0
  refine own_st (fun zw zk => st5 zw zk) ?_
  have Z5 : n0 ≤ h5.size := Nat.le_trans Z4 (Keep.of_wr W5).1
  have Kp5 := Kp4.wr W5 (Or.inl (List.mem_of_getElem? (i := 0) rfl))
  refine own_st (fun zw zk => XS.aloadN X5.here hx rfl (hb hby d1_44) rfl rfl zk) ?_
  refine own_st (fun zw zk => XS.iconst X5.here hx rfl (hb hby d1_45) zk) ?_
  show own_Go p e below G (T5.setTop (mkF m 46 #[.val (.ref d0), .val (.long q1), .second, .val (.long q2), .second, .val (.long (q1 ^^^ q2)), .second, .unset, .unset] [(.int (5 : Int32)), (.ref d0)]))
  refine own_st (fun zw zk => XS.lload X5.here hx rfl (hb hby d1_46) rfl zk) ?_
  refine own_st (fun zw zk => XS.bipush X5.here hx rfl (hb hby d1_48) zk) ?_
  refine own_st (fun zw zk => XS.lushr X5.here hx rfl (hb hby d1_50) rfl zk) ?_
  obtain ⟨T6, h6, X6, e6, W6, V6, st6⟩ := own_jst X5 hx hZ e5 F0_5 (j := (5 : Int32)) (5) (by decide) (by decide) (Nat.le_of_ble_eq_true rfl) (g := (mkF m 51 #[.val (.ref d0), .val (.long q1), .second, .val (.long q2), .second, .val (.long (q1 ^^^ q2)), .second, .unset, .unset] [(.long (((q1 ^^^ q2).toUInt64 >>> ((32 : Int32) &&& 0x3f).toInt64.toUInt64).toInt64)), (.int (5 : Int32)), (.ref d0)])) rfl rfl (hb hby d1_51)
  have F0_6 : own_L Z h6 d0 .long ([(.long (q1 &&& (4294967295 : Int64))), (.long ((q1.toUInt64 >>> ((32 : Int32) &&& 0x3f).toInt64.toUInt64).toInt64)), (.long (q2 &&& (4294967295 : Int64))), (.long ((q2.toUInt64 >>> ((32 : Int32) &&& 0x3f).toInt64.toUInt64).toInt64)), (.long ((q1 ^^^ q2) &&& (4294967295 : Int64))), (.long (((q1 ^^^ q2).toUInt64 >>> ((32 : Int32) &&& 0x3f).toInt64.toUInt64).toInt64)), (.long (0 : Int64)), (.long (0 : Int64))]) := V6
  have N6 := Fr.snoc X6 N5 ge_d0
  refine own_st (fun zw zk => st6 zw zk) ?_
  have Z6 : n0 ≤ h6.size := Nat.le_trans Z5 (Keep.of_wr W6).1
  have Kp6 := Kp5.wr W6 (Or.inl (List.mem_of_getElem? (i := 0) rfl))
  refine own_st (fun zw zk => XS.lloadN X6.here hx rfl (hb hby d1_52) rfl zk) ?_
  refine own_st (fun zw zk => XS.lloadN X6.here hx rfl (hb hby d1_53) rfl zk) ?_
  refine own_st (fun zw zk => XS.ladd X6.here hx rfl (hb hby d1_54) rfl zk) ?_
  refine own_st (fun zw zk => XS.lstore X6.here hx rfl (hb hby d1_55) rfl rfl zk) ?_
  show own_Go p e below G (T6.setTop (mkF m 57 #[.val (.ref d0), .val (.long q1), .second, .val (.long q2), .second, .val (.long (q1 ^^^ q2)), .second, .val (.long (q1 + q2)), .second] []))
  refine own_st (fun zw zk => XS.aloadN X6.here hx rfl (hb hby d1_57) rfl rfl zk) ?_
  refine own_st (fun zw zk => XS.bipush X6.here hx rfl (hb hby d1_58) zk) ?_
  refine own_st (fun zw zk => XS.lload X6.here hx rfl (hb hby d1_60) rfl zk) ?_
  refine own_st (fun zw zk => X6.ldc2Long hx hown (mvT hZ (hw _ (List.mem_of_getElem? (i := 5) rfl))) (g := (mkF m 62 #[.val (.ref d0), .val (.long q1), .second, .val (.long q2), .second, .val (.long (q1 ^^^ q2)), .second, .val (.long (q1 + q2)), .second] [(.long (q1 + q2)), (.int (6 : Int32)), (.ref d0)])) rfl (hb hby d1_62) _ zk) ?_
  refine own_st (fun zw zk => XS.land X6.here hx rfl (hb hby d1_65) rfl zk) ?_
  obtain ⟨T7, h7, X7, e7, W7, V7, st7⟩ := own_jst X6 hx hZ e6 F0_6 (j := (6 : Int32)) (6) (by decide) (by decide) (Nat.le_of_ble_eq_true rfl) (g := (mkF m 66 #[.val (.ref d0), .val (.long q1), .second, .val (.long q2), .second, .val (.long (q1 ^^^ q2)), .second, .val (.long (q1 + q2)), .second] [(.long ((q1 + q2) &&& (4294967295 : Int64))), (.int (6 : Int32)), (.ref d0)])) rfl rfl (hb hby d1_66)
  have F0_7 : own_L Z h7 d0 .long ([(.long (q1 &&& (4294967295 : Int64))), (.long ((q1.toUInt64 >>> ((32 : Int32) &&& 0x3f).toInt64.toUInt64).toInt64)), (.long (q2 &&& (4294967295 : Int64))), (.long ((q2.toUInt64 >>> ((32 : Int32) &&& 0x3f).toInt64.toUInt64).toInt64)), (.long ((q1 ^^^ q2) &&& (4294967295 : Int64))), (.long (((q1 ^^^ q2).toUInt64 >>> ((32 : Int32) &&& 0x3f).toInt64.toUInt64).toInt64)), (.long ((q1 + q2) &&& (4294967295 : Int64))), (.long (0 : Int64))]) := V7
  have N7 := Fr.snoc X7 N6 ge_d0
  refine own_st (fun zw zk => st7 zw zk) ?_
  have Z7 : n0 ≤ h7.size := Nat.le_trans Z6 (Keep.of_wr W7).1
  have Kp7 := Kp6.wr W7 (Or.inl (List.mem_of_getElem? (i := 0) rfl))
  refine own_st (fun zw zk => XS.aloadN X7.here hx rfl (hb hby d1_67) rfl rfl zk) ?_
  refine own_st (fun zw zk => XS.bipush X7.here hx rfl (hb hby d1_68) zk) ?_
  show own_Go p e below G (T7.setTop (mkF m 70 #[.val (.ref d0), .val (.long q1), .second, .val (.long q2), .second, .val (.long (q1 ^^^ q2)), .second, .val (.long (q1 + q2)), .second] [(.int (7 : Int32)), (.ref d0)]))
  refine own_st (fun zw zk => XS.lload X7.here hx rfl (hb hby d1_70) rfl zk) ?_
  refine own_st (fun zw zk => XS.bipush X7.here hx rfl (hb hby d1_72) zk) ?_
  refine own_st (fun zw zk => XS.lushr X7.here hx rfl (hb hby d1_74) rfl zk) ?_
  obtain ⟨T8, h8, X8, e8, W8, V8, st8⟩ := own_jst X7 hx hZ e7 F0_7 (j := (7 : Int32)) (7) (by decide) (by decide) (Nat.le_of_ble_eq_true rfl) (g := (mkF m 75 #[.val (.ref d0), .val (.long q1), .second, .val (.long q2), .second, .val (.long (q1 ^^^ q2)), .second, .val (.long (q1 + q2)), .second] [(.long (((q1 + q2).toUInt64 >>> ((32 : Int32) &&& 0x3f).toInt64.toUInt64).toInt64)), (.int (7 : Int32)), (.ref d0)])) rfl rfl (hb hby d1_75)
  have F0_8 : own_L Z h8 d0 .long ([(.long (q1 &&& (4294967295 : Int64))), (.long ((q1.toUInt64 >>> ((32 : Int32) &&& 0x3f).toInt64.toUInt64).toInt64)), (.long (q2 &&& (4294967295 : Int64))), (.long ((q2.toUInt64 >>> ((32 : Int32) &&& 0x3f).toInt64.toUInt64).toInt64)), (.long ((q1 ^^^ q2) &&& (4294967295 : Int64))), (.long (((q1 ^^^ q2).toUInt64 >>> ((32 : Int32) &&& 0x3f).toInt64.toUInt64).toInt64)), (.long ((q1 + q2) &&& (4294967295 : Int64))), (.long (((q1 + q2).toUInt64 >>> ((32 : Int32) &&& 0x3f).toInt64.toUInt64).toInt64))]) := V8
  have N8 := Fr.snoc X8 N7 ge_d0
  refine own_st (fun zw zk => st8 zw zk) ?_
  have Z8 : n0 ≤ h8.size := Nat.le_trans Z7 (Keep.of_wr W8).1
  have Kp8 := Kp7.wr W8 (Or.inl (List.mem_of_getElem? (i := 0) rfl))
  subst hG
  obtain ⟨fs, hr, hrun, hended, hW, hsame⟩ := X8.leave (v := none) (fun _ => rfl)
  refine ⟨_, X8.returnOut hx Bd.returns (hb hby d1_76) hr, _, hrun, hended, _, _, rfl, ?_, ⟨_, rfl⟩, hW, hsame.mono (by decide) (by decide)⟩
  show Q1 Z d0 q1 q2 h0 n0 _ T8.heap _
  rw [e8]
  exact ⟨rfl, N8, Kp8, F0_8⟩
theorem pn_1 : plainName "com/example/attestrum/attestrum/schemes/ec/P256Field" = true := by first | (simp [plainName, overriddenIn]; done) | decide +kernel
theorem d2_0 : decode prog_52_method_12_code 0 = .ok (.iconst 0, 1) := by decide +kernel
theorem d2_1 : decode prog_52_method_12_code 1 = .ok (.istore 4, 2) := by decide +kernel
theorem d2_3 : decode prog_52_method_12_code 3 = .ok (.iload 4, 2) := by decide +kernel
theorem d2_5 : decode prog_52_method_12_code 5 = .ok (.bipush 8, 2) := by decide +kernel
theorem d2_7 : decode prog_52_method_12_code 7 = .ok (.if_icmp .ge 27, 3) := by decide +kernel
theorem d2_10 : decode prog_52_method_12_code 10 = .ok (.aload_n 0, 1) := by decide +kernel
theorem d2_11 : decode prog_52_method_12_code 11 = .ok (.iload 4, 2) := by decide +kernel
theorem d2_13 : decode prog_52_method_12_code 13 = .ok (.dup2, 1) := by decide +kernel
theorem d2_14 : decode prog_52_method_12_code 14 = .ok (.laload, 1) := by decide +kernel
theorem d2_15 : decode prog_52_method_12_code 15 = .ok (.aload_n 0, 1) := by decide +kernel
theorem d2_16 : decode prog_52_method_12_code 16 = .ok (.iload 4, 2) := by decide +kernel
theorem d2_18 : decode prog_52_method_12_code 18 = .ok (.laload, 1) := by decide +kernel
theorem d2_19 : decode prog_52_method_12_code 19 = .ok (.aload_n 1, 1) := by decide +kernel
theorem d2_20 : decode prog_52_method_12_code 20 = .ok (.iload 4, 2) := by decide +kernel
theorem d2_22 : decode prog_52_method_12_code 22 = .ok (.laload, 1) := by decide +kernel
theorem d2_23 : decode prog_52_method_12_code 23 = .ok (.lxor, 1) := by decide +kernel
theorem d2_24 : decode prog_52_method_12_code 24 = .ok (.lload_n 2, 1) := by decide +kernel
theorem d2_25 : decode prog_52_method_12_code 25 = .ok (.land, 1) := by decide +kernel
theorem d2_26 : decode prog_52_method_12_code 26 = .ok (.lxor, 1) := by decide +kernel
theorem d2_27 : decode prog_52_method_12_code 27 = .ok (.lastore, 1) := by decide +kernel
theorem d2_28 : decode prog_52_method_12_code 28 = .ok (.iinc 4 1, 3) := by decide +kernel
theorem d2_31 : decode prog_52_method_12_code 31 = .ok (.goto (-28), 3) := by decide +kernel
theorem d2_34 : decode prog_52_method_12_code 34 = .ok (.return_, 1) := by decide +kernel
theorem ef_rm2 (m : MethodId) (d0 : Addr) (d1 : Addr) (q2 : Int64) : entryFrame m #[(.ref d0), (.ref d1), (.long q2)] 5 = mkF m 0 #[.val (.ref d0), .val (.ref d1), .val (.long q2), .second, .unset] [] := by first | (simp [entryFrame, mkF, argsToLocals, Value.category]; done) | rfl
def Q2 (Z : State) (d0 : Addr) (d1 : Addr) (q2 : Int64) (r0 : Int64) (r1 : Int64) (r2 : Int64) (r3 : Int64) (r4 : Int64) (r5 : Int64) (r6 : Int64) (r7 : Int64) (c0 : Int64) (c1 : Int64) (c2 : Int64) (c3 : Int64) (c4 : Int64) (c5 : Int64) (c6 : Int64) (c7 : Int64) (h0 : Heap) (n0 : Nat) (rv : Option Value) (hq : Heap) (Lq : List Loc) : Prop := rv = none ∧ Fr n0 Lq ∧ Keep h0 hq [d0] ∧ own_L Z hq d0 .long ([(.long (r0 ^^^ ((r0 ^^^ c0) &&& q2))), (.long (r1 ^^^ ((r1 ^^^ c1) &&& q2))), (.long (r2 ^^^ ((r2 ^^^ c2) &&& q2))), (.long (r3 ^^^ ((r3 ^^^ c3) &&& q2))), (.long (r4 ^^^ ((r4 ^^^ c4) &&& q2))), (.long (r5 ^^^ ((r5 ^^^ c5) &&& q2))), (.long (r6 ^^^ ((r6 ^^^ c6) &&& q2))), (.long (r7 ^^^ ((r7 ^^^ c7) &&& q2)))])
set_option maxRecDepth 65536 in
set_option maxHeartbeats 40000000 in
theorem rm2 (l : Launch) (Z : State) (a0 : Array Value) (hw : ∀ d ∈ tables_1, d.before a0 Z = true) (ws : List Jvm.Cond) (d0 : Addr) (d1 : Addr) (q2 : Int64) (r0 : Int64) (r1 : Int64) (r2 : Int64) (r3 : Int64) (r4 : Int64) (r5 : Int64) (r6 : Int64) (r7 : Int64) (c0 : Int64) (c1 : Int64) (c2 : Int64) (c3 : Int64) (c4 : Int64) (c5 : Int64) (c6 : Int64) (c7 : Int64) (h0 : Heap) (n0 : Nat) (Z0 : n0 ≤ h0.size) (F0_ : own_L Z h0 d0 .long ([(.long r0), (.long r1), (.long r2), (.long r3), (.long r4), (.long r5), (.long r6), (.long r7)])) (F1_ : own_L Z h0 d1 .long ([(.long c0), (.long c1), (.long c2), (.long c3), (.long c4), (.long c5), (.long c6), (.long c7)])) (ge_d0 : n0 ≤ d0) (ne_d0_d1 : d0 ≠ d1) :
    MetFree l (⟨"com/example/attestrum/attestrum/schemes/ec/P256Field", "select", "([J[JJ)V"⟩ : MethodName) (head1 (Jvm.Cond.code (⟨"com/example/attestrum/attestrum/schemes/ec/P256Field", "select", "([J[JJ)V"⟩ : MethodName) prog_52_method_12_code 5 none :: ws) ({ frames := 0, cells := 0, slots := 0, locals := 0 } : Room)) (fun za U => za = #[(.ref d0), (.ref d1), (.long q2)] ∧ Z.Warmed39 U.vm ∧ U.heap = h0) (fun _ _ _ _ _ => True) (fun _ U o U' => ∃ rv Lq, o = .returned rv ∧ Q2 Z d0 d1 q2 r0 r1 r2 r3 r4 r5 r6 r7 c0 c1 c2 c3 c4 c5 c6 c7 h0 n0 rv U'.heap Lq ∧ FrameEnd U o U' Lq ({ frames := 0, cells := 0, slots := 0, locals := 0 } : Room).cells ({ frames := 0, cells := 0, slots := 0, locals := 0 } : Room).slots) := by
  refine MetFree.of_bodySF (plainFor_of_name pn_1) hisR ?_
  intro p e s m args below meth c s₁ Bd hml0 hP hK
  obtain ⟨rfl, hZ, hh⟩ := hP
  have hx := Bd.exec
  have hby := Bd.bytes
  have hml : c.maxLocals = 5 := hml0
  have hown : s.vm.findClass "com/example/attestrum/attestrum/schemes/ec/P256Field" = some m.cls := findClass_of_methodNamed Bd.named
  have hnm := (name_of_methodNamed Bd.named Bd.method).1
  have X0 : Stand p l e ({ frames := 0, cells := 0, slots := 0, locals := 0 } : Room) s m #[(.ref d0), (.ref d1), (.long q2)] below meth c s₁ [] 0 0 := Stand.of_body Bd
  have e0 : s₁.heap = h0 := by rw [← hh, Bd.state]; rfl
  have N0 := Fr.nil n0
  refine own_out (own_nm fun G hG => own_st (fun zt zk => castTop (ef_rm2 m d0 d1 q2) zk) ?_)
  show own_Go p e below G (s₁.setTop (mkF m 0 #[.val (.ref d0), .val (.ref d1), .val (.long q2), .second, .unset] []))
  refine own_st (fun zw zk => XS.iconst X0.here hx rfl (hb hby d2_0) zk) ?_
  refine own_st (fun zw zk => XS.istore X0.here hx rfl (hb hby d2_1) rfl rfl zk) ?_
  show own_Go p e below G (s₁.setTop (mkF m 3 #[.val (.ref d0), .val (.ref d1), .val (.long q2), .second, .val (.int (0 : Int32))] []))
  refine own_st (fun zw zk => XS.iload X0.here hx rfl (hb hby d2_3) rfl zk) ?_
  refine own_st (fun zw zk => XS.bipush X0.here hx rfl (hb hby d2_5) zk) ?_
  refine own_st (fun zw zk => XS.icmpNo X0.here hx rfl (hb hby d2_7) rfl (tlt (by decide : (0 : Int32) < (8 : Int32))).2.1 zk) ?_
  refine own_st (fun zw zk => XS.aloadN X0.here hx rfl (hb hby d2_10) rfl rfl zk) ?_
  refine own_st (fun zw zk => XS.iload X0.here hx rfl (hb hby d2_11) rfl zk) ?_
  refine own_st (fun zw zk => XT.dup2 X0.here hx rfl (hb hby d2_13) rfl rfl rfl zk) ?_
  refine own_st (fun zw zk => own_jld X0 hx hZ e0 F0_ (j := (0 : Int32)) (v := (.long r0)) (i := 0) (by decide) (by decide) rfl (g := (mkF m 14 #[.val (.ref d0), .val (.ref d1), .val (.long q2), .second, .val (.int (0 : Int32))] [(.int (0 : Int32)), (.ref d0), (.int (0 : Int32)), (.ref d0)])) rfl rfl (hb hby d2_14) _ zk) ?_
  refine own_st (fun zw zk => XS.aloadN X0.here hx rfl (hb hby d2_15) rfl rfl zk) ?_
  show own_Go p e below G (s₁.setTop (mkF m 16 #[.val (.ref d0), .val (.ref d1), .val (.long q2), .second, .val (.int (0 : Int32))] [(.ref d0), (.long r0), (.int (0 : Int32)), (.ref d0)]))
  refine own_st (fun zw zk => XS.iload X0.here hx rfl (hb hby d2_16) rfl zk) ?_
  refine own_st (fun zw zk => own_jld X0 hx hZ e0 F0_ (j := (0 : Int32)) (v := (.long r0)) (i := 0) (by decide) (by decide) rfl (g := (mkF m 18 #[.val (.ref d0), .val (.ref d1), .val (.long q2), .second, .val (.int (0 : Int32))] [(.int (0 : Int32)), (.ref d0), (.long r0), (.int (0 : Int32)), (.ref d0)])) rfl rfl (hb hby d2_18) _ zk) ?_
  refine own_st (fun zw zk => XS.aloadN X0.here hx rfl (hb hby d2_19) rfl rfl zk) ?_
  refine own_st (fun zw zk => XS.iload X0.here hx rfl (hb hby d2_20) rfl zk) ?_
  refine own_st (fun zw zk => own_jld X0 hx hZ e0 F1_ (j := (0 : Int32)) (v := (.long c0)) (i := 0) (by decide) (by decide) rfl (g := (mkF m 22 #[.val (.ref d0), .val (.ref d1), .val (.long q2), .second, .val (.int (0 : Int32))] [(.int (0 : Int32)), (.ref d1), (.long r0), (.long r0), (.int (0 : Int32)), (.ref d0)])) rfl rfl (hb hby d2_22) _ zk) ?_
  refine own_st (fun zw zk => XS.lxor X0.here hx rfl (hb hby d2_23) rfl zk) ?_
  refine own_st (fun zw zk => XS.lloadN X0.here hx rfl (hb hby d2_24) rfl zk) ?_
  refine own_st (fun zw zk => XS.land X0.here hx rfl (hb hby d2_25) rfl zk) ?_
  show own_Go p e below G (s₁.setTop (mkF m 26 #[.val (.ref d0), .val (.ref d1), .val (.long q2), .second, .val (.int (0 : Int32))] [(.long ((r0 ^^^ c0) &&& q2)), (.long r0), (.int (0 : Int32)), (.ref d0)]))
  refine own_st (fun zw zk => XS.lxor X0.here hx rfl (hb hby d2_26) rfl zk) ?_
  obtain ⟨T9, h9, X9, e9, W9, V9, st9⟩ := own_jst X0 hx hZ e0 F0_ (j := (0 : Int32)) (0) (by decide) (by decide) (Nat.le_of_ble_eq_true rfl) (g := (mkF m 27 #[.val (.ref d0), .val (.ref d1), .val (.long q2), .second, .val (.int (0 : Int32))] [(.long (r0 ^^^ ((r0 ^^^ c0) &&& q2))), (.int (0 : Int32)), (.ref d0)])) rfl rfl (hb hby d2_27)
  have F0_9 : own_L Z h9 d0 .long ([(.long (r0 ^^^ ((r0 ^^^ c0) &&& q2))), (.long r1), (.long r2), (.long r3), (.long r4), (.long r5), (.long r6), (.long r7)]) := V9
  have N9 := Fr.snoc X9 N0 ge_d0
  refine own_st (fun zw zk => st9 zw zk) ?_
  have F1_9 := F1_.other W9 (Ne.symm ne_d0_d1)
  have Z9 : n0 ≤ h9.size := Nat.le_trans Z0 (Keep.of_wr W9).1
  have Kp9 := (Keep.refl h0 [d0]).wr W9 (Or.inl (List.mem_of_getElem? (i := 0) rfl))
  refine own_st (fun zw zk => XS.iinc X9.here hx rfl (hb hby d2_28) rfl rfl zk) ?_
  show own_Go p e below G (T9.setTop (mkF m 31 #[.val (.ref d0), .val (.ref d1), .val (.long q2), .second, .val (.int (1 : Int32))] []))
  refine own_st (fun zw zk => XS.goto X9.here hx rfl (pc0 := 31) (pc' := 3) rfl (hb hby d2_31) (by decide) (by decide) zk) ?_
  show own_Go p e below G (T9.setTop (mkF m 3 #[.val (.ref d0), .val (.ref d1), .val (.long q2), .second, .val (.int (1 : Int32))] []))
  refine own_st (fun zw zk => XS.iload X9.here hx rfl (hb hby d2_3) rfl zk) ?_
  refine own_st (fun zw zk => XS.bipush X9.here hx rfl (hb hby d2_5) zk) ?_
  refine own_st (fun zw zk => XS.icmpNo X9.here hx rfl (hb hby d2_7) rfl (tlt (by decide : (1 : Int32) < (8 : Int32))).2.1 zk) ?_
  refine own_st (fun zw zk => XS.aloadN X9.here hx rfl (hb hby d2_10) rfl rfl zk) ?_
  refine own_st (fun zw zk => XS.iload X9.here hx rfl (hb hby d2_11) rfl zk) ?_
  refine own_st (fun zw zk => XT.dup2 X9.here hx rfl (hb hby d2_13) rfl rfl rfl zk) ?_
  refine own_st (fun zw zk => own_jld X9 hx hZ e9 F0_9 (j := (1 : Int32)) (v := (.long r1)) (i := 1) (by decide) (by decide) rfl (g := (mkF m 14 #[.val (.ref d0), .val (.ref d1), .val (.long q2), .second, .val (.int (1 : Int32))] [(.int (1 : Int32)), (.ref d0), (.int (1 : Int32)), (.ref d0)])) rfl rfl (hb hby d2_14) _ zk) ?_
  refine own_st (fun zw zk => XS.aloadN X9.here hx rfl (hb hby d2_15) rfl rfl zk) ?_
  show own_Go p e below G (T9.setTop (mkF m 16 #[.val (.ref d0), .val (.ref d1), .val (.long q2), .second, .val (.int (1 : Int32))] [(.ref d0), (.long r1), (.int (1 : Int32)), (.ref d0)]))
  refine own_st (fun zw zk => XS.iload X9.here hx rfl (hb hby d2_16) rfl zk) ?_
  refine own_st (fun zw zk => own_jld X9 hx hZ e9 F0_9 (j := (1 : Int32)) (v := (.long r1)) (i := 1) (by decide) (by decide) rfl (g := (mkF m 18 #[.val (.ref d0), .val (.ref d1), .val (.long q2), .second, .val (.int (1 : Int32))] [(.int (1 : Int32)), (.ref d0), (.long r1), (.int (1 : Int32)), (.ref d0)])) rfl rfl (hb hby d2_18) _ zk) ?_
  refine own_st (fun zw zk => XS.aloadN X9.here hx rfl (hb hby d2_19) rfl rfl zk) ?_
  refine own_st (fun zw zk => XS.iload X9.here hx rfl (hb hby d2_20) rfl zk) ?_
  refine own_st (fun zw zk => own_jld X9 hx hZ e9 F1_9 (j := (1 : Int32)) (v := (.long c1)) (i := 1) (by decide) (by decide) rfl (g := (mkF m 22 #[.val (.ref d0), .val (.ref d1), .val (.long q2), .second, .val (.int (1 : Int32))] [(.int (1 : Int32)), (.ref d1), (.long r1), (.long r1), (.int (1 : Int32)), (.ref d0)])) rfl rfl (hb hby d2_22) _ zk) ?_
  refine own_st (fun zw zk => XS.lxor X9.here hx rfl (hb hby d2_23) rfl zk) ?_
  refine own_st (fun zw zk => XS.lloadN X9.here hx rfl (hb hby d2_24) rfl zk) ?_
  refine own_st (fun zw zk => XS.land X9.here hx rfl (hb hby d2_25) rfl zk) ?_
  show own_Go p e below G (T9.setTop (mkF m 26 #[.val (.ref d0), .val (.ref d1), .val (.long q2), .second, .val (.int (1 : Int32))] [(.long ((r1 ^^^ c1) &&& q2)), (.long r1), (.int (1 : Int32)), (.ref d0)]))
  refine own_st (fun zw zk => XS.lxor X9.here hx rfl (hb hby d2_26) rfl zk) ?_
  obtain ⟨T10, h10, X10, e10, W10, V10, st10⟩ := own_jst X9 hx hZ e9 F0_9 (j := (1 : Int32)) (1) (by decide) (by decide) (Nat.le_of_ble_eq_true rfl) (g := (mkF m 27 #[.val (.ref d0), .val (.ref d1), .val (.long q2), .second, .val (.int (1 : Int32))] [(.long (r1 ^^^ ((r1 ^^^ c1) &&& q2))), (.int (1 : Int32)), (.ref d0)])) rfl rfl (hb hby d2_27)
  have F0_10 : own_L Z h10 d0 .long ([(.long (r0 ^^^ ((r0 ^^^ c0) &&& q2))), (.long (r1 ^^^ ((r1 ^^^ c1) &&& q2))), (.long r2), (.long r3), (.long r4), (.long r5), (.long r6), (.long r7)]) := V10
  have N10 := Fr.snoc X10 N9 ge_d0
  refine own_st (fun zw zk => st10 zw zk) ?_
  have F1_10 := F1_9.other W10 (Ne.symm ne_d0_d1)
  have Z10 : n0 ≤ h10.size := Nat.le_trans Z9 (Keep.of_wr W10).1
  have Kp10 := Kp9.wr W10 (Or.inl (List.mem_of_getElem? (i := 0) rfl))
  refine own_st (fun zw zk => XS.iinc X10.here hx rfl (hb hby d2_28) rfl rfl zk) ?_
  show own_Go p e below G (T10.setTop (mkF m 31 #[.val (.ref d0), .val (.ref d1), .val (.long q2), .second, .val (.int (2 : Int32))] []))
  refine own_st (fun zw zk => XS.goto X10.here hx rfl (pc0 := 31) (pc' := 3) rfl (hb hby d2_31) (by decide) (by decide) zk) ?_
  show own_Go p e below G (T10.setTop (mkF m 3 #[.val (.ref d0), .val (.ref d1), .val (.long q2), .second, .val (.int (2 : Int32))] []))
  refine own_st (fun zw zk => XS.iload X10.here hx rfl (hb hby d2_3) rfl zk) ?_
  refine own_st (fun zw zk => XS.bipush X10.here hx rfl (hb hby d2_5) zk) ?_
  refine own_st (fun zw zk => XS.icmpNo X10.here hx rfl (hb hby d2_7) rfl (tlt (by decide : (2 : Int32) < (8 : Int32))).2.1 zk) ?_
  refine own_st (fun zw zk => XS.aloadN X10.here hx rfl (hb hby d2_10) rfl rfl zk) ?_
  refine own_st (fun zw zk => XS.iload X10.here hx rfl (hb hby d2_11) rfl zk) ?_
  refine own_st (fun zw zk => XT.dup2 X10.here hx rfl (hb hby d2_13) rfl rfl rfl zk) ?_
  refine own_st (fun zw zk => own_jld X10 hx hZ e10 F0_10 (j := (2 : Int32)) (v := (.long r2)) (i := 2) (by decide) (by decide) rfl (g := (mkF m 14 #[.val (.ref d0), .val (.ref d1), .val (.long q2), .second, .val (.int (2 : Int32))] [(.int (2 : Int32)), (.ref d0), (.int (2 : Int32)), (.ref d0)])) rfl rfl (hb hby d2_14) _ zk) ?_
  refine own_st (fun zw zk => XS.aloadN X10.here hx rfl (hb hby d2_15) rfl rfl zk) ?_
  show own_Go p e below G (T10.setTop (mkF m 16 #[.val (.ref d0), .val (.ref d1), .val (.long q2), .second, .val (.int (2 : Int32))] [(.ref d0), (.long r2), (.int (2 : Int32)), (.ref d0)]))
  refine own_st (fun zw zk => XS.iload X10.here hx rfl (hb hby d2_16) rfl zk) ?_
  refine own_st (fun zw zk => own_jld X10 hx hZ e10 F0_10 (j := (2 : Int32)) (v := (.long r2)) (i := 2) (by decide) (by decide) rfl (g := (mkF m 18 #[.val (.ref d0), .val (.ref d1), .val (.long q2), .second, .val (.int (2 : Int32))] [(.int (2 : Int32)), (.ref d0), (.long r2), (.int (2 : Int32)), (.ref d0)])) rfl rfl (hb hby d2_18) _ zk) ?_
  refine own_st (fun zw zk => XS.aloadN X10.here hx rfl (hb hby d2_19) rfl rfl zk) ?_
  refine own_st (fun zw zk => XS.iload X10.here hx rfl (hb hby d2_20) rfl zk) ?_
  refine own_st (fun zw zk => own_jld X10 hx hZ e10 F1_10 (j := (2 : Int32)) (v := (.long c2)) (i := 2) (by decide) (by decide) rfl (g := (mkF m 22 #[.val (.ref d0), .val (.ref d1), .val (.long q2), .second, .val (.int (2 : Int32))] [(.int (2 : Int32)), (.ref d1), (.long r2), (.long r2), (.int (2 : Int32)), (.ref d0)])) rfl rfl (hb hby d2_22) _ zk) ?_
  refine own_st (fun zw zk => XS.lxor X10.here hx rfl (hb hby d2_23) rfl zk) ?_
  refine own_st (fun zw zk => XS.lloadN X10.here hx rfl (hb hby d2_24) rfl zk) ?_
  refine own_st (fun zw zk => XS.land X10.here hx rfl (hb hby d2_25) rfl zk) ?_
  show own_Go p e below G (T10.setTop (mkF m 26 #[.val (.ref d0), .val (.ref d1), .val (.long q2), .second, .val (.int (2 : Int32))] [(.long ((r2 ^^^ c2) &&& q2)), (.long r2), (.int (2 : Int32)), (.ref d0)]))
  refine own_st (fun zw zk => XS.lxor X10.here hx rfl (hb hby d2_26) rfl zk) ?_
  obtain ⟨T11, h11, X11, e11, W11, V11, st11⟩ := own_jst X10 hx hZ e10 F0_10 (j := (2 : Int32)) (2) (by decide) (by decide) (Nat.le_of_ble_eq_true rfl) (g := (mkF m 27 #[.val (.ref d0), .val (.ref d1), .val (.long q2), .second, .val (.int (2 : Int32))] [(.long (r2 ^^^ ((r2 ^^^ c2) &&& q2))), (.int (2 : Int32)), (.ref d0)])) rfl rfl (hb hby d2_27)
  have F0_11 : own_L Z h11 d0 .long ([(.long (r0 ^^^ ((r0 ^^^ c0) &&& q2))), (.long (r1 ^^^ ((r1 ^^^ c1) &&& q2))), (.long (r2 ^^^ ((r2 ^^^ c2) &&& q2))), (.long r3), (.long r4), (.long r5), (.long r6), (.long r7)]) := V11
  have N11 := Fr.snoc X11 N10 ge_d0
  refine own_st (fun zw zk => st11 zw zk) ?_
  have F1_11 := F1_10.other W11 (Ne.symm ne_d0_d1)
  have Z11 : n0 ≤ h11.size := Nat.le_trans Z10 (Keep.of_wr W11).1
  have Kp11 := Kp10.wr W11 (Or.inl (List.mem_of_getElem? (i := 0) rfl))
  refine own_st (fun zw zk => XS.iinc X11.here hx rfl (hb hby d2_28) rfl rfl zk) ?_
  show own_Go p e below G (T11.setTop (mkF m 31 #[.val (.ref d0), .val (.ref d1), .val (.long q2), .second, .val (.int (3 : Int32))] []))
  refine own_st (fun zw zk => XS.goto X11.here hx rfl (pc0 := 31) (pc' := 3) rfl (hb hby d2_31) (by decide) (by decide) zk) ?_
  show own_Go p e below G (T11.setTop (mkF m 3 #[.val (.ref d0), .val (.ref d1), .val (.long q2), .second, .val (.int (3 : Int32))] []))
  refine own_st (fun zw zk => XS.iload X11.here hx rfl (hb hby d2_3) rfl zk) ?_
  refine own_st (fun zw zk => XS.bipush X11.here hx rfl (hb hby d2_5) zk) ?_
  refine own_st (fun zw zk => XS.icmpNo X11.here hx rfl (hb hby d2_7) rfl (tlt (by decide : (3 : Int32) < (8 : Int32))).2.1 zk) ?_
  refine own_st (fun zw zk => XS.aloadN X11.here hx rfl (hb hby d2_10) rfl rfl zk) ?_
  refine own_st (fun zw zk => XS.iload X11.here hx rfl (hb hby d2_11) rfl zk) ?_
  refine own_st (fun zw zk => XT.dup2 X11.here hx rfl (hb hby d2_13) rfl rfl rfl zk) ?_
  refine own_st (fun zw zk => own_jld X11 hx hZ e11 F0_11 (j := (3 : Int32)) (v := (.long r3)) (i := 3) (by decide) (by decide) rfl (g := (mkF m 14 #[.val (.ref d0), .val (.ref d1), .val (.long q2), .second, .val (.int (3 : Int32))] [(.int (3 : Int32)), (.ref d0), (.int (3 : Int32)), (.ref d0)])) rfl rfl (hb hby d2_14) _ zk) ?_
  refine own_st (fun zw zk => XS.aloadN X11.here hx rfl (hb hby d2_15) rfl rfl zk) ?_
  show own_Go p e below G (T11.setTop (mkF m 16 #[.val (.ref d0), .val (.ref d1), .val (.long q2), .second, .val (.int (3 : Int32))] [(.ref d0), (.long r3), (.int (3 : Int32)), (.ref d0)]))
  refine own_st (fun zw zk => XS.iload X11.here hx rfl (hb hby d2_16) rfl zk) ?_
  refine own_st (fun zw zk => own_jld X11 hx hZ e11 F0_11 (j := (3 : Int32)) (v := (.long r3)) (i := 3) (by decide) (by decide) rfl (g := (mkF m 18 #[.val (.ref d0), .val (.ref d1), .val (.long q2), .second, .val (.int (3 : Int32))] [(.int (3 : Int32)), (.ref d0), (.long r3), (.int (3 : Int32)), (.ref d0)])) rfl rfl (hb hby d2_18) _ zk) ?_
  refine own_st (fun zw zk => XS.aloadN X11.here hx rfl (hb hby d2_19) rfl rfl zk) ?_
  refine own_st (fun zw zk => XS.iload X11.here hx rfl (hb hby d2_20) rfl zk) ?_
  refine own_st (fun zw zk => own_jld X11 hx hZ e11 F1_11 (j := (3 : Int32)) (v := (.long c3)) (i := 3) (by decide) (by decide) rfl (g := (mkF m 22 #[.val (.ref d0), .val (.ref d1), .val (.long q2), .second, .val (.int (3 : Int32))] [(.int (3 : Int32)), (.ref d1), (.long r3), (.long r3), (.int (3 : Int32)), (.ref d0)])) rfl rfl (hb hby d2_22) _ zk) ?_
  refine own_st (fun zw zk => XS.lxor X11.here hx rfl (hb hby d2_23) rfl zk) ?_
  refine own_st (fun zw zk => XS.lloadN X11.here hx rfl (hb hby d2_24) rfl zk) ?_
  refine own_st (fun zw zk => XS.land X11.here hx rfl (hb hby d2_25) rfl zk) ?_
  show own_Go p e below G (T11.setTop (mkF m 26 #[.val (.ref d0), .val (.ref d1), .val (.long q2), .second, .val (.int (3 : Int32))] [(.long ((r3 ^^^ c3) &&& q2)), (.long r3), (.int (3 : Int32)), (.ref d0)]))
  refine own_st (fun zw zk => XS.lxor X11.here hx rfl (hb hby d2_26) rfl zk) ?_
  obtain ⟨T12, h12, X12, e12, W12, V12, st12⟩ := own_jst X11 hx hZ e11 F0_11 (j := (3 : Int32)) (3) (by decide) (by decide) (Nat.le_of_ble_eq_true rfl) (g := (mkF m 27 #[.val (.ref d0), .val (.ref d1), .val (.long q2), .second, .val (.int (3 : Int32))] [(.long (r3 ^^^ ((r3 ^^^ c3) &&& q2))), (.int (3 : Int32)), (.ref d0)])) rfl rfl (hb hby d2_27)
  have F0_12 : own_L Z h12 d0 .long ([(.long (r0 ^^^ ((r0 ^^^ c0) &&& q2))), (.long (r1 ^^^ ((r1 ^^^ c1) &&& q2))), (.long (r2 ^^^ ((r2 ^^^ c2) &&& q2))), (.long (r3 ^^^ ((r3 ^^^ c3) &&& q2))), (.long r4), (.long r5), (.long r6), (.long r7)]) := V12
  have N12 := Fr.snoc X12 N11 ge_d0
  refine own_st (fun zw zk => st12 zw zk) ?_
  have F1_12 := F1_11.other W12 (Ne.symm ne_d0_d1)
  have Z12 : n0 ≤ h12.size := Nat.le_trans Z11 (Keep.of_wr W12).1
  have Kp12 := Kp11.wr W12 (Or.inl (List.mem_of_getElem? (i := 0) rfl))
  refine own_st (fun zw zk => XS.iinc X12.here hx rfl (hb hby d2_28) rfl rfl zk) ?_
  show own_Go p e below G (T12.setTop (mkF m 31 #[.val (.ref d0), .val (.ref d1), .val (.long q2), .second, .val (.int (4 : Int32))] []))
  refine own_st (fun zw zk => XS.goto X12.here hx rfl (pc0 := 31) (pc' := 3) rfl (hb hby d2_31) (by decide) (by decide) zk) ?_
  show own_Go p e below G (T12.setTop (mkF m 3 #[.val (.ref d0), .val (.ref d1), .val (.long q2), .second, .val (.int (4 : Int32))] []))
  refine own_st (fun zw zk => XS.iload X12.here hx rfl (hb hby d2_3) rfl zk) ?_
  refine own_st (fun zw zk => XS.bipush X12.here hx rfl (hb hby d2_5) zk) ?_
  refine own_st (fun zw zk => XS.icmpNo X12.here hx rfl (hb hby d2_7) rfl (tlt (by decide : (4 : Int32) < (8 : Int32))).2.1 zk) ?_
  refine own_st (fun zw zk => XS.aloadN X12.here hx rfl (hb hby d2_10) rfl rfl zk) ?_
  refine own_st (fun zw zk => XS.iload X12.here hx rfl (hb hby d2_11) rfl zk) ?_
  refine own_st (fun zw zk => XT.dup2 X12.here hx rfl (hb hby d2_13) rfl rfl rfl zk) ?_
  refine own_st (fun zw zk => own_jld X12 hx hZ e12 F0_12 (j := (4 : Int32)) (v := (.long r4)) (i := 4) (by decide) (by decide) rfl (g := (mkF m 14 #[.val (.ref d0), .val (.ref d1), .val (.long q2), .second, .val (.int (4 : Int32))] [(.int (4 : Int32)), (.ref d0), (.int (4 : Int32)), (.ref d0)])) rfl rfl (hb hby d2_14) _ zk) ?_
  refine own_st (fun zw zk => XS.aloadN X12.here hx rfl (hb hby d2_15) rfl rfl zk) ?_
  show own_Go p e below G (T12.setTop (mkF m 16 #[.val (.ref d0), .val (.ref d1), .val (.long q2), .second, .val (.int (4 : Int32))] [(.ref d0), (.long r4), (.int (4 : Int32)), (.ref d0)]))
  refine own_st (fun zw zk => XS.iload X12.here hx rfl (hb hby d2_16) rfl zk) ?_
  refine own_st (fun zw zk => own_jld X12 hx hZ e12 F0_12 (j := (4 : Int32)) (v := (.long r4)) (i := 4) (by decide) (by decide) rfl (g := (mkF m 18 #[.val (.ref d0), .val (.ref d1), .val (.long q2), .second, .val (.int (4 : Int32))] [(.int (4 : Int32)), (.ref d0), (.long r4), (.int (4 : Int32)), (.ref d0)])) rfl rfl (hb hby d2_18) _ zk) ?_
  refine own_st (fun zw zk => XS.aloadN X12.here hx rfl (hb hby d2_19) rfl rfl zk) ?_
  refine own_st (fun zw zk => XS.iload X12.here hx rfl (hb hby d2_20) rfl zk) ?_
  refine own_st (fun zw zk => own_jld X12 hx hZ e12 F1_12 (j := (4 : Int32)) (v := (.long c4)) (i := 4) (by decide) (by decide) rfl (g := (mkF m 22 #[.val (.ref d0), .val (.ref d1), .val (.long q2), .second, .val (.int (4 : Int32))] [(.int (4 : Int32)), (.ref d1), (.long r4), (.long r4), (.int (4 : Int32)), (.ref d0)])) rfl rfl (hb hby d2_22) _ zk) ?_
  refine own_st (fun zw zk => XS.lxor X12.here hx rfl (hb hby d2_23) rfl zk) ?_
  refine own_st (fun zw zk => XS.lloadN X12.here hx rfl (hb hby d2_24) rfl zk) ?_
  refine own_st (fun zw zk => XS.land X12.here hx rfl (hb hby d2_25) rfl zk) ?_
  show own_Go p e below G (T12.setTop (mkF m 26 #[.val (.ref d0), .val (.ref d1), .val (.long q2), .second, .val (.int (4 : Int32))] [(.long ((r4 ^^^ c4) &&& q2)), (.long r4), (.int (4 : Int32)), (.ref d0)]))
  refine own_st (fun zw zk => XS.lxor X12.here hx rfl (hb hby d2_26) rfl zk) ?_
  obtain ⟨T13, h13, X13, e13, W13, V13, st13⟩ := own_jst X12 hx hZ e12 F0_12 (j := (4 : Int32)) (4) (by decide) (by decide) (Nat.le_of_ble_eq_true rfl) (g := (mkF m 27 #[.val (.ref d0), .val (.ref d1), .val (.long q2), .second, .val (.int (4 : Int32))] [(.long (r4 ^^^ ((r4 ^^^ c4) &&& q2))), (.int (4 : Int32)), (.ref d0)])) rfl rfl (hb hby d2_27)
  have F0_13 : own_L Z h13 d0 .long ([(.long (r0 ^^^ ((r0 ^^^ c0) &&& q2))), (.long (r1 ^^^ ((r1 ^^^ c1) &&& q2))), (.long (r2 ^^^ ((r2 ^^^ c2) &&& q2))), (.long (r3 ^^^ ((r3 ^^^ c3) &&& q2))), (.long (r4 ^^^ ((r4 ^^^ c4) &&& q2))), (.long r5), (.long r6), (.long r7)]) := V13
  have N13 := Fr.snoc X13 N12 ge_d0
  refine own_st (fun zw zk => st13 zw zk) ?_
  have F1_13 := F1_12.other W13 (Ne.symm ne_d0_d1)
  have Z13 : n0 ≤ h13.size := Nat.le_trans Z12 (Keep.of_wr W13).1
  have Kp13 := Kp12.wr W13 (Or.inl (List.mem_of_getElem? (i := 0) rfl))
  refine own_st (fun zw zk => XS.iinc X13.here hx rfl (hb hby d2_28) rfl rfl zk) ?_
  show own_Go p e below G (T13.setTop (mkF m 31 #[.val (.ref d0), .val (.ref d1), .val (.long q2), .second, .val (.int (5 : Int32))] []))
  refine own_st (fun zw zk => XS.goto X13.here hx rfl (pc0 := 31) (pc' := 3) rfl (hb hby d2_31) (by decide) (by decide) zk) ?_
  show own_Go p e below G (T13.setTop (mkF m 3 #[.val (.ref d0), .val (.ref d1), .val (.long q2), .second, .val (.int (5 : Int32))] []))
  refine own_st (fun zw zk => XS.iload X13.here hx rfl (hb hby d2_3) rfl zk) ?_
  refine own_st (fun zw zk => XS.bipush X13.here hx rfl (hb hby d2_5) zk) ?_
  refine own_st (fun zw zk => XS.icmpNo X13.here hx rfl (hb hby d2_7) rfl (tlt (by decide : (5 : Int32) < (8 : Int32))).2.1 zk) ?_
  refine own_st (fun zw zk => XS.aloadN X13.here hx rfl (hb hby d2_10) rfl rfl zk) ?_
  refine own_st (fun zw zk => XS.iload X13.here hx rfl (hb hby d2_11) rfl zk) ?_
  refine own_st (fun zw zk => XT.dup2 X13.here hx rfl (hb hby d2_13) rfl rfl rfl zk) ?_
  refine own_st (fun zw zk => own_jld X13 hx hZ e13 F0_13 (j := (5 : Int32)) (v := (.long r5)) (i := 5) (by decide) (by decide) rfl (g := (mkF m 14 #[.val (.ref d0), .val (.ref d1), .val (.long q2), .second, .val (.int (5 : Int32))] [(.int (5 : Int32)), (.ref d0), (.int (5 : Int32)), (.ref d0)])) rfl rfl (hb hby d2_14) _ zk) ?_
  refine own_st (fun zw zk => XS.aloadN X13.here hx rfl (hb hby d2_15) rfl rfl zk) ?_
  show own_Go p e below G (T13.setTop (mkF m 16 #[.val (.ref d0), .val (.ref d1), .val (.long q2), .second, .val (.int (5 : Int32))] [(.ref d0), (.long r5), (.int (5 : Int32)), (.ref d0)]))
  refine own_st (fun zw zk => XS.iload X13.here hx rfl (hb hby d2_16) rfl zk) ?_
  refine own_st (fun zw zk => own_jld X13 hx hZ e13 F0_13 (j := (5 : Int32)) (v := (.long r5)) (i := 5) (by decide) (by decide) rfl (g := (mkF m 18 #[.val (.ref d0), .val (.ref d1), .val (.long q2), .second, .val (.int (5 : Int32))] [(.int (5 : Int32)), (.ref d0), (.long r5), (.int (5 : Int32)), (.ref d0)])) rfl rfl (hb hby d2_18) _ zk) ?_
  refine own_st (fun zw zk => XS.aloadN X13.here hx rfl (hb hby d2_19) rfl rfl zk) ?_
  refine own_st (fun zw zk => XS.iload X13.here hx rfl (hb hby d2_20) rfl zk) ?_
  refine own_st (fun zw zk => own_jld X13 hx hZ e13 F1_13 (j := (5 : Int32)) (v := (.long c5)) (i := 5) (by decide) (by decide) rfl (g := (mkF m 22 #[.val (.ref d0), .val (.ref d1), .val (.long q2), .second, .val (.int (5 : Int32))] [(.int (5 : Int32)), (.ref d1), (.long r5), (.long r5), (.int (5 : Int32)), (.ref d0)])) rfl rfl (hb hby d2_22) _ zk) ?_
  refine own_st (fun zw zk => XS.lxor X13.here hx rfl (hb hby d2_23) rfl zk) ?_
  refine own_st (fun zw zk => XS.lloadN X13.here hx rfl (hb hby d2_24) rfl zk) ?_
  refine own_st (fun zw zk => XS.land X13.here hx rfl (hb hby d2_25) rfl zk) ?_
  show own_Go p e below G (T13.setTop (mkF m 26 #[.val (.ref d0), .val (.ref d1), .val (.long q2), .second, .val (.int (5 : Int32))] [(.long ((r5 ^^^ c5) &&& q2)), (.long r5), (.int (5 : Int32)), (.ref d0)]))
  refine own_st (fun zw zk => XS.lxor X13.here hx rfl (hb hby d2_26) rfl zk) ?_
  obtain ⟨T14, h14, X14, e14, W14, V14, st14⟩ := own_jst X13 hx hZ e13 F0_13 (j := (5 : Int32)) (5) (by decide) (by decide) (Nat.le_of_ble_eq_true rfl) (g := (mkF m 27 #[.val (.ref d0), .val (.ref d1), .val (.long q2), .second, .val (.int (5 : Int32))] [(.long (r5 ^^^ ((r5 ^^^ c5) &&& q2))), (.int (5 : Int32)), (.ref d0)])) rfl rfl (hb hby d2_27)
  have F0_14 : own_L Z h14 d0 .long ([(.long (r0 ^^^ ((r0 ^^^ c0) &&& q2))), (.long (r1 ^^^ ((r1 ^^^ c1) &&& q2))), (.long (r2 ^^^ ((r2 ^^^ c2) &&& q2))), (.long (r3 ^^^ ((r3 ^^^ c3) &&& q2))), (.long (r4 ^^^ ((r4 ^^^ c4) &&& q2))), (.long (r5 ^^^ ((r5 ^^^ c5) &&& q2))), (.long r6), (.long r7)]) := V14
  have N14 := Fr.snoc X14 N13 ge_d0
  refine own_st (fun zw zk => st14 zw zk) ?_
  have F1_14 := F1_13.other W14 (Ne.symm ne_d0_d1)
  have Z14 : n0 ≤ h14.size := Nat.le_trans Z13 (Keep.of_wr W14).1
  have Kp14 := Kp13.wr W14 (Or.inl (List.mem_of_getElem? (i := 0) rfl))
  refine own_st (fun zw zk => XS.iinc X14.here hx rfl (hb hby d2_28) rfl rfl zk) ?_
  show own_Go p e below G (T14.setTop (mkF m 31 #[.val (.ref d0), .val (.ref d1), .val (.long q2), .second, .val (.int (6 : Int32))] []))
  refine own_st (fun zw zk => XS.goto X14.here hx rfl (pc0 := 31) (pc' := 3) rfl (hb hby d2_31) (by decide) (by decide) zk) ?_
  show own_Go p e below G (T14.setTop (mkF m 3 #[.val (.ref d0), .val (.ref d1), .val (.long q2), .second, .val (.int (6 : Int32))] []))
  refine own_st (fun zw zk => XS.iload X14.here hx rfl (hb hby d2_3) rfl zk) ?_
  refine own_st (fun zw zk => XS.bipush X14.here hx rfl (hb hby d2_5) zk) ?_
  refine own_st (fun zw zk => XS.icmpNo X14.here hx rfl (hb hby d2_7) rfl (tlt (by decide : (6 : Int32) < (8 : Int32))).2.1 zk) ?_
  refine own_st (fun zw zk => XS.aloadN X14.here hx rfl (hb hby d2_10) rfl rfl zk) ?_
  refine own_st (fun zw zk => XS.iload X14.here hx rfl (hb hby d2_11) rfl zk) ?_
  refine own_st (fun zw zk => XT.dup2 X14.here hx rfl (hb hby d2_13) rfl rfl rfl zk) ?_
  refine own_st (fun zw zk => own_jld X14 hx hZ e14 F0_14 (j := (6 : Int32)) (v := (.long r6)) (i := 6) (by decide) (by decide) rfl (g := (mkF m 14 #[.val (.ref d0), .val (.ref d1), .val (.long q2), .second, .val (.int (6 : Int32))] [(.int (6 : Int32)), (.ref d0), (.int (6 : Int32)), (.ref d0)])) rfl rfl (hb hby d2_14) _ zk) ?_
  refine own_st (fun zw zk => XS.aloadN X14.here hx rfl (hb hby d2_15) rfl rfl zk) ?_
  show own_Go p e below G (T14.setTop (mkF m 16 #[.val (.ref d0), .val (.ref d1), .val (.long q2), .second, .val (.int (6 : Int32))] [(.ref d0), (.long r6), (.int (6 : Int32)), (.ref d0)]))
  refine own_st (fun zw zk => XS.iload X14.here hx rfl (hb hby d2_16) rfl zk) ?_
  refine own_st (fun zw zk => own_jld X14 hx hZ e14 F0_14 (j := (6 : Int32)) (v := (.long r6)) (i := 6) (by decide) (by decide) rfl (g := (mkF m 18 #[.val (.ref d0), .val (.ref d1), .val (.long q2), .second, .val (.int (6 : Int32))] [(.int (6 : Int32)), (.ref d0), (.long r6), (.int (6 : Int32)), (.ref d0)])) rfl rfl (hb hby d2_18) _ zk) ?_
  refine own_st (fun zw zk => XS.aloadN X14.here hx rfl (hb hby d2_19) rfl rfl zk) ?_
  refine own_st (fun zw zk => XS.iload X14.here hx rfl (hb hby d2_20) rfl zk) ?_
  refine own_st (fun zw zk => own_jld X14 hx hZ e14 F1_14 (j := (6 : Int32)) (v := (.long c6)) (i := 6) (by decide) (by decide) rfl (g := (mkF m 22 #[.val (.ref d0), .val (.ref d1), .val (.long q2), .second, .val (.int (6 : Int32))] [(.int (6 : Int32)), (.ref d1), (.long r6), (.long r6), (.int (6 : Int32)), (.ref d0)])) rfl rfl (hb hby d2_22) _ zk) ?_
  refine own_st (fun zw zk => XS.lxor X14.here hx rfl (hb hby d2_23) rfl zk) ?_
  refine own_st (fun zw zk => XS.lloadN X14.here hx rfl (hb hby d2_24) rfl zk) ?_
  refine own_st (fun zw zk => XS.land X14.here hx rfl (hb hby d2_25) rfl zk) ?_
  show own_Go p e below G (T14.setTop (mkF m 26 #[.val (.ref d0), .val (.ref d1), .val (.long q2), .second, .val (.int (6 : Int32))] [(.long ((r6 ^^^ c6) &&& q2)), (.long r6), (.int (6 : Int32)), (.ref d0)]))
  refine own_st (fun zw zk => XS.lxor X14.here hx rfl (hb hby d2_26) rfl zk) ?_
  obtain ⟨T15, h15, X15, e15, W15, V15, st15⟩ := own_jst X14 hx hZ e14 F0_14 (j := (6 : Int32)) (6) (by decide) (by decide) (Nat.le_of_ble_eq_true rfl) (g := (mkF m 27 #[.val (.ref d0), .val (.ref d1), .val (.long q2), .second, .val (.int (6 : Int32))] [(.long (r6 ^^^ ((r6 ^^^ c6) &&& q2))), (.int (6 : Int32)), (.ref d0)])) rfl rfl (hb hby d2_27)
  have F0_15 : own_L Z h15 d0 .long ([(.long (r0 ^^^ ((r0 ^^^ c0) &&& q2))), (.long (r1 ^^^ ((r1 ^^^ c1) &&& q2))), (.long (r2 ^^^ ((r2 ^^^ c2) &&& q2))), (.long (r3 ^^^ ((r3 ^^^ c3) &&& q2))), (.long (r4 ^^^ ((r4 ^^^ c4) &&& q2))), (.long (r5 ^^^ ((r5 ^^^ c5) &&& q2))), (.long (r6 ^^^ ((r6 ^^^ c6) &&& q2))), (.long r7)]) := V15
  have N15 := Fr.snoc X15 N14 ge_d0
  refine own_st (fun zw zk => st15 zw zk) ?_
  have F1_15 := F1_14.other W15 (Ne.symm ne_d0_d1)
  have Z15 : n0 ≤ h15.size := Nat.le_trans Z14 (Keep.of_wr W15).1
  have Kp15 := Kp14.wr W15 (Or.inl (List.mem_of_getElem? (i := 0) rfl))
  refine own_st (fun zw zk => XS.iinc X15.here hx rfl (hb hby d2_28) rfl rfl zk) ?_
  show own_Go p e below G (T15.setTop (mkF m 31 #[.val (.ref d0), .val (.ref d1), .val (.long q2), .second, .val (.int (7 : Int32))] []))
  refine own_st (fun zw zk => XS.goto X15.here hx rfl (pc0 := 31) (pc' := 3) rfl (hb hby d2_31) (by decide) (by decide) zk) ?_
  show own_Go p e below G (T15.setTop (mkF m 3 #[.val (.ref d0), .val (.ref d1), .val (.long q2), .second, .val (.int (7 : Int32))] []))
  refine own_st (fun zw zk => XS.iload X15.here hx rfl (hb hby d2_3) rfl zk) ?_
  refine own_st (fun zw zk => XS.bipush X15.here hx rfl (hb hby d2_5) zk) ?_
  refine own_st (fun zw zk => XS.icmpNo X15.here hx rfl (hb hby d2_7) rfl (tlt (by decide : (7 : Int32) < (8 : Int32))).2.1 zk) ?_
  refine own_st (fun zw zk => XS.aloadN X15.here hx rfl (hb hby d2_10) rfl rfl zk) ?_
  refine own_st (fun zw zk => XS.iload X15.here hx rfl (hb hby d2_11) rfl zk) ?_
  refine own_st (fun zw zk => XT.dup2 X15.here hx rfl (hb hby d2_13) rfl rfl rfl zk) ?_
  refine own_st (fun zw zk => own_jld X15 hx hZ e15 F0_15 (j := (7 : Int32)) (v := (.long r7)) (i := 7) (by decide) (by decide) rfl (g := (mkF m 14 #[.val (.ref d0), .val (.ref d1), .val (.long q2), .second, .val (.int (7 : Int32))] [(.int (7 : Int32)), (.ref d0), (.int (7 : Int32)), (.ref d0)])) rfl rfl (hb hby d2_14) _ zk) ?_
  refine own_st (fun zw zk => XS.aloadN X15.here hx rfl (hb hby d2_15) rfl rfl zk) ?_
  show own_Go p e below G (T15.setTop (mkF m 16 #[.val (.ref d0), .val (.ref d1), .val (.long q2), .second, .val (.int (7 : Int32))] [(.ref d0), (.long r7), (.int (7 : Int32)), (.ref d0)]))
  refine own_st (fun zw zk => XS.iload X15.here hx rfl (hb hby d2_16) rfl zk) ?_
  refine own_st (fun zw zk => own_jld X15 hx hZ e15 F0_15 (j := (7 : Int32)) (v := (.long r7)) (i := 7) (by decide) (by decide) rfl (g := (mkF m 18 #[.val (.ref d0), .val (.ref d1), .val (.long q2), .second, .val (.int (7 : Int32))] [(.int (7 : Int32)), (.ref d0), (.long r7), (.int (7 : Int32)), (.ref d0)])) rfl rfl (hb hby d2_18) _ zk) ?_
  refine own_st (fun zw zk => XS.aloadN X15.here hx rfl (hb hby d2_19) rfl rfl zk) ?_
  refine own_st (fun zw zk => XS.iload X15.here hx rfl (hb hby d2_20) rfl zk) ?_
  refine own_st (fun zw zk => own_jld X15 hx hZ e15 F1_15 (j := (7 : Int32)) (v := (.long c7)) (i := 7) (by decide) (by decide) rfl (g := (mkF m 22 #[.val (.ref d0), .val (.ref d1), .val (.long q2), .second, .val (.int (7 : Int32))] [(.int (7 : Int32)), (.ref d1), (.long r7), (.long r7), (.int (7 : Int32)), (.ref d0)])) rfl rfl (hb hby d2_22) _ zk) ?_
  refine own_st (fun zw zk => XS.lxor X15.here hx rfl (hb hby d2_23) rfl zk) ?_
  refine own_st (fun zw zk => XS.lloadN X15.here hx rfl (hb hby d2_24) rfl zk) ?_
  refine own_st (fun zw zk => XS.land X15.here hx rfl (hb hby d2_25) rfl zk) ?_
  show own_Go p e below G (T15.setTop (mkF m 26 #[.val (.ref d0), .val (.ref d1), .val (.long q2), .second, .val (.int (7 : Int32))] [(.long ((r7 ^^^ c7) &&& q2)), (.long r7), (.int (7 : Int32)), (.ref d0)]))
  refine own_st (fun zw zk => XS.lxor X15.here hx rfl (hb hby d2_26) rfl zk) ?_
  obtain ⟨T16, h16, X16, e16, W16, V16, st16⟩ := own_jst X15 hx hZ e15 F0_15 (j := (7 : Int32)) (7) (by decide) (by decide) (Nat.le_of_ble_eq_true rfl) (g := (mkF m 27 #[.val (.ref d0), .val (.ref d1), .val (.long q2), .second, .val (.int (7 : Int32))] [(.long (r7 ^^^ ((r7 ^^^ c7) &&& q2))), (.int (7 : Int32)), (.ref d0)])) rfl rfl (hb hby d2_27)
  have F0_16 : own_L Z h16 d0 .long ([(.long (r0 ^^^ ((r0 ^^^ c0) &&& q2))), (.long (r1 ^^^ ((r1 ^^^ c1) &&& q2))), (.long (r2 ^^^ ((r2 ^^^ c2) &&& q2))), (.long (r3 ^^^ ((r3 ^^^ c3) &&& q2))), (.long (r4 ^^^ ((r4 ^^^ c4) &&& q2))), (.long (r5 ^^^ ((r5 ^^^ c5) &&& q2))), (.long (r6 ^^^ ((r6 ^^^ c6) &&& q2))), (.long (r7 ^^^ ((r7 ^^^ c7) &&& q2)))]) := V16
  have N16 := Fr.snoc X16 N15 ge_d0
  refine own_st (fun zw zk => st16 zw zk) ?_
  have F1_16 := F1_15.other W16 (Ne.symm ne_d0_d1)
  have Z16 : n0 ≤ h16.size := Nat.le_trans Z15 (Keep.of_wr W16).1
  have Kp16 := Kp15.wr W16 (Or.inl (List.mem_of_getElem? (i := 0) rfl))
  refine own_st (fun zw zk => XS.iinc X16.here hx rfl (hb hby d2_28) rfl rfl zk) ?_
  show own_Go p e below G (T16.setTop (mkF m 31 #[.val (.ref d0), .val (.ref d1), .val (.long q2), .second, .val (.int (8 : Int32))] []))
  refine own_st (fun zw zk => XS.goto X16.here hx rfl (pc0 := 31) (pc' := 3) rfl (hb hby d2_31) (by decide) (by decide) zk) ?_
  show own_Go p e below G (T16.setTop (mkF m 3 #[.val (.ref d0), .val (.ref d1), .val (.long q2), .second, .val (.int (8 : Int32))] []))
  refine own_st (fun zw zk => XS.iload X16.here hx rfl (hb hby d2_3) rfl zk) ?_
  refine own_st (fun zw zk => XS.bipush X16.here hx rfl (hb hby d2_5) zk) ?_
  refine own_st (fun zw zk => XS.icmpYes X16.here hx rfl (pc0 := 7) (pc' := 34) rfl (hb hby d2_7) rfl (flt (by decide : ¬ ((8 : Int32) < (8 : Int32)))).2.1 (by decide) (by decide) zk) ?_
  subst hG
  obtain ⟨fs, hr, hrun, hended, hW, hsame⟩ := X16.leave (v := none) (fun _ => rfl)
  refine ⟨_, X16.returnOut hx Bd.returns (hb hby d2_34) hr, _, hrun, hended, _, _, rfl, ?_, ⟨_, rfl⟩, hW, hsame.mono (by decide) (by decide)⟩
  show Q2 Z d0 d1 q2 r0 r1 r2 r3 r4 r5 r6 r7 c0 c1 c2 c3 c4 c5 c6 c7 h0 n0 _ T16.heap _
  rw [e16]
  exact ⟨rfl, N16, Kp16, F0_16⟩
theorem ef_rm2a (m : MethodId) (d0 : Addr) (q2 : Int64) : entryFrame m #[(.ref d0), (.ref d0), (.long q2)] 5 = mkF m 0 #[.val (.ref d0), .val (.ref d0), .val (.long q2), .second, .unset] [] := by first | (simp [entryFrame, mkF, argsToLocals, Value.category]; done) | rfl
def Q2a (Z : State) (d0 : Addr) (q2 : Int64) (r0 : Int64) (r1 : Int64) (r2 : Int64) (r3 : Int64) (r4 : Int64) (r5 : Int64) (r6 : Int64) (r7 : Int64) (h0 : Heap) (n0 : Nat) (rv : Option Value) (hq : Heap) (Lq : List Loc) : Prop := rv = none ∧ Fr n0 Lq ∧ Keep h0 hq [d0] ∧ own_L Z hq d0 .long ([(.long (r0 ^^^ ((r0 ^^^ r0) &&& q2))), (.long (r1 ^^^ ((r1 ^^^ r1) &&& q2))), (.long (r2 ^^^ ((r2 ^^^ r2) &&& q2))), (.long (r3 ^^^ ((r3 ^^^ r3) &&& q2))), (.long (r4 ^^^ ((r4 ^^^ r4) &&& q2))), (.long (r5 ^^^ ((r5 ^^^ r5) &&& q2))), (.long (r6 ^^^ ((r6 ^^^ r6) &&& q2))), (.long (r7 ^^^ ((r7 ^^^ r7) &&& q2)))])
set_option maxRecDepth 65536 in
set_option maxHeartbeats 40000000 in
theorem rm2a (l : Launch) (Z : State) (a0 : Array Value) (hw : ∀ d ∈ tables_1, d.before a0 Z = true) (ws : List Jvm.Cond) (d0 : Addr) (q2 : Int64) (r0 : Int64) (r1 : Int64) (r2 : Int64) (r3 : Int64) (r4 : Int64) (r5 : Int64) (r6 : Int64) (r7 : Int64) (h0 : Heap) (n0 : Nat) (Z0 : n0 ≤ h0.size) (F0_ : own_L Z h0 d0 .long ([(.long r0), (.long r1), (.long r2), (.long r3), (.long r4), (.long r5), (.long r6), (.long r7)])) (ge_d0 : n0 ≤ d0) :
    MetFree l (⟨"com/example/attestrum/attestrum/schemes/ec/P256Field", "select", "([J[JJ)V"⟩ : MethodName) (head1 (Jvm.Cond.code (⟨"com/example/attestrum/attestrum/schemes/ec/P256Field", "select", "([J[JJ)V"⟩ : MethodName) prog_52_method_12_code 5 none :: ws) ({ frames := 0, cells := 0, slots := 0, locals := 0 } : Room)) (fun za U => za = #[(.ref d0), (.ref d0), (.long q2)] ∧ Z.Warmed39 U.vm ∧ U.heap = h0) (fun _ _ _ _ _ => True) (fun _ U o U' => ∃ rv Lq, o = .returned rv ∧ Q2a Z d0 q2 r0 r1 r2 r3 r4 r5 r6 r7 h0 n0 rv U'.heap Lq ∧ FrameEnd U o U' Lq ({ frames := 0, cells := 0, slots := 0, locals := 0 } : Room).cells ({ frames := 0, cells := 0, slots := 0, locals := 0 } : Room).slots) := by
  refine MetFree.of_bodySF (plainFor_of_name pn_1) hisR ?_
  intro p e s m args below meth c s₁ Bd hml0 hP hK
  obtain ⟨rfl, hZ, hh⟩ := hP
  have hx := Bd.exec
  have hby := Bd.bytes
  have hml : c.maxLocals = 5 := hml0
  have hown : s.vm.findClass "com/example/attestrum/attestrum/schemes/ec/P256Field" = some m.cls := findClass_of_methodNamed Bd.named
  have hnm := (name_of_methodNamed Bd.named Bd.method).1
  have X0 : Stand p l e ({ frames := 0, cells := 0, slots := 0, locals := 0 } : Room) s m #[(.ref d0), (.ref d0), (.long q2)] below meth c s₁ [] 0 0 := Stand.of_body Bd
  have e0 : s₁.heap = h0 := by rw [← hh, Bd.state]; rfl
  have N0 := Fr.nil n0
  refine own_out (own_nm fun G hG => own_st (fun zt zk => castTop (ef_rm2a m d0 q2) zk) ?_)
  show own_Go p e below G (s₁.setTop (mkF m 0 #[.val (.ref d0), .val (.ref d0), .val (.long q2), .second, .unset] []))
  refine own_st (fun zw zk => XS.iconst X0.here hx rfl (hb hby d2_0) zk) ?_
  refine own_st (fun zw zk => XS.istore X0.here hx rfl (hb hby d2_1) rfl rfl zk) ?_
  show own_Go p e below G (s₁.setTop (mkF m 3 #[.val (.ref d0), .val (.ref d0), .val (.long q2), .second, .val (.int (0 : Int32))] []))
  refine own_st (fun zw zk => XS.iload X0.here hx rfl (hb hby d2_3) rfl zk) ?_
  refine own_st (fun zw zk => XS.bipush X0.here hx rfl (hb hby d2_5) zk) ?_
  refine own_st (fun zw zk => XS.icmpNo X0.here hx rfl (hb hby d2_7) rfl (tlt (by decide : (0 : Int32) < (8 : Int32))).2.1 zk) ?_
  refine own_st (fun zw zk => XS.aloadN X0.here hx rfl (hb hby d2_10) rfl rfl zk) ?_
  refine own_st (fun zw zk => XS.iload X0.here hx rfl (hb hby d2_11) rfl zk) ?_
  refine own_st (fun zw zk => XT.dup2 X0.here hx rfl (hb hby d2_13) rfl rfl rfl zk) ?_
  refine own_st (fun zw zk => own_jld X0 hx hZ e0 F0_ (j := (0 : Int32)) (v := (.long r0)) (i := 0) (by decide) (by decide) rfl (g := (mkF m 14 #[.val (.ref d0), .val (.ref d0), .val (.long q2), .second, .val (.int (0 : Int32))] [(.int (0 : Int32)), (.ref d0), (.int (0 : Int32)), (.ref d0)])) rfl rfl (hb hby d2_14) _ zk) ?_
  refine own_st (fun zw zk => XS.aloadN X0.here hx rfl (hb hby d2_15) rfl rfl zk) ?_
  show own_Go p e below G (s₁.setTop (mkF m 16 #[.val (.ref d0), .val (.ref d0), .val (.long q2), .second, .val (.int (0 : Int32))] [(.ref d0), (.long r0), (.int (0 : Int32)), (.ref d0)]))
  refine own_st (fun zw zk => XS.iload X0.here hx rfl (hb hby d2_16) rfl zk) ?_
  refine own_st (fun zw zk => own_jld X0 hx hZ e0 F0_ (j := (0 : Int32)) (v := (.long r0)) (i := 0) (by decide) (by decide) rfl (g := (mkF m 18 #[.val (.ref d0), .val (.ref d0), .val (.long q2), .second, .val (.int (0 : Int32))] [(.int (0 : Int32)), (.ref d0), (.long r0), (.int (0 : Int32)), (.ref d0)])) rfl rfl (hb hby d2_18) _ zk) ?_
  refine own_st (fun zw zk => XS.aloadN X0.here hx rfl (hb hby d2_19) rfl rfl zk) ?_
  refine own_st (fun zw zk => XS.iload X0.here hx rfl (hb hby d2_20) rfl zk) ?_
  refine own_st (fun zw zk => own_jld X0 hx hZ e0 F0_ (j := (0 : Int32)) (v := (.long r0)) (i := 0) (by decide) (by decide) rfl (g := (mkF m 22 #[.val (.ref d0), .val (.ref d0), .val (.long q2), .second, .val (.int (0 : Int32))] [(.int (0 : Int32)), (.ref d0), (.long r0), (.long r0), (.int (0 : Int32)), (.ref d0)])) rfl rfl (hb hby d2_22) _ zk) ?_
  refine own_st (fun zw zk => XS.lxor X0.here hx rfl (hb hby d2_23) rfl zk) ?_
  refine own_st (fun zw zk => XS.lloadN X0.here hx rfl (hb hby d2_24) rfl zk) ?_
  refine own_st (fun zw zk => XS.land X0.here hx rfl (hb hby d2_25) rfl zk) ?_
  show own_Go p e below G (s₁.setTop (mkF m 26 #[.val (.ref d0), .val (.ref d0), .val (.long q2), .second, .val (.int (0 : Int32))] [(.long ((r0 ^^^ r0) &&& q2)), (.long r0), (.int (0 : Int32)), (.ref d0)]))
  refine own_st (fun zw zk => XS.lxor X0.here hx rfl (hb hby d2_26) rfl zk) ?_
  obtain ⟨T17, h17, X17, e17, W17, V17, st17⟩ := own_jst X0 hx hZ e0 F0_ (j := (0 : Int32)) (0) (by decide) (by decide) (Nat.le_of_ble_eq_true rfl) (g := (mkF m 27 #[.val (.ref d0), .val (.ref d0), .val (.long q2), .second, .val (.int (0 : Int32))] [(.long (r0 ^^^ ((r0 ^^^ r0) &&& q2))), (.int (0 : Int32)), (.ref d0)])) rfl rfl (hb hby d2_27)
  have F0_17 : own_L Z h17 d0 .long ([(.long (r0 ^^^ ((r0 ^^^ r0) &&& q2))), (.long r1), (.long r2), (.long r3), (.long r4), (.long r5), (.long r6), (.long r7)]) := V17
  have N17 := Fr.snoc X17 N0 ge_d0
  refine own_st (fun zw zk => st17 zw zk) ?_
  have Z17 : n0 ≤ h17.size := Nat.le_trans Z0 (Keep.of_wr W17).1
  have Kp17 := (Keep.refl h0 [d0]).wr W17 (Or.inl (List.mem_of_getElem? (i := 0) rfl))
  refine own_st (fun zw zk => XS.iinc X17.here hx rfl (hb hby d2_28) rfl rfl zk) ?_
  show own_Go p e below G (T17.setTop (mkF m 31 #[.val (.ref d0), .val (.ref d0), .val (.long q2), .second, .val (.int (1 : Int32))] []))
  refine own_st (fun zw zk => XS.goto X17.here hx rfl (pc0 := 31) (pc' := 3) rfl (hb hby d2_31) (by decide) (by decide) zk) ?_
  show own_Go p e below G (T17.setTop (mkF m 3 #[.val (.ref d0), .val (.ref d0), .val (.long q2), .second, .val (.int (1 : Int32))] []))
  refine own_st (fun zw zk => XS.iload X17.here hx rfl (hb hby d2_3) rfl zk) ?_
  refine own_st (fun zw zk => XS.bipush X17.here hx rfl (hb hby d2_5) zk) ?_
  refine own_st (fun zw zk => XS.icmpNo X17.here hx rfl (hb hby d2_7) rfl (tlt (by decide : (1 : Int32) < (8 : Int32))).2.1 zk) ?_
  refine own_st (fun zw zk => XS.aloadN X17.here hx rfl (hb hby d2_10) rfl rfl zk) ?_
  refine own_st (fun zw zk => XS.iload X17.here hx rfl (hb hby d2_11) rfl zk) ?_
  refine own_st (fun zw zk => XT.dup2 X17.here hx rfl (hb hby d2_13) rfl rfl rfl zk) ?_
  refine own_st (fun zw zk => own_jld X17 hx hZ e17 F0_17 (j := (1 : Int32)) (v := (.long r1)) (i := 1) (by decide) (by decide) rfl (g := (mkF m 14 #[.val (.ref d0), .val (.ref d0), .val (.long q2), .second, .val (.int (1 : Int32))] [(.int (1 : Int32)), (.ref d0), (.int (1 : Int32)), (.ref d0)])) rfl rfl (hb hby d2_14) _ zk) ?_
  refine own_st (fun zw zk => XS.aloadN X17.here hx rfl (hb hby d2_15) rfl rfl zk) ?_
  show own_Go p e below G (T17.setTop (mkF m 16 #[.val (.ref d0), .val (.ref d0), .val (.long q2), .second, .val (.int (1 : Int32))] [(.ref d0), (.long r1), (.int (1 : Int32)), (.ref d0)]))
  refine own_st (fun zw zk => XS.iload X17.here hx rfl (hb hby d2_16) rfl zk) ?_
  refine own_st (fun zw zk => own_jld X17 hx hZ e17 F0_17 (j := (1 : Int32)) (v := (.long r1)) (i := 1) (by decide) (by decide) rfl (g := (mkF m 18 #[.val (.ref d0), .val (.ref d0), .val (.long q2), .second, .val (.int (1 : Int32))] [(.int (1 : Int32)), (.ref d0), (.long r1), (.int (1 : Int32)), (.ref d0)])) rfl rfl (hb hby d2_18) _ zk) ?_
  refine own_st (fun zw zk => XS.aloadN X17.here hx rfl (hb hby d2_19) rfl rfl zk) ?_
  refine own_st (fun zw zk => XS.iload X17.here hx rfl (hb hby d2_20) rfl zk) ?_
  refine own_st (fun zw zk => own_jld X17 hx hZ e17 F0_17 (j := (1 : Int32)) (v := (.long r1)) (i := 1) (by decide) (by decide) rfl (g := (mkF m 22 #[.val (.ref d0), .val (.ref d0), .val (.long q2), .second, .val (.int (1 : Int32))] [(.int (1 : Int32)), (.ref d0), (.long r1), (.long r1), (.int (1 : Int32)), (.ref d0)])) rfl rfl (hb hby d2_22) _ zk) ?_
  refine own_st (fun zw zk => XS.lxor X17.here hx rfl (hb hby d2_23) rfl zk) ?_
  refine own_st (fun zw zk => XS.lloadN X17.here hx rfl (hb hby d2_24) rfl zk) ?_
  refine own_st (fun zw zk => XS.land X17.here hx rfl (hb hby d2_25) rfl zk) ?_
  show own_Go p e below G (T17.setTop (mkF m 26 #[.val (.ref d0), .val (.ref d0), .val (.long q2), .second, .val (.int (1 : Int32))] [(.long ((r1 ^^^ r1) &&& q2)), (.long r1), (.int (1 : Int32)), (.ref d0)]))
  refine own_st (fun zw zk => XS.lxor X17.here hx rfl (hb hby d2_26) rfl zk) ?_
  obtain ⟨T18, h18, X18, e18, W18, V18, st18⟩ := own_jst X17 hx hZ e17 F0_17 (j := (1 : Int32)) (1) (by decide) (by decide) (Nat.le_of_ble_eq_true rfl) (g := (mkF m 27 #[.val (.ref d0), .val (.ref d0), .val (.long q2), .second, .val (.int (1 : Int32))] [(.long (r1 ^^^ ((r1 ^^^ r1) &&& q2))), (.int (1 : Int32)), (.ref d0)])) rfl rfl (hb hby d2_27)
  have F0_18 : own_L Z h18 d0 .long ([(.long (r0 ^^^ ((r0 ^^^ r0) &&& q2))), (.long (r1 ^^^ ((r1 ^^^ r1) &&& q2))), (.long r2), (.long r3), (.long r4), (.long r5), (.long r6), (.long r7)]) := V18
  have N18 := Fr.snoc X18 N17 ge_d0
  refine own_st (fun zw zk => st18 zw zk) ?_
  have Z18 : n0 ≤ h18.size := Nat.le_trans Z17 (Keep.of_wr W18).1
  have Kp18 := Kp17.wr W18 (Or.inl (List.mem_of_getElem? (i := 0) rfl))
  refine own_st (fun zw zk => XS.iinc X18.here hx rfl (hb hby d2_28) rfl rfl zk) ?_
  show own_Go p e below G (T18.setTop (mkF m 31 #[.val (.ref d0), .val (.ref d0), .val (.long q2), .second, .val (.int (2 : Int32))] []))
  refine own_st (fun zw zk => XS.goto X18.here hx rfl (pc0 := 31) (pc' := 3) rfl (hb hby d2_31) (by decide) (by decide) zk) ?_
  show own_Go p e below G (T18.setTop (mkF m 3 #[.val (.ref d0), .val (.ref d0), .val (.long q2), .second, .val (.int (2 : Int32))] []))
  refine own_st (fun zw zk => XS.iload X18.here hx rfl (hb hby d2_3) rfl zk) ?_
  refine own_st (fun zw zk => XS.bipush X18.here hx rfl (hb hby d2_5) zk) ?_
  refine own_st (fun zw zk => XS.icmpNo X18.here hx rfl (hb hby d2_7) rfl (tlt (by decide : (2 : Int32) < (8 : Int32))).2.1 zk) ?_
  refine own_st (fun zw zk => XS.aloadN X18.here hx rfl (hb hby d2_10) rfl rfl zk) ?_
  refine own_st (fun zw zk => XS.iload X18.here hx rfl (hb hby d2_11) rfl zk) ?_
  refine own_st (fun zw zk => XT.dup2 X18.here hx rfl (hb hby d2_13) rfl rfl rfl zk) ?_
  refine own_st (fun zw zk => own_jld X18 hx hZ e18 F0_18 (j := (2 : Int32)) (v := (.long r2)) (i := 2) (by decide) (by decide) rfl (g := (mkF m 14 #[.val (.ref d0), .val (.ref d0), .val (.long q2), .second, .val (.int (2 : Int32))] [(.int (2 : Int32)), (.ref d0), (.int (2 : Int32)), (.ref d0)])) rfl rfl (hb hby d2_14) _ zk) ?_
  refine own_st (fun zw zk => XS.aloadN X18.here hx rfl (hb hby d2_15) rfl rfl zk) ?_
  show own_Go p e below G (T18.setTop (mkF m 16 #[.val (.ref d0), .val (.ref d0), .val (.long q2), .second, .val (.int (2 : Int32))] [(.ref d0), (.long r2), (.int (2 : Int32)), (.ref d0)]))
  refine own_st (fun zw zk => XS.iload X18.here hx rfl (hb hby d2_16) rfl zk) ?_
  refine own_st (fun zw zk => own_jld X18 hx hZ e18 F0_18 (j := (2 : Int32)) (v := (.long r2)) (i := 2) (by decide) (by decide) rfl (g := (mkF m 18 #[.val (.ref d0), .val (.ref d0), .val (.long q2), .second, .val (.int (2 : Int32))] [(.int (2 : Int32)), (.ref d0), (.long r2), (.int (2 : Int32)), (.ref d0)])) rfl rfl (hb hby d2_18) _ zk) ?_
  refine own_st (fun zw zk => XS.aloadN X18.here hx rfl (hb hby d2_19) rfl rfl zk) ?_
  refine own_st (fun zw zk => XS.iload X18.here hx rfl (hb hby d2_20) rfl zk) ?_
  refine own_st (fun zw zk => own_jld X18 hx hZ e18 F0_18 (j := (2 : Int32)) (v := (.long r2)) (i := 2) (by decide) (by decide) rfl (g := (mkF m 22 #[.val (.ref d0), .val (.ref d0), .val (.long q2), .second, .val (.int (2 : Int32))] [(.int (2 : Int32)), (.ref d0), (.long r2), (.long r2), (.int (2 : Int32)), (.ref d0)])) rfl rfl (hb hby d2_22) _ zk) ?_
  refine own_st (fun zw zk => XS.lxor X18.here hx rfl (hb hby d2_23) rfl zk) ?_
  refine own_st (fun zw zk => XS.lloadN X18.here hx rfl (hb hby d2_24) rfl zk) ?_
  refine own_st (fun zw zk => XS.land X18.here hx rfl (hb hby d2_25) rfl zk) ?_
  show own_Go p e below G (T18.setTop (mkF m 26 #[.val (.ref d0), .val (.ref d0), .val (.long q2), .second, .val (.int (2 : Int32))] [(.long ((r2 ^^^ r2) &&& q2)), (.long r2), (.int (2 : Int32)), (.ref d0)]))
  refine own_st (fun zw zk => XS.lxor X18.here hx rfl (hb hby d2_26) rfl zk) ?_
  obtain ⟨T19, h19, X19, e19, W19, V19, st19⟩ := own_jst X18 hx hZ e18 F0_18 (j := (2 : Int32)) (2) (by decide) (by decide) (Nat.le_of_ble_eq_true rfl) (g := (mkF m 27 #[.val (.ref d0), .val (.ref d0), .val (.long q2), .second, .val (.int (2 : Int32))] [(.long (r2 ^^^ ((r2 ^^^ r2) &&& q2))), (.int (2 : Int32)), (.ref d0)])) rfl rfl (hb hby d2_27)
  have F0_19 : own_L Z h19 d0 .long ([(.long (r0 ^^^ ((r0 ^^^ r0) &&& q2))), (.long (r1 ^^^ ((r1 ^^^ r1) &&& q2))), (.long (r2 ^^^ ((r2 ^^^ r2) &&& q2))), (.long r3), (.long r4), (.long r5), (.long r6), (.long r7)]) := V19
  have N19 := Fr.snoc X19 N18 ge_d0
  refine own_st (fun zw zk => st19 zw zk) ?_
  have Z19 : n0 ≤ h19.size := Nat.le_trans Z18 (Keep.of_wr W19).1
  have Kp19 := Kp18.wr W19 (Or.inl (List.mem_of_getElem? (i := 0) rfl))
  refine own_st (fun zw zk => XS.iinc X19.here hx rfl (hb hby d2_28) rfl rfl zk) ?_
  show own_Go p e below G (T19.setTop (mkF m 31 #[.val (.ref d0), .val (.ref d0), .val (.long q2), .second, .val (.int (3 : Int32))] []))
  refine own_st (fun zw zk => XS.goto X19.here hx rfl (pc0 := 31) (pc' := 3) rfl (hb hby d2_31) (by decide) (by decide) zk) ?_
  show own_Go p e below G (T19.setTop (mkF m 3 #[.val (.ref d0), .val (.ref d0), .val (.long q2), .second, .val (.int (3 : Int32))] []))
  refine own_st (fun zw zk => XS.iload X19.here hx rfl (hb hby d2_3) rfl zk) ?_
  refine own_st (fun zw zk => XS.bipush X19.here hx rfl (hb hby d2_5) zk) ?_
  refine own_st (fun zw zk => XS.icmpNo X19.here hx rfl (hb hby d2_7) rfl (tlt (by decide : (3 : Int32) < (8 : Int32))).2.1 zk) ?_
  refine own_st (fun zw zk => XS.aloadN X19.here hx rfl (hb hby d2_10) rfl rfl zk) ?_
  refine own_st (fun zw zk => XS.iload X19.here hx rfl (hb hby d2_11) rfl zk) ?_
  refine own_st (fun zw zk => XT.dup2 X19.here hx rfl (hb hby d2_13) rfl rfl rfl zk) ?_
  refine own_st (fun zw zk => own_jld X19 hx hZ e19 F0_19 (j := (3 : Int32)) (v := (.long r3)) (i := 3) (by decide) (by decide) rfl (g := (mkF m 14 #[.val (.ref d0), .val (.ref d0), .val (.long q2), .second, .val (.int (3 : Int32))] [(.int (3 : Int32)), (.ref d0), (.int (3 : Int32)), (.ref d0)])) rfl rfl (hb hby d2_14) _ zk) ?_
  refine own_st (fun zw zk => XS.aloadN X19.here hx rfl (hb hby d2_15) rfl rfl zk) ?_
  show own_Go p e below G (T19.setTop (mkF m 16 #[.val (.ref d0), .val (.ref d0), .val (.long q2), .second, .val (.int (3 : Int32))] [(.ref d0), (.long r3), (.int (3 : Int32)), (.ref d0)]))
  refine own_st (fun zw zk => XS.iload X19.here hx rfl (hb hby d2_16) rfl zk) ?_
  refine own_st (fun zw zk => own_jld X19 hx hZ e19 F0_19 (j := (3 : Int32)) (v := (.long r3)) (i := 3) (by decide) (by decide) rfl (g := (mkF m 18 #[.val (.ref d0), .val (.ref d0), .val (.long q2), .second, .val (.int (3 : Int32))] [(.int (3 : Int32)), (.ref d0), (.long r3), (.int (3 : Int32)), (.ref d0)])) rfl rfl (hb hby d2_18) _ zk) ?_
  refine own_st (fun zw zk => XS.aloadN X19.here hx rfl (hb hby d2_19) rfl rfl zk) ?_
  refine own_st (fun zw zk => XS.iload X19.here hx rfl (hb hby d2_20) rfl zk) ?_
  refine own_st (fun zw zk => own_jld X19 hx hZ e19 F0_19 (j := (3 : Int32)) (v := (.long r3)) (i := 3) (by decide) (by decide) rfl (g := (mkF m 22 #[.val (.ref d0), .val (.ref d0), .val (.long q2), .second, .val (.int (3 : Int32))] [(.int (3 : Int32)), (.ref d0), (.long r3), (.long r3), (.int (3 : Int32)), (.ref d0)])) rfl rfl (hb hby d2_22) _ zk) ?_
  refine own_st (fun zw zk => XS.lxor X19.here hx rfl (hb hby d2_23) rfl zk) ?_
  refine own_st (fun zw zk => XS.lloadN X19.here hx rfl (hb hby d2_24) rfl zk) ?_
  refine own_st (fun zw zk => XS.land X19.here hx rfl (hb hby d2_25) rfl zk) ?_
  show own_Go p e below G (T19.setTop (mkF m 26 #[.val (.ref d0), .val (.ref d0), .val (.long q2), .second, .val (.int (3 : Int32))] [(.long ((r3 ^^^ r3) &&& q2)), (.long r3), (.int (3 : Int32)), (.ref d0)]))
  refine own_st (fun zw zk => XS.lxor X19.here hx rfl (hb hby d2_26) rfl zk) ?_
  obtain ⟨T20, h20, X20, e20, W20, V20, st20⟩ := own_jst X19 hx hZ e19 F0_19 (j := (3 : Int32)) (3) (by decide) (by decide) (Nat.le_of_ble_eq_true rfl) (g := (mkF m 27 #[.val (.ref d0), .val (.ref d0), .val (.long q2), .second, .val (.int (3 : Int32))] [(.long (r3 ^^^ ((r3 ^^^ r3) &&& q2))), (.int (3 : Int32)), (.ref d0)])) rfl rfl (hb hby d2_27)
  have F0_20 : own_L Z h20 d0 .long ([(.long (r0 ^^^ ((r0 ^^^ r0) &&& q2))), (.long (r1 ^^^ ((r1 ^^^ r1) &&& q2))), (.long (r2 ^^^ ((r2 ^^^ r2) &&& q2))), (.long (r3 ^^^ ((r3 ^^^ r3) &&& q2))), (.long r4), (.long r5), (.long r6), (.long r7)]) := V20
  have N20 := Fr.snoc X20 N19 ge_d0
  refine own_st (fun zw zk => st20 zw zk) ?_
  have Z20 : n0 ≤ h20.size := Nat.le_trans Z19 (Keep.of_wr W20).1
  have Kp20 := Kp19.wr W20 (Or.inl (List.mem_of_getElem? (i := 0) rfl))
  refine own_st (fun zw zk => XS.iinc X20.here hx rfl (hb hby d2_28) rfl rfl zk) ?_
  show own_Go p e below G (T20.setTop (mkF m 31 #[.val (.ref d0), .val (.ref d0), .val (.long q2), .second, .val (.int (4 : Int32))] []))
  refine own_st (fun zw zk => XS.goto X20.here hx rfl (pc0 := 31) (pc' := 3) rfl (hb hby d2_31) (by decide) (by decide) zk) ?_
  show own_Go p e below G (T20.setTop (mkF m 3 #[.val (.ref d0), .val (.ref d0), .val (.long q2), .second, .val (.int (4 : Int32))] []))
  refine own_st (fun zw zk => XS.iload X20.here hx rfl (hb hby d2_3) rfl zk) ?_
  refine own_st (fun zw zk => XS.bipush X20.here hx rfl (hb hby d2_5) zk) ?_
  refine own_st (fun zw zk => XS.icmpNo X20.here hx rfl (hb hby d2_7) rfl (tlt (by decide : (4 : Int32) < (8 : Int32))).2.1 zk) ?_
  refine own_st (fun zw zk => XS.aloadN X20.here hx rfl (hb hby d2_10) rfl rfl zk) ?_
  refine own_st (fun zw zk => XS.iload X20.here hx rfl (hb hby d2_11) rfl zk) ?_
  refine own_st (fun zw zk => XT.dup2 X20.here hx rfl (hb hby d2_13) rfl rfl rfl zk) ?_
  refine own_st (fun zw zk => own_jld X20 hx hZ e20 F0_20 (j := (4 : Int32)) (v := (.long r4)) (i := 4) (by decide) (by decide) rfl (g := (mkF m 14 #[.val (.ref d0), .val (.ref d0), .val (.long q2), .second, .val (.int (4 : Int32))] [(.int (4 : Int32)), (.ref d0), (.int (4 : Int32)), (.ref d0)])) rfl rfl (hb hby d2_14) _ zk) ?_
  refine own_st (fun zw zk => XS.aloadN X20.here hx rfl (hb hby d2_15) rfl rfl zk) ?_
  show own_Go p e below G (T20.setTop (mkF m 16 #[.val (.ref d0), .val (.ref d0), .val (.long q2), .second, .val (.int (4 : Int32))] [(.ref d0), (.long r4), (.int (4 : Int32)), (.ref d0)]))
  refine own_st (fun zw zk => XS.iload X20.here hx rfl (hb hby d2_16) rfl zk) ?_
  refine own_st (fun zw zk => own_jld X20 hx hZ e20 F0_20 (j := (4 : Int32)) (v := (.long r4)) (i := 4) (by decide) (by decide) rfl (g := (mkF m 18 #[.val (.ref d0), .val (.ref d0), .val (.long q2), .second, .val (.int (4 : Int32))] [(.int (4 : Int32)), (.ref d0), (.long r4), (.int (4 : Int32)), (.ref d0)])) rfl rfl (hb hby d2_18) _ zk) ?_
  refine own_st (fun zw zk => XS.aloadN X20.here hx rfl (hb hby d2_19) rfl rfl zk) ?_
  refine own_st (fun zw zk => XS.iload X20.here hx rfl (hb hby d2_20) rfl zk) ?_
  refine own_st (fun zw zk => own_jld X20 hx hZ e20 F0_20 (j := (4 : Int32)) (v := (.long r4)) (i := 4) (by decide) (by decide) rfl (g := (mkF m 22 #[.val (.ref d0), .val (.ref d0), .val (.long q2), .second, .val (.int (4 : Int32))] [(.int (4 : Int32)), (.ref d0), (.long r4), (.long r4), (.int (4 : Int32)), (.ref d0)])) rfl rfl (hb hby d2_22) _ zk) ?_
  refine own_st (fun zw zk => XS.lxor X20.here hx rfl (hb hby d2_23) rfl zk) ?_
  refine own_st (fun zw zk => XS.lloadN X20.here hx rfl (hb hby d2_24) rfl zk) ?_
  refine own_st (fun zw zk => XS.land X20.here hx rfl (hb hby d2_25) rfl zk) ?_
  show own_Go p e below G (T20.setTop (mkF m 26 #[.val (.ref d0), .val (.ref d0), .val (.long q2), .second, .val (.int (4 : Int32))] [(.long ((r4 ^^^ r4) &&& q2)), (.long r4), (.int (4 : Int32)), (.ref d0)]))
  refine own_st (fun zw zk => XS.lxor X20.here hx rfl (hb hby d2_26) rfl zk) ?_
  obtain ⟨T21, h21, X21, e21, W21, V21, st21⟩ := own_jst X20 hx hZ e20 F0_20 (j := (4 : Int32)) (4) (by decide) (by decide) (Nat.le_of_ble_eq_true rfl) (g := (mkF m 27 #[.val (.ref d0), .val (.ref d0), .val (.long q2), .second, .val (.int (4 : Int32))] [(.long (r4 ^^^ ((r4 ^^^ r4) &&& q2))), (.int (4 : Int32)), (.ref d0)])) rfl rfl (hb hby d2_27)
  have F0_21 : own_L Z h21 d0 .long ([(.long (r0 ^^^ ((r0 ^^^ r0) &&& q2))), (.long (r1 ^^^ ((r1 ^^^ r1) &&& q2))), (.long (r2 ^^^ ((r2 ^^^ r2) &&& q2))), (.long (r3 ^^^ ((r3 ^^^ r3) &&& q2))), (.long (r4 ^^^ ((r4 ^^^ r4) &&& q2))), (.long r5), (.long r6), (.long r7)]) := V21
  have N21 := Fr.snoc X21 N20 ge_d0
  refine own_st (fun zw zk => st21 zw zk) ?_
  have Z21 : n0 ≤ h21.size := Nat.le_trans Z20 (Keep.of_wr W21).1
  have Kp21 := Kp20.wr W21 (Or.inl (List.mem_of_getElem? (i := 0) rfl))
  refine own_st (fun zw zk => XS.iinc X21.here hx rfl (hb hby d2_28) rfl rfl zk) ?_
  show own_Go p e below G (T21.setTop (mkF m 31 #[.val (.ref d0), .val (.ref d0), .val (.long q2), .second, .val (.int (5 : Int32))] []))
  refine own_st (fun zw zk => XS.goto X21.here hx rfl (pc0 := 31) (pc' := 3) rfl (hb hby d2_31) (by decide) (by decide) zk) ?_
  show own_Go p e below G (T21.setTop (mkF m 3 #[.val (.ref d0), .val (.ref d0), .val (.long q2), .second, .val (.int (5 : Int32))] []))
  refine own_st (fun zw zk => XS.iload X21.here hx rfl (hb hby d2_3) rfl zk) ?_
  refine own_st (fun zw zk => XS.bipush X21.here hx rfl (hb hby d2_5) zk) ?_
  refine own_st (fun zw zk => XS.icmpNo X21.here hx rfl (hb hby d2_7) rfl (tlt (by decide : (5 : Int32) < (8 : Int32))).2.1 zk) ?_
  refine own_st (fun zw zk => XS.aloadN X21.here hx rfl (hb hby d2_10) rfl rfl zk) ?_
  refine own_st (fun zw zk => XS.iload X21.here hx rfl (hb hby d2_11) rfl zk) ?_
  refine own_st (fun zw zk => XT.dup2 X21.here hx rfl (hb hby d2_13) rfl rfl rfl zk) ?_
  refine own_st (fun zw zk => own_jld X21 hx hZ e21 F0_21 (j := (5 : Int32)) (v := (.long r5)) (i := 5) (by decide) (by decide) rfl (g := (mkF m 14 #[.val (.ref d0), .val (.ref d0), .val (.long q2), .second, .val (.int (5 : Int32))] [(.int (5 : Int32)), (.ref d0), (.int (5 : Int32)), (.ref d0)])) rfl rfl (hb hby d2_14) _ zk) ?_
  refine own_st (fun zw zk => XS.aloadN X21.here hx rfl (hb hby d2_15) rfl rfl zk) ?_
  show own_Go p e below G (T21.setTop (mkF m 16 #[.val (.ref d0), .val (.ref d0), .val (.long q2), .second, .val (.int (5 : Int32))] [(.ref d0), (.long r5), (.int (5 : Int32)), (.ref d0)]))
  refine own_st (fun zw zk => XS.iload X21.here hx rfl (hb hby d2_16) rfl zk) ?_
  refine own_st (fun zw zk => own_jld X21 hx hZ e21 F0_21 (j := (5 : Int32)) (v := (.long r5)) (i := 5) (by decide) (by decide) rfl (g := (mkF m 18 #[.val (.ref d0), .val (.ref d0), .val (.long q2), .second, .val (.int (5 : Int32))] [(.int (5 : Int32)), (.ref d0), (.long r5), (.int (5 : Int32)), (.ref d0)])) rfl rfl (hb hby d2_18) _ zk) ?_
  refine own_st (fun zw zk => XS.aloadN X21.here hx rfl (hb hby d2_19) rfl rfl zk) ?_
  refine own_st (fun zw zk => XS.iload X21.here hx rfl (hb hby d2_20) rfl zk) ?_
  refine own_st (fun zw zk => own_jld X21 hx hZ e21 F0_21 (j := (5 : Int32)) (v := (.long r5)) (i := 5) (by decide) (by decide) rfl (g := (mkF m 22 #[.val (.ref d0), .val (.ref d0), .val (.long q2), .second, .val (.int (5 : Int32))] [(.int (5 : Int32)), (.ref d0), (.long r5), (.long r5), (.int (5 : Int32)), (.ref d0)])) rfl rfl (hb hby d2_22) _ zk) ?_
  refine own_st (fun zw zk => XS.lxor X21.here hx rfl (hb hby d2_23) rfl zk) ?_
  refine own_st (fun zw zk => XS.lloadN X21.here hx rfl (hb hby d2_24) rfl zk) ?_
  refine own_st (fun zw zk => XS.land X21.here hx rfl (hb hby d2_25) rfl zk) ?_
  show own_Go p e below G (T21.setTop (mkF m 26 #[.val (.ref d0), .val (.ref d0), .val (.long q2), .second, .val (.int (5 : Int32))] [(.long ((r5 ^^^ r5) &&& q2)), (.long r5), (.int (5 : Int32)), (.ref d0)]))
  refine own_st (fun zw zk => XS.lxor X21.here hx rfl (hb hby d2_26) rfl zk) ?_
  obtain ⟨T22, h22, X22, e22, W22, V22, st22⟩ := own_jst X21 hx hZ e21 F0_21 (j := (5 : Int32)) (5) (by decide) (by decide) (Nat.le_of_ble_eq_true rfl) (g := (mkF m 27 #[.val (.ref d0), .val (.ref d0), .val (.long q2), .second, .val (.int (5 : Int32))] [(.long (r5 ^^^ ((r5 ^^^ r5) &&& q2))), (.int (5 : Int32)), (.ref d0)])) rfl rfl (hb hby d2_27)
  have F0_22 : own_L Z h22 d0 .long ([(.long (r0 ^^^ ((r0 ^^^ r0) &&& q2))), (.long (r1 ^^^ ((r1 ^^^ r1) &&& q2))), (.long (r2 ^^^ ((r2 ^^^ r2) &&& q2))), (.long (r3 ^^^ ((r3 ^^^ r3) &&& q2))), (.long (r4 ^^^ ((r4 ^^^ r4) &&& q2))), (.long (r5 ^^^ ((r5 ^^^ r5) &&& q2))), (.long r6), (.long r7)]) := V22
  have N22 := Fr.snoc X22 N21 ge_d0
  refine own_st (fun zw zk => st22 zw zk) ?_
  have Z22 : n0 ≤ h22.size := Nat.le_trans Z21 (Keep.of_wr W22).1
  have Kp22 := Kp21.wr W22 (Or.inl (List.mem_of_getElem? (i := 0) rfl))
  refine own_st (fun zw zk => XS.iinc X22.here hx rfl (hb hby d2_28) rfl rfl zk) ?_
  show own_Go p e below G (T22.setTop (mkF m 31 #[.val (.ref d0), .val (.ref d0), .val (.long q2), .second, .val (.int (6 : Int32))] []))
  refine own_st (fun zw zk => XS.goto X22.here hx rfl (pc0 := 31) (pc' := 3) rfl (hb hby d2_31) (by decide) (by decide) zk) ?_
  show own_Go p e below G (T22.setTop (mkF m 3 #[.val (.ref d0), .val (.ref d0), .val (.long q2), .second, .val (.int (6 : Int32))] []))
  refine own_st (fun zw zk => XS.iload X22.here hx rfl (hb hby d2_3) rfl zk) ?_
  refine own_st (fun zw zk => XS.bipush X22.here hx rfl (hb hby d2_5) zk) ?_
  refine own_st (fun zw zk => XS.icmpNo X22.here hx rfl (hb hby d2_7) rfl (tlt (by decide : (6 : Int32) < (8 : Int32))).2.1 zk) ?_
  refine own_st (fun zw zk => XS.aloadN X22.here hx rfl (hb hby d2_10) rfl rfl zk) ?_
  refine own_st (fun zw zk => XS.iload X22.here hx rfl (hb hby d2_11) rfl zk) ?_
  refine own_st (fun zw zk => XT.dup2 X22.here hx rfl (hb hby d2_13) rfl rfl rfl zk) ?_
  refine own_st (fun zw zk => own_jld X22 hx hZ e22 F0_22 (j := (6 : Int32)) (v := (.long r6)) (i := 6) (by decide) (by decide) rfl (g := (mkF m 14 #[.val (.ref d0), .val (.ref d0), .val (.long q2), .second, .val (.int (6 : Int32))] [(.int (6 : Int32)), (.ref d0), (.int (6 : Int32)), (.ref d0)])) rfl rfl (hb hby d2_14) _ zk) ?_
  refine own_st (fun zw zk => XS.aloadN X22.here hx rfl (hb hby d2_15) rfl rfl zk) ?_
  show own_Go p e below G (T22.setTop (mkF m 16 #[.val (.ref d0), .val (.ref d0), .val (.long q2), .second, .val (.int (6 : Int32))] [(.ref d0), (.long r6), (.int (6 : Int32)), (.ref d0)]))
  refine own_st (fun zw zk => XS.iload X22.here hx rfl (hb hby d2_16) rfl zk) ?_
  refine own_st (fun zw zk => own_jld X22 hx hZ e22 F0_22 (j := (6 : Int32)) (v := (.long r6)) (i := 6) (by decide) (by decide) rfl (g := (mkF m 18 #[.val (.ref d0), .val (.ref d0), .val (.long q2), .second, .val (.int (6 : Int32))] [(.int (6 : Int32)), (.ref d0), (.long r6), (.int (6 : Int32)), (.ref d0)])) rfl rfl (hb hby d2_18) _ zk) ?_
  refine own_st (fun zw zk => XS.aloadN X22.here hx rfl (hb hby d2_19) rfl rfl zk) ?_
  refine own_st (fun zw zk => XS.iload X22.here hx rfl (hb hby d2_20) rfl zk) ?_
  refine own_st (fun zw zk => own_jld X22 hx hZ e22 F0_22 (j := (6 : Int32)) (v := (.long r6)) (i := 6) (by decide) (by decide) rfl (g := (mkF m 22 #[.val (.ref d0), .val (.ref d0), .val (.long q2), .second, .val (.int (6 : Int32))] [(.int (6 : Int32)), (.ref d0), (.long r6), (.long r6), (.int (6 : Int32)), (.ref d0)])) rfl rfl (hb hby d2_22) _ zk) ?_
  refine own_st (fun zw zk => XS.lxor X22.here hx rfl (hb hby d2_23) rfl zk) ?_
  refine own_st (fun zw zk => XS.lloadN X22.here hx rfl (hb hby d2_24) rfl zk) ?_
  refine own_st (fun zw zk => XS.land X22.here hx rfl (hb hby d2_25) rfl zk) ?_
  show own_Go p e below G (T22.setTop (mkF m 26 #[.val (.ref d0), .val (.ref d0), .val (.long q2), .second, .val (.int (6 : Int32))] [(.long ((r6 ^^^ r6) &&& q2)), (.long r6), (.int (6 : Int32)), (.ref d0)]))
  refine own_st (fun zw zk => XS.lxor X22.here hx rfl (hb hby d2_26) rfl zk) ?_
  obtain ⟨T23, h23, X23, e23, W23, V23, st23⟩ := own_jst X22 hx hZ e22 F0_22 (j := (6 : Int32)) (6) (by decide) (by decide) (Nat.le_of_ble_eq_true rfl) (g := (mkF m 27 #[.val (.ref d0), .val (.ref d0), .val (.long q2), .second, .val (.int (6 : Int32))] [(.long (r6 ^^^ ((r6 ^^^ r6) &&& q2))), (.int (6 : Int32)), (.ref d0)])) rfl rfl (hb hby d2_27)
  have F0_23 : own_L Z h23 d0 .long ([(.long (r0 ^^^ ((r0 ^^^ r0) &&& q2))), (.long (r1 ^^^ ((r1 ^^^ r1) &&& q2))), (.long (r2 ^^^ ((r2 ^^^ r2) &&& q2))), (.long (r3 ^^^ ((r3 ^^^ r3) &&& q2))), (.long (r4 ^^^ ((r4 ^^^ r4) &&& q2))), (.long (r5 ^^^ ((r5 ^^^ r5) &&& q2))), (.long (r6 ^^^ ((r6 ^^^ r6) &&& q2))), (.long r7)]) := V23
  have N23 := Fr.snoc X23 N22 ge_d0
  refine own_st (fun zw zk => st23 zw zk) ?_
  have Z23 : n0 ≤ h23.size := Nat.le_trans Z22 (Keep.of_wr W23).1
  have Kp23 := Kp22.wr W23 (Or.inl (List.mem_of_getElem? (i := 0) rfl))
  refine own_st (fun zw zk => XS.iinc X23.here hx rfl (hb hby d2_28) rfl rfl zk) ?_
  show own_Go p e below G (T23.setTop (mkF m 31 #[.val (.ref d0), .val (.ref d0), .val (.long q2), .second, .val (.int (7 : Int32))] []))
  refine own_st (fun zw zk => XS.goto X23.here hx rfl (pc0 := 31) (pc' := 3) rfl (hb hby d2_31) (by decide) (by decide) zk) ?_
  show own_Go p e below G (T23.setTop (mkF m 3 #[.val (.ref d0), .val (.ref d0), .val (.long q2), .second, .val (.int (7 : Int32))] []))
  refine own_st (fun zw zk => XS.iload X23.here hx rfl (hb hby d2_3) rfl zk) ?_
  refine own_st (fun zw zk => XS.bipush X23.here hx rfl (hb hby d2_5) zk) ?_
  refine own_st (fun zw zk => XS.icmpNo X23.here hx rfl (hb hby d2_7) rfl (tlt (by decide : (7 : Int32) < (8 : Int32))).2.1 zk) ?_
  refine own_st (fun zw zk => XS.aloadN X23.here hx rfl (hb hby d2_10) rfl rfl zk) ?_
  refine own_st (fun zw zk => XS.iload X23.here hx rfl (hb hby d2_11) rfl zk) ?_
  refine own_st (fun zw zk => XT.dup2 X23.here hx rfl (hb hby d2_13) rfl rfl rfl zk) ?_
  refine own_st (fun zw zk => own_jld X23 hx hZ e23 F0_23 (j := (7 : Int32)) (v := (.long r7)) (i := 7) (by decide) (by decide) rfl (g := (mkF m 14 #[.val (.ref d0), .val (.ref d0), .val (.long q2), .second, .val (.int (7 : Int32))] [(.int (7 : Int32)), (.ref d0), (.int (7 : Int32)), (.ref d0)])) rfl rfl (hb hby d2_14) _ zk) ?_
  refine own_st (fun zw zk => XS.aloadN X23.here hx rfl (hb hby d2_15) rfl rfl zk) ?_
  show own_Go p e below G (T23.setTop (mkF m 16 #[.val (.ref d0), .val (.ref d0), .val (.long q2), .second, .val (.int (7 : Int32))] [(.ref d0), (.long r7), (.int (7 : Int32)), (.ref d0)]))
  refine own_st (fun zw zk => XS.iload X23.here hx rfl (hb hby d2_16) rfl zk) ?_
  refine own_st (fun zw zk => own_jld X23 hx hZ e23 F0_23 (j := (7 : Int32)) (v := (.long r7)) (i := 7) (by decide) (by decide) rfl (g := (mkF m 18 #[.val (.ref d0), .val (.ref d0), .val (.long q2), .second, .val (.int (7 : Int32))] [(.int (7 : Int32)), (.ref d0), (.long r7), (.int (7 : Int32)), (.ref d0)])) rfl rfl (hb hby d2_18) _ zk) ?_
  refine own_st (fun zw zk => XS.aloadN X23.here hx rfl (hb hby d2_19) rfl rfl zk) ?_
  refine own_st (fun zw zk => XS.iload X23.here hx rfl (hb hby d2_20) rfl zk) ?_
  refine own_st (fun zw zk => own_jld X23 hx hZ e23 F0_23 (j := (7 : Int32)) (v := (.long r7)) (i := 7) (by decide) (by decide) rfl (g := (mkF m 22 #[.val (.ref d0), .val (.ref d0), .val (.long q2), .second, .val (.int (7 : Int32))] [(.int (7 : Int32)), (.ref d0), (.long r7), (.long r7), (.int (7 : Int32)), (.ref d0)])) rfl rfl (hb hby d2_22) _ zk) ?_
  refine own_st (fun zw zk => XS.lxor X23.here hx rfl (hb hby d2_23) rfl zk) ?_
  refine own_st (fun zw zk => XS.lloadN X23.here hx rfl (hb hby d2_24) rfl zk) ?_
  refine own_st (fun zw zk => XS.land X23.here hx rfl (hb hby d2_25) rfl zk) ?_
  show own_Go p e below G (T23.setTop (mkF m 26 #[.val (.ref d0), .val (.ref d0), .val (.long q2), .second, .val (.int (7 : Int32))] [(.long ((r7 ^^^ r7) &&& q2)), (.long r7), (.int (7 : Int32)), (.ref d0)]))
  refine own_st (fun zw zk => XS.lxor X23.here hx rfl (hb hby d2_26) rfl zk) ?_
  obtain ⟨T24, h24, X24, e24, W24, V24, st24⟩ := own_jst X23 hx hZ e23 F0_23 (j := (7 : Int32)) (7) (by decide) (by decide) (Nat.le_of_ble_eq_true rfl) (g := (mkF m 27 #[.val (.ref d0), .val (.ref d0), .val (.long q2), .second, .val (.int (7 : Int32))] [(.long (r7 ^^^ ((r7 ^^^ r7) &&& q2))), (.int (7 : Int32)), (.ref d0)])) rfl rfl (hb hby d2_27)
  have F0_24 : own_L Z h24 d0 .long ([(.long (r0 ^^^ ((r0 ^^^ r0) &&& q2))), (.long (r1 ^^^ ((r1 ^^^ r1) &&& q2))), (.long (r2 ^^^ ((r2 ^^^ r2) &&& q2))), (.long (r3 ^^^ ((r3 ^^^ r3) &&& q2))), (.long (r4 ^^^ ((r4 ^^^ r4) &&& q2))), (.long (r5 ^^^ ((r5 ^^^ r5) &&& q2))), (.long (r6 ^^^ ((r6 ^^^ r6) &&& q2))), (.long (r7 ^^^ ((r7 ^^^ r7) &&& q2)))]) := V24
  have N24 := Fr.snoc X24 N23 ge_d0
  refine own_st (fun zw zk => st24 zw zk) ?_
  have Z24 : n0 ≤ h24.size := Nat.le_trans Z23 (Keep.of_wr W24).1
  have Kp24 := Kp23.wr W24 (Or.inl (List.mem_of_getElem? (i := 0) rfl))
  refine own_st (fun zw zk => XS.iinc X24.here hx rfl (hb hby d2_28) rfl rfl zk) ?_
  show own_Go p e below G (T24.setTop (mkF m 31 #[.val (.ref d0), .val (.ref d0), .val (.long q2), .second, .val (.int (8 : Int32))] []))
  refine own_st (fun zw zk => XS.goto X24.here hx rfl (pc0 := 31) (pc' := 3) rfl (hb hby d2_31) (by decide) (by decide) zk) ?_
  show own_Go p e below G (T24.setTop (mkF m 3 #[.val (.ref d0), .val (.ref d0), .val (.long q2), .second, .val (.int (8 : Int32))] []))
  refine own_st (fun zw zk => XS.iload X24.here hx rfl (hb hby d2_3) rfl zk) ?_
  refine own_st (fun zw zk => XS.bipush X24.here hx rfl (hb hby d2_5) zk) ?_
  refine own_st (fun zw zk => XS.icmpYes X24.here hx rfl (pc0 := 7) (pc' := 34) rfl (hb hby d2_7) rfl (flt (by decide : ¬ ((8 : Int32) < (8 : Int32)))).2.1 (by decide) (by decide) zk) ?_
  subst hG
  obtain ⟨fs, hr, hrun, hended, hW, hsame⟩ := X24.leave (v := none) (fun _ => rfl)
  refine ⟨_, X24.returnOut hx Bd.returns (hb hby d2_34) hr, _, hrun, hended, _, _, rfl, ?_, ⟨_, rfl⟩, hW, hsame.mono (by decide) (by decide)⟩
  show Q2a Z d0 q2 r0 r1 r2 r3 r4 r5 r6 r7 h0 n0 _ T24.heap _
  rw [e24]
  exact ⟨rfl, N24, Kp24, F0_24⟩
theorem d3_0 : decode method_4_code 0 = .ok (.aload_n 0, 1) := by decide +kernel
theorem d3_1 : decode method_4_code 1 = .ok (.iconst 0, 1) := by decide +kernel
theorem d3_2 : decode method_4_code 2 = .ok (.laload, 1) := by decide +kernel
theorem d3_3 : decode method_4_code 3 = .ok (.aload_n 1, 1) := by decide +kernel
theorem d3_4 : decode method_4_code 4 = .ok (.iconst 0, 1) := by decide +kernel
theorem d3_5 : decode method_4_code 5 = .ok (.laload, 1) := by decide +kernel
theorem d3_6 : decode method_4_code 6 = .ok (.lcmp, 1) := by decide +kernel
theorem d3_7 : decode method_4_code 7 = .ok (.ifCond .ne 81, 3) := by decide +kernel
theorem d3_10 : decode method_4_code 10 = .ok (.aload_n 0, 1) := by decide +kernel
theorem d3_11 : decode method_4_code 11 = .ok (.iconst 1, 1) := by decide +kernel
theorem d3_12 : decode method_4_code 12 = .ok (.laload, 1) := by decide +kernel
theorem d3_13 : decode method_4_code 13 = .ok (.aload_n 1, 1) := by decide +kernel
theorem d3_14 : decode method_4_code 14 = .ok (.iconst 1, 1) := by decide +kernel
theorem d3_15 : decode method_4_code 15 = .ok (.laload, 1) := by decide +kernel
theorem d3_16 : decode method_4_code 16 = .ok (.lcmp, 1) := by decide +kernel
theorem d3_17 : decode method_4_code 17 = .ok (.ifCond .ne 71, 3) := by decide +kernel
theorem d3_20 : decode method_4_code 20 = .ok (.aload_n 0, 1) := by decide +kernel
theorem d3_21 : decode method_4_code 21 = .ok (.iconst 2, 1) := by decide +kernel
theorem d3_22 : decode method_4_code 22 = .ok (.laload, 1) := by decide +kernel
theorem d3_23 : decode method_4_code 23 = .ok (.aload_n 1, 1) := by decide +kernel
theorem d3_24 : decode method_4_code 24 = .ok (.iconst 2, 1) := by decide +kernel
theorem d3_25 : decode method_4_code 25 = .ok (.laload, 1) := by decide +kernel
theorem d3_26 : decode method_4_code 26 = .ok (.lcmp, 1) := by decide +kernel
theorem d3_27 : decode method_4_code 27 = .ok (.ifCond .ne 61, 3) := by decide +kernel
theorem d3_30 : decode method_4_code 30 = .ok (.aload_n 0, 1) := by decide +kernel
theorem d3_31 : decode method_4_code 31 = .ok (.iconst 3, 1) := by decide +kernel
theorem d3_32 : decode method_4_code 32 = .ok (.laload, 1) := by decide +kernel
theorem d3_33 : decode method_4_code 33 = .ok (.aload_n 1, 1) := by decide +kernel
theorem d3_34 : decode method_4_code 34 = .ok (.iconst 3, 1) := by decide +kernel
theorem d3_35 : decode method_4_code 35 = .ok (.laload, 1) := by decide +kernel
theorem d3_36 : decode method_4_code 36 = .ok (.lcmp, 1) := by decide +kernel
theorem d3_37 : decode method_4_code 37 = .ok (.ifCond .ne 51, 3) := by decide +kernel
theorem d3_40 : decode method_4_code 40 = .ok (.aload_n 0, 1) := by decide +kernel
theorem d3_41 : decode method_4_code 41 = .ok (.iconst 4, 1) := by decide +kernel
theorem d3_42 : decode method_4_code 42 = .ok (.laload, 1) := by decide +kernel
theorem d3_43 : decode method_4_code 43 = .ok (.aload_n 1, 1) := by decide +kernel
theorem d3_44 : decode method_4_code 44 = .ok (.iconst 4, 1) := by decide +kernel
theorem d3_45 : decode method_4_code 45 = .ok (.laload, 1) := by decide +kernel
theorem d3_46 : decode method_4_code 46 = .ok (.lcmp, 1) := by decide +kernel
theorem d3_47 : decode method_4_code 47 = .ok (.ifCond .ne 41, 3) := by decide +kernel
theorem d3_50 : decode method_4_code 50 = .ok (.aload_n 0, 1) := by decide +kernel
theorem d3_51 : decode method_4_code 51 = .ok (.iconst 5, 1) := by decide +kernel
theorem d3_52 : decode method_4_code 52 = .ok (.laload, 1) := by decide +kernel
theorem d3_53 : decode method_4_code 53 = .ok (.aload_n 1, 1) := by decide +kernel
theorem d3_54 : decode method_4_code 54 = .ok (.iconst 5, 1) := by decide +kernel
theorem d3_55 : decode method_4_code 55 = .ok (.laload, 1) := by decide +kernel
theorem d3_56 : decode method_4_code 56 = .ok (.lcmp, 1) := by decide +kernel
theorem d3_57 : decode method_4_code 57 = .ok (.ifCond .ne 31, 3) := by decide +kernel
theorem d3_60 : decode method_4_code 60 = .ok (.aload_n 0, 1) := by decide +kernel
theorem d3_61 : decode method_4_code 61 = .ok (.bipush 6, 2) := by decide +kernel
theorem d3_63 : decode method_4_code 63 = .ok (.laload, 1) := by decide +kernel
theorem d3_64 : decode method_4_code 64 = .ok (.aload_n 1, 1) := by decide +kernel
theorem d3_65 : decode method_4_code 65 = .ok (.bipush 6, 2) := by decide +kernel
theorem d3_67 : decode method_4_code 67 = .ok (.laload, 1) := by decide +kernel
theorem d3_68 : decode method_4_code 68 = .ok (.lcmp, 1) := by decide +kernel
theorem d3_69 : decode method_4_code 69 = .ok (.ifCond .ne 19, 3) := by decide +kernel
theorem d3_72 : decode method_4_code 72 = .ok (.aload_n 0, 1) := by decide +kernel
theorem d3_73 : decode method_4_code 73 = .ok (.bipush 7, 2) := by decide +kernel
theorem d3_75 : decode method_4_code 75 = .ok (.laload, 1) := by decide +kernel
theorem d3_76 : decode method_4_code 76 = .ok (.aload_n 1, 1) := by decide +kernel
theorem d3_77 : decode method_4_code 77 = .ok (.bipush 7, 2) := by decide +kernel
theorem d3_79 : decode method_4_code 79 = .ok (.laload, 1) := by decide +kernel
theorem d3_80 : decode method_4_code 80 = .ok (.lcmp, 1) := by decide +kernel
theorem d3_81 : decode method_4_code 81 = .ok (.ifCond .ne 7, 3) := by decide +kernel
theorem d3_84 : decode method_4_code 84 = .ok (.iconst 1, 1) := by decide +kernel
theorem d3_85 : decode method_4_code 85 = .ok (.goto 4, 3) := by decide +kernel
theorem d3_88 : decode method_4_code 88 = .ok (.iconst 0, 1) := by decide +kernel
theorem d3_89 : decode method_4_code 89 = .ok (.ireturn, 1) := by decide +kernel
theorem ef_rm3 (m : MethodId) (d0 : Addr) (d1 : Addr) : entryFrame m #[(.ref d0), (.ref d1)] 2 = mkF m 0 #[.val (.ref d0), .val (.ref d1)] [] := by first | (simp [entryFrame, mkF, argsToLocals, Value.category]; done) | rfl
def own_same (x0 : Int64) (x1 : Int64) (x2 : Int64) (x3 : Int64) (x4 : Int64) (x5 : Int64) (x6 : Int64) (x7 : Int64) (y0 : Int64) (y1 : Int64) (y2 : Int64) (y3 : Int64) (y4 : Int64) (y5 : Int64) (y6 : Int64) (y7 : Int64) : Int32 := (if x0 = y0 then (if x1 = y1 then (if x2 = y2 then (if x3 = y3 then (if x4 = y4 then (if x5 = y5 then (if x6 = y6 then (if x7 = y7 then (1 : Int32) else (0 : Int32)) else (0 : Int32)) else (0 : Int32)) else (0 : Int32)) else (0 : Int32)) else (0 : Int32)) else (0 : Int32)) else (0 : Int32))
def Q3 (Z : State) (d0 : Addr) (d1 : Addr) (x0 : Int64) (x1 : Int64) (x2 : Int64) (x3 : Int64) (x4 : Int64) (x5 : Int64) (x6 : Int64) (x7 : Int64) (y0 : Int64) (y1 : Int64) (y2 : Int64) (y3 : Int64) (y4 : Int64) (y5 : Int64) (y6 : Int64) (y7 : Int64) (h0 : Heap) (n0 : Nat) (rv : Option Value) (hq : Heap) (Lq : List Loc) : Prop := rv = some (.int (own_same x0 x1 x2 x3 x4 x5 x6 x7 y0 y1 y2 y3 y4 y5 y6 y7)) ∧ Fr n0 Lq ∧ hq = h0
set_option maxRecDepth 65536 in
set_option maxHeartbeats 40000000 in
theorem rm3 (l : Launch) (Z : State) (a0 : Array Value) (hw : ∀ d ∈ tables_1, d.before a0 Z = true) (ws : List Jvm.Cond) (d0 : Addr) (d1 : Addr) (x0 : Int64) (x1 : Int64) (x2 : Int64) (x3 : Int64) (x4 : Int64) (x5 : Int64) (x6 : Int64) (x7 : Int64) (y0 : Int64) (y1 : Int64) (y2 : Int64) (y3 : Int64) (y4 : Int64) (y5 : Int64) (y6 : Int64) (y7 : Int64) (h0 : Heap) (n0 : Nat) (Z0 : n0 ≤ h0.size) (F0_ : own_L Z h0 d0 .long ([(.long x0), (.long x1), (.long x2), (.long x3), (.long x4), (.long x5), (.long x6), (.long x7)])) (F1_ : own_L Z h0 d1 .long ([(.long y0), (.long y1), (.long y2), (.long y3), (.long y4), (.long y5), (.long y6), (.long y7)])) :
    MetFree l (⟨"com/example/attestrum/attestrum/schemes/ec/P256FieldSelectPinLaw", "same", "([J[J)Z"⟩ : MethodName) (head1 (Jvm.Cond.code (⟨"com/example/attestrum/attestrum/schemes/ec/P256FieldSelectPinLaw", "same", "([J[J)Z"⟩ : MethodName) method_4_code 2 (some .boolean) :: ws) ({ frames := 0, cells := 0, slots := 0, locals := 0 } : Room)) (fun za U => za = #[(.ref d0), (.ref d1)] ∧ Z.Warmed39 U.vm ∧ U.heap = h0) (fun _ _ _ _ _ => True) (fun _ U o U' => ∃ rv Lq, o = .returned rv ∧ Q3 Z d0 d1 x0 x1 x2 x3 x4 x5 x6 x7 y0 y1 y2 y3 y4 y5 y6 y7 h0 n0 rv U'.heap Lq ∧ FrameEnd U o U' Lq ({ frames := 0, cells := 0, slots := 0, locals := 0 } : Room).cells ({ frames := 0, cells := 0, slots := 0, locals := 0 } : Room).slots) := by
  refine MetFree.of_bodySF (plainFor_of_name pn_0) hisR ?_
  intro p e s m args below meth c s₁ Bd hml0 hP hK
  obtain ⟨rfl, hZ, hh⟩ := hP
  have hx := Bd.exec
  have hby := Bd.bytes
  have hml : c.maxLocals = 2 := hml0
  have hown : s.vm.findClass "com/example/attestrum/attestrum/schemes/ec/P256FieldSelectPinLaw" = some m.cls := findClass_of_methodNamed Bd.named
  have hnm := (name_of_methodNamed Bd.named Bd.method).1
  have X0 : Stand p l e ({ frames := 0, cells := 0, slots := 0, locals := 0 } : Room) s m #[(.ref d0), (.ref d1)] below meth c s₁ [] 0 0 := Stand.of_body Bd
  have e0 : s₁.heap = h0 := by rw [← hh, Bd.state]; rfl
  have N0 := Fr.nil n0
  refine own_out (own_nm fun G hG => own_st (fun zt zk => castTop (ef_rm3 m d0 d1) zk) ?_)
  show own_Go p e below G (s₁.setTop (mkF m 0 #[.val (.ref d0), .val (.ref d1)] []))
  refine own_st (fun zw zk => XS.aloadN X0.here hx rfl (hb hby d3_0) rfl rfl zk) ?_
  refine own_st (fun zw zk => XS.iconst X0.here hx rfl (hb hby d3_1) zk) ?_
  refine own_st (fun zw zk => own_jld X0 hx hZ e0 F0_ (j := (0 : Int32)) (v := (.long x0)) (i := 0) (by decide) (by decide) rfl (g := (mkF m 2 #[.val (.ref d0), .val (.ref d1)] [(.int (0 : Int32)), (.ref d0)])) rfl rfl (hb hby d3_2) _ zk) ?_
  refine own_st (fun zw zk => XS.aloadN X0.here hx rfl (hb hby d3_3) rfl rfl zk) ?_
  refine own_st (fun zw zk => XS.iconst X0.here hx rfl (hb hby d3_4) zk) ?_
  refine own_st (fun zw zk => own_jld X0 hx hZ e0 F1_ (j := (0 : Int32)) (v := (.long y0)) (i := 0) (by decide) (by decide) rfl (g := (mkF m 5 #[.val (.ref d0), .val (.ref d1)] [(.int (0 : Int32)), (.ref d1), (.long x0)])) rfl rfl (hb hby d3_5) _ zk) ?_
  refine own_st (fun zw zk => XS.lcmp X0.here hx rfl (hb hby d3_6) rfl zk) ?_
  by_cases hc7 : x0 = y0
  · refine own_st (fun zw zk => XS.ifNo X0.here hx rfl (hb hby d3_7) rfl ((if0 _ _).trans (teq (own_tle hc7)).2) zk) ?_
    show own_Go p e below G (s₁.setTop (mkF m 10 #[.val (.ref d0), .val (.ref d1)] []))
    refine own_st (fun zw zk => XS.aloadN X0.here hx rfl (hb hby d3_10) rfl rfl zk) ?_
    refine own_st (fun zw zk => XS.iconst X0.here hx rfl (hb hby d3_11) zk) ?_
    refine own_st (fun zw zk => own_jld X0 hx hZ e0 F0_ (j := (1 : Int32)) (v := (.long x1)) (i := 1) (by decide) (by decide) rfl (g := (mkF m 12 #[.val (.ref d0), .val (.ref d1)] [(.int (1 : Int32)), (.ref d0)])) rfl rfl (hb hby d3_12) _ zk) ?_
    refine own_st (fun zw zk => XS.aloadN X0.here hx rfl (hb hby d3_13) rfl rfl zk) ?_
    refine own_st (fun zw zk => XS.iconst X0.here hx rfl (hb hby d3_14) zk) ?_
    refine own_st (fun zw zk => own_jld X0 hx hZ e0 F1_ (j := (1 : Int32)) (v := (.long y1)) (i := 1) (by decide) (by decide) rfl (g := (mkF m 15 #[.val (.ref d0), .val (.ref d1)] [(.int (1 : Int32)), (.ref d1), (.long x1)])) rfl rfl (hb hby d3_15) _ zk) ?_
    refine own_st (fun zw zk => XS.lcmp X0.here hx rfl (hb hby d3_16) rfl zk) ?_
    by_cases hc17 : x1 = y1
    · refine own_st (fun zw zk => XS.ifNo X0.here hx rfl (hb hby d3_17) rfl ((if0 _ _).trans (teq (own_tle hc17)).2) zk) ?_
      show own_Go p e below G (s₁.setTop (mkF m 20 #[.val (.ref d0), .val (.ref d1)] []))
      refine own_st (fun zw zk => XS.aloadN X0.here hx rfl (hb hby d3_20) rfl rfl zk) ?_
      refine own_st (fun zw zk => XS.iconst X0.here hx rfl (hb hby d3_21) zk) ?_
      refine own_st (fun zw zk => own_jld X0 hx hZ e0 F0_ (j := (2 : Int32)) (v := (.long x2)) (i := 2) (by decide) (by decide) rfl (g := (mkF m 22 #[.val (.ref d0), .val (.ref d1)] [(.int (2 : Int32)), (.ref d0)])) rfl rfl (hb hby d3_22) _ zk) ?_
      refine own_st (fun zw zk => XS.aloadN X0.here hx rfl (hb hby d3_23) rfl rfl zk) ?_
      refine own_st (fun zw zk => XS.iconst X0.here hx rfl (hb hby d3_24) zk) ?_
      refine own_st (fun zw zk => own_jld X0 hx hZ e0 F1_ (j := (2 : Int32)) (v := (.long y2)) (i := 2) (by decide) (by decide) rfl (g := (mkF m 25 #[.val (.ref d0), .val (.ref d1)] [(.int (2 : Int32)), (.ref d1), (.long x2)])) rfl rfl (hb hby d3_25) _ zk) ?_
      refine own_st (fun zw zk => XS.lcmp X0.here hx rfl (hb hby d3_26) rfl zk) ?_
      by_cases hc27 : x2 = y2
      · refine own_st (fun zw zk => XS.ifNo X0.here hx rfl (hb hby d3_27) rfl ((if0 _ _).trans (teq (own_tle hc27)).2) zk) ?_
        show own_Go p e below G (s₁.setTop (mkF m 30 #[.val (.ref d0), .val (.ref d1)] []))
        refine own_st (fun zw zk => XS.aloadN X0.here hx rfl (hb hby d3_30) rfl rfl zk) ?_
        refine own_st (fun zw zk => XS.iconst X0.here hx rfl (hb hby d3_31) zk) ?_
        refine own_st (fun zw zk => own_jld X0 hx hZ e0 F0_ (j := (3 : Int32)) (v := (.long x3)) (i := 3) (by decide) (by decide) rfl (g := (mkF m 32 #[.val (.ref d0), .val (.ref d1)] [(.int (3 : Int32)), (.ref d0)])) rfl rfl (hb hby d3_32) _ zk) ?_
        refine own_st (fun zw zk => XS.aloadN X0.here hx rfl (hb hby d3_33) rfl rfl zk) ?_
        refine own_st (fun zw zk => XS.iconst X0.here hx rfl (hb hby d3_34) zk) ?_
        refine own_st (fun zw zk => own_jld X0 hx hZ e0 F1_ (j := (3 : Int32)) (v := (.long y3)) (i := 3) (by decide) (by decide) rfl (g := (mkF m 35 #[.val (.ref d0), .val (.ref d1)] [(.int (3 : Int32)), (.ref d1), (.long x3)])) rfl rfl (hb hby d3_35) _ zk) ?_
        refine own_st (fun zw zk => XS.lcmp X0.here hx rfl (hb hby d3_36) rfl zk) ?_
        by_cases hc37 : x3 = y3
        · refine own_st (fun zw zk => XS.ifNo X0.here hx rfl (hb hby d3_37) rfl ((if0 _ _).trans (teq (own_tle hc37)).2) zk) ?_
          show own_Go p e below G (s₁.setTop (mkF m 40 #[.val (.ref d0), .val (.ref d1)] []))
          refine own_st (fun zw zk => XS.aloadN X0.here hx rfl (hb hby d3_40) rfl rfl zk) ?_
          refine own_st (fun zw zk => XS.iconst X0.here hx rfl (hb hby d3_41) zk) ?_
          refine own_st (fun zw zk => own_jld X0 hx hZ e0 F0_ (j := (4 : Int32)) (v := (.long x4)) (i := 4) (by decide) (by decide) rfl (g := (mkF m 42 #[.val (.ref d0), .val (.ref d1)] [(.int (4 : Int32)), (.ref d0)])) rfl rfl (hb hby d3_42) _ zk) ?_
          refine own_st (fun zw zk => XS.aloadN X0.here hx rfl (hb hby d3_43) rfl rfl zk) ?_
          refine own_st (fun zw zk => XS.iconst X0.here hx rfl (hb hby d3_44) zk) ?_
          refine own_st (fun zw zk => own_jld X0 hx hZ e0 F1_ (j := (4 : Int32)) (v := (.long y4)) (i := 4) (by decide) (by decide) rfl (g := (mkF m 45 #[.val (.ref d0), .val (.ref d1)] [(.int (4 : Int32)), (.ref d1), (.long x4)])) rfl rfl (hb hby d3_45) _ zk) ?_
          refine own_st (fun zw zk => XS.lcmp X0.here hx rfl (hb hby d3_46) rfl zk) ?_
          by_cases hc47 : x4 = y4
          · refine own_st (fun zw zk => XS.ifNo X0.here hx rfl (hb hby d3_47) rfl ((if0 _ _).trans (teq (own_tle hc47)).2) zk) ?_
            show own_Go p e below G (s₁.setTop (mkF m 50 #[.val (.ref d0), .val (.ref d1)] []))
            refine own_st (fun zw zk => XS.aloadN X0.here hx rfl (hb hby d3_50) rfl rfl zk) ?_
            refine own_st (fun zw zk => XS.iconst X0.here hx rfl (hb hby d3_51) zk) ?_
            refine own_st (fun zw zk => own_jld X0 hx hZ e0 F0_ (j := (5 : Int32)) (v := (.long x5)) (i := 5) (by decide) (by decide) rfl (g := (mkF m 52 #[.val (.ref d0), .val (.ref d1)] [(.int (5 : Int32)), (.ref d0)])) rfl rfl (hb hby d3_52) _ zk) ?_
            refine own_st (fun zw zk => XS.aloadN X0.here hx rfl (hb hby d3_53) rfl rfl zk) ?_
            refine own_st (fun zw zk => XS.iconst X0.here hx rfl (hb hby d3_54) zk) ?_
            refine own_st (fun zw zk => own_jld X0 hx hZ e0 F1_ (j := (5 : Int32)) (v := (.long y5)) (i := 5) (by decide) (by decide) rfl (g := (mkF m 55 #[.val (.ref d0), .val (.ref d1)] [(.int (5 : Int32)), (.ref d1), (.long x5)])) rfl rfl (hb hby d3_55) _ zk) ?_
            refine own_st (fun zw zk => XS.lcmp X0.here hx rfl (hb hby d3_56) rfl zk) ?_
            by_cases hc57 : x5 = y5
            · refine own_st (fun zw zk => XS.ifNo X0.here hx rfl (hb hby d3_57) rfl ((if0 _ _).trans (teq (own_tle hc57)).2) zk) ?_
              show own_Go p e below G (s₁.setTop (mkF m 60 #[.val (.ref d0), .val (.ref d1)] []))
              refine own_st (fun zw zk => XS.aloadN X0.here hx rfl (hb hby d3_60) rfl rfl zk) ?_
              refine own_st (fun zw zk => XS.bipush X0.here hx rfl (hb hby d3_61) zk) ?_
              refine own_st (fun zw zk => own_jld X0 hx hZ e0 F0_ (j := (6 : Int32)) (v := (.long x6)) (i := 6) (by decide) (by decide) rfl (g := (mkF m 63 #[.val (.ref d0), .val (.ref d1)] [(.int (6 : Int32)), (.ref d0)])) rfl rfl (hb hby d3_63) _ zk) ?_
              refine own_st (fun zw zk => XS.aloadN X0.here hx rfl (hb hby d3_64) rfl rfl zk) ?_
              refine own_st (fun zw zk => XS.bipush X0.here hx rfl (hb hby d3_65) zk) ?_
              refine own_st (fun zw zk => own_jld X0 hx hZ e0 F1_ (j := (6 : Int32)) (v := (.long y6)) (i := 6) (by decide) (by decide) rfl (g := (mkF m 67 #[.val (.ref d0), .val (.ref d1)] [(.int (6 : Int32)), (.ref d1), (.long x6)])) rfl rfl (hb hby d3_67) _ zk) ?_
              refine own_st (fun zw zk => XS.lcmp X0.here hx rfl (hb hby d3_68) rfl zk) ?_
              by_cases hc69 : x6 = y6
              · refine own_st (fun zw zk => XS.ifNo X0.here hx rfl (hb hby d3_69) rfl ((if0 _ _).trans (teq (own_tle hc69)).2) zk) ?_
                show own_Go p e below G (s₁.setTop (mkF m 72 #[.val (.ref d0), .val (.ref d1)] []))
                refine own_st (fun zw zk => XS.aloadN X0.here hx rfl (hb hby d3_72) rfl rfl zk) ?_
                refine own_st (fun zw zk => XS.bipush X0.here hx rfl (hb hby d3_73) zk) ?_
                refine own_st (fun zw zk => own_jld X0 hx hZ e0 F0_ (j := (7 : Int32)) (v := (.long x7)) (i := 7) (by decide) (by decide) rfl (g := (mkF m 75 #[.val (.ref d0), .val (.ref d1)] [(.int (7 : Int32)), (.ref d0)])) rfl rfl (hb hby d3_75) _ zk) ?_
                refine own_st (fun zw zk => XS.aloadN X0.here hx rfl (hb hby d3_76) rfl rfl zk) ?_
                refine own_st (fun zw zk => XS.bipush X0.here hx rfl (hb hby d3_77) zk) ?_
                refine own_st (fun zw zk => own_jld X0 hx hZ e0 F1_ (j := (7 : Int32)) (v := (.long y7)) (i := 7) (by decide) (by decide) rfl (g := (mkF m 79 #[.val (.ref d0), .val (.ref d1)] [(.int (7 : Int32)), (.ref d1), (.long x7)])) rfl rfl (hb hby d3_79) _ zk) ?_
                refine own_st (fun zw zk => XS.lcmp X0.here hx rfl (hb hby d3_80) rfl zk) ?_
                by_cases hc81 : x7 = y7
                · refine own_st (fun zw zk => XS.ifNo X0.here hx rfl (hb hby d3_81) rfl ((if0 _ _).trans (teq (own_tle hc81)).2) zk) ?_
                  show own_Go p e below G (s₁.setTop (mkF m 84 #[.val (.ref d0), .val (.ref d1)] []))
                  refine own_st (fun zw zk => XS.iconst X0.here hx rfl (hb hby d3_84) zk) ?_
                  refine own_st (fun zw zk => XS.goto X0.here hx rfl (pc0 := 85) (pc' := 89) rfl (hb hby d3_85) (by decide) (by decide) zk) ?_
                  show own_Go p e below G (s₁.setTop (mkF m 89 #[.val (.ref d0), .val (.ref d1)] [(.int (1 : Int32))]))
                  subst hG
                  obtain ⟨fs, hr, hrun, hended, hW, hsame⟩ := X0.leave (v := some (.int (1 : Int32))) (fun h => by rw [Bd.returns] at h; cases h)
                  refine ⟨_, retN X0 hx (t := .boolean) Bd.returns (by simp) (hb hby d3_89) hr, _, hrun, hended, _, _, rfl, ?_, ⟨_, rfl⟩, hW, hsame.mono (by decide) (by decide)⟩
                  show Q3 Z d0 d1 x0 x1 x2 x3 x4 x5 x6 x7 y0 y1 y2 y3 y4 y5 y6 y7 h0 n0 _ s₁.heap _
                  rw [e0]
                  exact ⟨by unfold own_same; rw [if_pos hc7, if_pos hc17, if_pos hc27, if_pos hc37, if_pos hc47, if_pos hc57, if_pos hc69, if_pos hc81], N0, rfl⟩
                · refine own_st (fun zw zk => XS.ifYes X0.here hx rfl (pc0 := 81) (pc' := 88) rfl (hb hby d3_81) rfl ((if0 _ _).trans (feq (own_fle hc81)).2) (by decide) (by decide) zk) ?_
                  show own_Go p e below G (s₁.setTop (mkF m 88 #[.val (.ref d0), .val (.ref d1)] []))
                  refine own_st (fun zw zk => XS.iconst X0.here hx rfl (hb hby d3_88) zk) ?_
                  subst hG
                  obtain ⟨fs, hr, hrun, hended, hW, hsame⟩ := X0.leave (v := some (.int (0 : Int32))) (fun h => by rw [Bd.returns] at h; cases h)
                  refine ⟨_, retN X0 hx (t := .boolean) Bd.returns (by simp) (hb hby d3_89) hr, _, hrun, hended, _, _, rfl, ?_, ⟨_, rfl⟩, hW, hsame.mono (by decide) (by decide)⟩
                  show Q3 Z d0 d1 x0 x1 x2 x3 x4 x5 x6 x7 y0 y1 y2 y3 y4 y5 y6 y7 h0 n0 _ s₁.heap _
                  rw [e0]
                  exact ⟨by unfold own_same; rw [if_pos hc7, if_pos hc17, if_pos hc27, if_pos hc37, if_pos hc47, if_pos hc57, if_pos hc69, if_neg hc81], N0, rfl⟩
              · refine own_st (fun zw zk => XS.ifYes X0.here hx rfl (pc0 := 69) (pc' := 88) rfl (hb hby d3_69) rfl ((if0 _ _).trans (feq (own_fle hc69)).2) (by decide) (by decide) zk) ?_
                show own_Go p e below G (s₁.setTop (mkF m 88 #[.val (.ref d0), .val (.ref d1)] []))
                refine own_st (fun zw zk => XS.iconst X0.here hx rfl (hb hby d3_88) zk) ?_
                subst hG
                obtain ⟨fs, hr, hrun, hended, hW, hsame⟩ := X0.leave (v := some (.int (0 : Int32))) (fun h => by rw [Bd.returns] at h; cases h)
                refine ⟨_, retN X0 hx (t := .boolean) Bd.returns (by simp) (hb hby d3_89) hr, _, hrun, hended, _, _, rfl, ?_, ⟨_, rfl⟩, hW, hsame.mono (by decide) (by decide)⟩
                show Q3 Z d0 d1 x0 x1 x2 x3 x4 x5 x6 x7 y0 y1 y2 y3 y4 y5 y6 y7 h0 n0 _ s₁.heap _
                rw [e0]
                exact ⟨by unfold own_same; rw [if_pos hc7, if_pos hc17, if_pos hc27, if_pos hc37, if_pos hc47, if_pos hc57, if_neg hc69], N0, rfl⟩
            · refine own_st (fun zw zk => XS.ifYes X0.here hx rfl (pc0 := 57) (pc' := 88) rfl (hb hby d3_57) rfl ((if0 _ _).trans (feq (own_fle hc57)).2) (by decide) (by decide) zk) ?_
              show own_Go p e below G (s₁.setTop (mkF m 88 #[.val (.ref d0), .val (.ref d1)] []))
              refine own_st (fun zw zk => XS.iconst X0.here hx rfl (hb hby d3_88) zk) ?_
              subst hG
              obtain ⟨fs, hr, hrun, hended, hW, hsame⟩ := X0.leave (v := some (.int (0 : Int32))) (fun h => by rw [Bd.returns] at h; cases h)
              refine ⟨_, retN X0 hx (t := .boolean) Bd.returns (by simp) (hb hby d3_89) hr, _, hrun, hended, _, _, rfl, ?_, ⟨_, rfl⟩, hW, hsame.mono (by decide) (by decide)⟩
              show Q3 Z d0 d1 x0 x1 x2 x3 x4 x5 x6 x7 y0 y1 y2 y3 y4 y5 y6 y7 h0 n0 _ s₁.heap _
              rw [e0]
              exact ⟨by unfold own_same; rw [if_pos hc7, if_pos hc17, if_pos hc27, if_pos hc37, if_pos hc47, if_neg hc57], N0, rfl⟩
          · refine own_st (fun zw zk => XS.ifYes X0.here hx rfl (pc0 := 47) (pc' := 88) rfl (hb hby d3_47) rfl ((if0 _ _).trans (feq (own_fle hc47)).2) (by decide) (by decide) zk) ?_
            show own_Go p e below G (s₁.setTop (mkF m 88 #[.val (.ref d0), .val (.ref d1)] []))
            refine own_st (fun zw zk => XS.iconst X0.here hx rfl (hb hby d3_88) zk) ?_
            subst hG
            obtain ⟨fs, hr, hrun, hended, hW, hsame⟩ := X0.leave (v := some (.int (0 : Int32))) (fun h => by rw [Bd.returns] at h; cases h)
            refine ⟨_, retN X0 hx (t := .boolean) Bd.returns (by simp) (hb hby d3_89) hr, _, hrun, hended, _, _, rfl, ?_, ⟨_, rfl⟩, hW, hsame.mono (by decide) (by decide)⟩
            show Q3 Z d0 d1 x0 x1 x2 x3 x4 x5 x6 x7 y0 y1 y2 y3 y4 y5 y6 y7 h0 n0 _ s₁.heap _
            rw [e0]
            exact ⟨by unfold own_same; rw [if_pos hc7, if_pos hc17, if_pos hc27, if_pos hc37, if_neg hc47], N0, rfl⟩
        · refine own_st (fun zw zk => XS.ifYes X0.here hx rfl (pc0 := 37) (pc' := 88) rfl (hb hby d3_37) rfl ((if0 _ _).trans (feq (own_fle hc37)).2) (by decide) (by decide) zk) ?_
          show own_Go p e below G (s₁.setTop (mkF m 88 #[.val (.ref d0), .val (.ref d1)] []))
          refine own_st (fun zw zk => XS.iconst X0.here hx rfl (hb hby d3_88) zk) ?_
          subst hG
          obtain ⟨fs, hr, hrun, hended, hW, hsame⟩ := X0.leave (v := some (.int (0 : Int32))) (fun h => by rw [Bd.returns] at h; cases h)
          refine ⟨_, retN X0 hx (t := .boolean) Bd.returns (by simp) (hb hby d3_89) hr, _, hrun, hended, _, _, rfl, ?_, ⟨_, rfl⟩, hW, hsame.mono (by decide) (by decide)⟩
          show Q3 Z d0 d1 x0 x1 x2 x3 x4 x5 x6 x7 y0 y1 y2 y3 y4 y5 y6 y7 h0 n0 _ s₁.heap _
          rw [e0]
          exact ⟨by unfold own_same; rw [if_pos hc7, if_pos hc17, if_pos hc27, if_neg hc37], N0, rfl⟩
      · refine own_st (fun zw zk => XS.ifYes X0.here hx rfl (pc0 := 27) (pc' := 88) rfl (hb hby d3_27) rfl ((if0 _ _).trans (feq (own_fle hc27)).2) (by decide) (by decide) zk) ?_
        show own_Go p e below G (s₁.setTop (mkF m 88 #[.val (.ref d0), .val (.ref d1)] []))
        refine own_st (fun zw zk => XS.iconst X0.here hx rfl (hb hby d3_88) zk) ?_
        subst hG
        obtain ⟨fs, hr, hrun, hended, hW, hsame⟩ := X0.leave (v := some (.int (0 : Int32))) (fun h => by rw [Bd.returns] at h; cases h)
        refine ⟨_, retN X0 hx (t := .boolean) Bd.returns (by simp) (hb hby d3_89) hr, _, hrun, hended, _, _, rfl, ?_, ⟨_, rfl⟩, hW, hsame.mono (by decide) (by decide)⟩
        show Q3 Z d0 d1 x0 x1 x2 x3 x4 x5 x6 x7 y0 y1 y2 y3 y4 y5 y6 y7 h0 n0 _ s₁.heap _
        rw [e0]
        exact ⟨by unfold own_same; rw [if_pos hc7, if_pos hc17, if_neg hc27], N0, rfl⟩
    · refine own_st (fun zw zk => XS.ifYes X0.here hx rfl (pc0 := 17) (pc' := 88) rfl (hb hby d3_17) rfl ((if0 _ _).trans (feq (own_fle hc17)).2) (by decide) (by decide) zk) ?_
      show own_Go p e below G (s₁.setTop (mkF m 88 #[.val (.ref d0), .val (.ref d1)] []))
      refine own_st (fun zw zk => XS.iconst X0.here hx rfl (hb hby d3_88) zk) ?_
      subst hG
      obtain ⟨fs, hr, hrun, hended, hW, hsame⟩ := X0.leave (v := some (.int (0 : Int32))) (fun h => by rw [Bd.returns] at h; cases h)
      refine ⟨_, retN X0 hx (t := .boolean) Bd.returns (by simp) (hb hby d3_89) hr, _, hrun, hended, _, _, rfl, ?_, ⟨_, rfl⟩, hW, hsame.mono (by decide) (by decide)⟩
      show Q3 Z d0 d1 x0 x1 x2 x3 x4 x5 x6 x7 y0 y1 y2 y3 y4 y5 y6 y7 h0 n0 _ s₁.heap _
      rw [e0]
      exact ⟨by unfold own_same; rw [if_pos hc7, if_neg hc17], N0, rfl⟩
  · refine own_st (fun zw zk => XS.ifYes X0.here hx rfl (pc0 := 7) (pc' := 88) rfl (hb hby d3_7) rfl ((if0 _ _).trans (feq (own_fle hc7)).2) (by decide) (by decide) zk) ?_
    show own_Go p e below G (s₁.setTop (mkF m 88 #[.val (.ref d0), .val (.ref d1)] []))
    refine own_st (fun zw zk => XS.iconst X0.here hx rfl (hb hby d3_88) zk) ?_
    subst hG
    obtain ⟨fs, hr, hrun, hended, hW, hsame⟩ := X0.leave (v := some (.int (0 : Int32))) (fun h => by rw [Bd.returns] at h; cases h)
    refine ⟨_, retN X0 hx (t := .boolean) Bd.returns (by simp) (hb hby d3_89) hr, _, hrun, hended, _, _, rfl, ?_, ⟨_, rfl⟩, hW, hsame.mono (by decide) (by decide)⟩
    show Q3 Z d0 d1 x0 x1 x2 x3 x4 x5 x6 x7 y0 y1 y2 y3 y4 y5 y6 y7 h0 n0 _ s₁.heap _
    rw [e0]
    exact ⟨by unfold own_same; rw [if_neg hc7], N0, rfl⟩
theorem own_same1 (x0 x1 x2 x3 x4 x5 x6 x7 : Int64) : own_same x0 x1 x2 x3 x4 x5 x6 x7 x0 x1 x2 x3 x4 x5 x6 x7 = 1 := by simp [own_same]
theorem own_sel1 (r a : Int64) : (r ^^^ ((r ^^^ a) &&& (-1 : Int64))) = a := by
  apply Int64.toBitVec_inj.mp
  show r.toBitVec ^^^ ((r.toBitVec ^^^ a.toBitVec) &&& (-1 : Int64).toBitVec) = a.toBitVec
  have : (-1 : Int64).toBitVec = BitVec.allOnes 64 := by decide
  rw [this, BitVec.and_allOnes, ← BitVec.xor_assoc, BitVec.xor_self, BitVec.zero_xor]
theorem own_sel0 (r a : Int64) : (r ^^^ ((r ^^^ a) &&& (0 : Int64))) = r := by
  apply Int64.toBitVec_inj.mp
  show r.toBitVec ^^^ ((r.toBitVec ^^^ a.toBitVec) &&& 0#64) = r.toBitVec
  rw [BitVec.and_zero, BitVec.xor_zero]
theorem own_selA (r m : Int64) : (r ^^^ ((r ^^^ r) &&& m)) = r := by
  apply Int64.toBitVec_inj.mp
  show r.toBitVec ^^^ ((r.toBitVec ^^^ r.toBitVec) &&& m.toBitVec) = r.toBitVec
  rw [BitVec.xor_self, BitVec.zero_and, BitVec.xor_zero]
theorem pd_0 : parseMethodDescriptor "([JJJ)V" = some ⟨[(.array .long), .long, .long], none⟩ := by decide +kernel
theorem pd_1 : parseMethodDescriptor "([J[JJ)V" = some ⟨[(.array .long), (.array .long), .long], none⟩ := by decide +kernel
theorem pd_2 : parseMethodDescriptor "([J[J)Z" = some ⟨[(.array .long), (.array .long)], some .boolean⟩ := by decide +kernel
theorem ef_rm0 (m : MethodId) (q0 : Int64) (q1 : Int64) (q2 : Int64) (q3 : Int64) (p4 : Int32) : entryFrame m #[(.long q0), (.long q1), (.long q2), (.long q3), (.int p4)] maxLocals = mkF m 0 #[.val (.long q0), .second, .val (.long q1), .second, .val (.long q2), .second, .val (.long q3), .second, .val (.int p4), .unset, .unset, .unset, .unset, .unset, .unset, .unset, .unset, .unset] [] := by first | (simp [entryFrame, mkF, argsToLocals, Value.category, maxLocals]; done) | rfl
def Q0 (Z : State) (q0 : Int64) (q1 : Int64) (q2 : Int64) (q3 : Int64) (p4 : Int32) (h0 : Heap) (n0 : Nat) (rv : Option Value) (hq : Heap) (Lq : List Loc) : Prop := rv = some (.int 1) ∧ Fr n0 Lq
set_option maxRecDepth 65536 in
set_option maxHeartbeats 40000000 in
theorem rm0 (l : Launch) (Z : State) (a0 : Array Value) (hw : ∀ d ∈ tables_1, d.before a0 Z = true) (ws : List Jvm.Cond) (q0 : Int64) (q1 : Int64) (q2 : Int64) (q3 : Int64) (p4 : Int32) (h0 : Heap) (n0 : Nat) (Z0 : n0 ≤ h0.size) :
    MetFree l x (head1 (Jvm.Cond.code x code maxLocals ret :: ws) room_1) (fun za U => za = #[(.long q0), (.long q1), (.long q2), (.long q3), (.int p4)] ∧ Z.Warmed39 U.vm ∧ U.heap = h0) (fun _ _ _ _ _ => True) (fun _ U o U' => ∃ rv Lq, o = .returned rv ∧ Q0 Z q0 q1 q2 q3 p4 h0 n0 rv U'.heap Lq ∧ FrameEnd U o U' Lq room_1.cells room_1.slots) := by
  refine MetFree.of_bodySF (plainFor_of_name pn_0) hisR ?_
  intro p e s m args below meth c s₁ Bd hml0 hP hK
  obtain ⟨rfl, hZ, hh⟩ := hP
  have hx := Bd.exec
  have hby := Bd.bytes
  have hml : c.maxLocals = 18 := hml0
  have hown : s.vm.findClass "com/example/attestrum/attestrum/schemes/ec/P256FieldSelectPinLaw" = some m.cls := findClass_of_methodNamed Bd.named
  have hnm := (name_of_methodNamed Bd.named Bd.method).1
  have X0 : Stand p l e room_1 s m #[(.long q0), (.long q1), (.long q2), (.long q3), (.int p4)] below meth c s₁ [] 0 0 := Stand.of_body Bd
  have e0 : s₁.heap = h0 := by rw [← hh, Bd.state]; rfl
  have N0 := Fr.nil n0
  refine own_out (own_nm fun G hG => own_st (fun zt zk => castTop (ef_rm0 m q0 q1 q2 q3 p4) zk) ?_)
  show own_Go p e below G (s₁.setTop (mkF m 0 #[.val (.long q0), .second, .val (.long q1), .second, .val (.long q2), .second, .val (.long q3), .second, .val (.int p4), .unset, .unset, .unset, .unset, .unset, .unset, .unset, .unset, .unset] []))
  refine own_st (fun zw zk => XS.iload X0.here hx rfl (hb hby at_0) rfl zk) ?_
  refine own_st (fun zw zk => XS.iconst X0.here hx rfl (hb hby at_2) zk) ?_
  refine own_st (fun zw zk => XS.iand X0.here hx rfl (hb hby at_3) rfl zk) ?_
  by_cases hc4 : (p4 &&& (1 : Int32)) = (0 : Int32)
  · refine own_st (fun zw zk => XS.ifYes X0.here hx rfl (pc0 := 4) (pc' := 11) rfl (hb hby at_4) rfl ((if0 _ _).trans (teq hc4).1) (by decide) (by decide) zk) ?_
    refine own_st (fun zw zk => XS.iconst X0.here hx rfl (hb hby at_11) zk) ?_
    refine own_st (fun zw zk => XS.istore X0.here hx rfl (hb hby at_12) rfl rfl zk) ?_
    show own_Go p e below G (s₁.setTop (mkF m 14 #[.val (.long q0), .second, .val (.long q1), .second, .val (.long q2), .second, .val (.long q3), .second, .val (.int p4), .val (.int (0 : Int32)), .unset, .unset, .unset, .unset, .unset, .unset, .unset, .unset] []))
    refine own_st (fun zw zk => XS.iload X0.here hx rfl (hb hby at_14) rfl zk) ?_
    refine own_st (fun zw zk => XS.iconst X0.here hx rfl (hb hby at_16) zk) ?_
    refine own_st (fun zw zk => XS.iand X0.here hx rfl (hb hby at_17) rfl zk) ?_
    by_cases hc18 : (p4 &&& (2 : Int32)) = (0 : Int32)
    · refine own_st (fun zw zk => XS.ifYes X0.here hx rfl (pc0 := 18) (pc' := 25) rfl (hb hby at_18) rfl ((if0 _ _).trans (teq hc18).1) (by decide) (by decide) zk) ?_
      refine own_st (fun zw zk => XS.iconst X0.here hx rfl (hb hby at_25) zk) ?_
      refine own_st (fun zw zk => XS.istore X0.here hx rfl (hb hby at_26) rfl rfl zk) ?_
      show own_Go p e below G (s₁.setTop (mkF m 28 #[.val (.long q0), .second, .val (.long q1), .second, .val (.long q2), .second, .val (.long q3), .second, .val (.int p4), .val (.int (0 : Int32)), .val (.int (0 : Int32)), .unset, .unset, .unset, .unset, .unset, .unset, .unset] []))
      refine own_st (fun zw zk => XS.bipush X0.here hx rfl (hb hby at_28) zk) ?_
      obtain ⟨T25, h25, k25, X25, e25, E25, A25, st25⟩ := newP X0 hx hZ (hw _ (List.mem_of_getElem? (i := 0) rfl)) e0 (g := (mkF m 30 #[.val (.long q0), .second, .val (.long q1), .second, .val (.long q2), .second, .val (.long q3), .second, .val (.int p4), .val (.int (0 : Int32)), .val (.int (0 : Int32)), .unset, .unset, .unset, .unset, .unset, .unset, .unset] [(.int (8 : Int32))])) rfl (hb hby at_30) rfl (by decide) (cap := 8) (by decide) (by decide) (by decide) (by decide)
      obtain ⟨b25, g25⟩ : ∃ z, z = h0.size := ⟨_, rfl⟩
      rw [← g25] at A25 st25
      have G25 : n0 ≤ b25 := Nat.le_trans Z0 (Nat.le_of_eq g25.symm)
      have Z25 : n0 ≤ h25.size := Nat.le_trans Z0 E25.1
      have V25 : own_L Z h25 b25 .long ([(.long (0 : Int64)), (.long (0 : Int64)), (.long (0 : Int64)), (.long (0 : Int64)), (.long (0 : Int64)), (.long (0 : Int64)), (.long (0 : Int64)), (.long (0 : Int64))]) := own_L.new A25
      refine own_st (fun zw zk => st25 zw zk) ?_
      refine own_st (fun zw zk => XS.astore X25.here hx rfl (hb hby at_32) rfl rfl rfl zk) ?_
      show own_Go p e below G (T25.setTop (mkF m 34 #[.val (.long q0), .second, .val (.long q1), .second, .val (.long q2), .second, .val (.long q3), .second, .val (.int p4), .val (.int (0 : Int32)), .val (.int (0 : Int32)), .val (.ref b25), .unset, .unset, .unset, .unset, .unset, .unset] []))
      refine own_st (fun zw zk => XS.bipush X25.here hx rfl (hb hby at_34) zk) ?_
      obtain ⟨T26, h26, k26, X26, e26, E26, A26, st26⟩ := newP X25 hx hZ (hw _ (List.mem_of_getElem? (i := 0) rfl)) e25 (g := (mkF m 36 #[.val (.long q0), .second, .val (.long q1), .second, .val (.long q2), .second, .val (.long q3), .second, .val (.int p4), .val (.int (0 : Int32)), .val (.int (0 : Int32)), .val (.ref b25), .unset, .unset, .unset, .unset, .unset, .unset] [(.int (8 : Int32))])) rfl (hb hby at_36) rfl (by decide) (cap := 8) (by decide) (by decide) (by decide) (by decide)
      obtain ⟨b26, g26⟩ : ∃ z, z = h25.size := ⟨_, rfl⟩
      rw [← g26] at A26 st26
      have G26 : n0 ≤ b26 := Nat.le_trans Z25 (Nat.le_of_eq g26.symm)
      have ne_b25_b26 : b25 ≠ b26 := Nat.ne_of_lt (Nat.lt_of_lt_of_le V25.lt (Nat.le_of_eq g26.symm))
      have Vb25_26 := V25.ext E26
      have Z26 : n0 ≤ h26.size := Nat.le_trans Z25 E26.1
      have V26 : own_L Z h26 b26 .long ([(.long (0 : Int64)), (.long (0 : Int64)), (.long (0 : Int64)), (.long (0 : Int64)), (.long (0 : Int64)), (.long (0 : Int64)), (.long (0 : Int64)), (.long (0 : Int64))]) := own_L.new A26
      refine own_st (fun zw zk => st26 zw zk) ?_
      refine own_st (fun zw zk => XS.astore X26.here hx rfl (hb hby at_38) rfl rfl rfl zk) ?_
      show own_Go p e below G (T26.setTop (mkF m 40 #[.val (.long q0), .second, .val (.long q1), .second, .val (.long q2), .second, .val (.long q3), .second, .val (.int p4), .val (.int (0 : Int32)), .val (.int (0 : Int32)), .val (.ref b25), .val (.ref b26), .unset, .unset, .unset, .unset, .unset] []))
      refine own_st (fun zw zk => XS.bipush X26.here hx rfl (hb hby at_40) zk) ?_
      obtain ⟨T27, h27, k27, X27, e27, E27, A27, st27⟩ := newP X26 hx hZ (hw _ (List.mem_of_getElem? (i := 0) rfl)) e26 (g := (mkF m 42 #[.val (.long q0), .second, .val (.long q1), .second, .val (.long q2), .second, .val (.long q3), .second, .val (.int p4), .val (.int (0 : Int32)), .val (.int (0 : Int32)), .val (.ref b25), .val (.ref b26), .unset, .unset, .unset, .unset, .unset] [(.int (8 : Int32))])) rfl (hb hby at_42) rfl (by decide) (cap := 8) (by decide) (by decide) (by decide) (by decide)
      obtain ⟨b27, g27⟩ : ∃ z, z = h26.size := ⟨_, rfl⟩
      rw [← g27] at A27 st27
      have G27 : n0 ≤ b27 := Nat.le_trans Z26 (Nat.le_of_eq g27.symm)
      have ne_b25_b27 : b25 ≠ b27 := Nat.ne_of_lt (Nat.lt_of_lt_of_le Vb25_26.lt (Nat.le_of_eq g27.symm))
      have ne_b26_b27 : b26 ≠ b27 := Nat.ne_of_lt (Nat.lt_of_lt_of_le V26.lt (Nat.le_of_eq g27.symm))
      have Vb25_27 := Vb25_26.ext E27
      have Vb26_27 := V26.ext E27
      have Z27 : n0 ≤ h27.size := Nat.le_trans Z26 E27.1
      have V27 : own_L Z h27 b27 .long ([(.long (0 : Int64)), (.long (0 : Int64)), (.long (0 : Int64)), (.long (0 : Int64)), (.long (0 : Int64)), (.long (0 : Int64)), (.long (0 : Int64)), (.long (0 : Int64))]) := own_L.new A27
      refine own_st (fun zw zk => st27 zw zk) ?_
      refine own_st (fun zw zk => XS.astore X27.here hx rfl (hb hby at_44) rfl rfl rfl zk) ?_
      show own_Go p e below G (T27.setTop (mkF m 46 #[.val (.long q0), .second, .val (.long q1), .second, .val (.long q2), .second, .val (.long q3), .second, .val (.int p4), .val (.int (0 : Int32)), .val (.int (0 : Int32)), .val (.ref b25), .val (.ref b26), .val (.ref b27), .unset, .unset, .unset, .unset] []))
      refine own_st (fun zw zk => XS.bipush X27.here hx rfl (hb hby at_46) zk) ?_
      obtain ⟨T28, h28, k28, X28, e28, E28, A28, st28⟩ := newP X27 hx hZ (hw _ (List.mem_of_getElem? (i := 0) rfl)) e27 (g := (mkF m 48 #[.val (.long q0), .second, .val (.long q1), .second, .val (.long q2), .second, .val (.long q3), .second, .val (.int p4), .val (.int (0 : Int32)), .val (.int (0 : Int32)), .val (.ref b25), .val (.ref b26), .val (.ref b27), .unset, .unset, .unset, .unset] [(.int (8 : Int32))])) rfl (hb hby at_48) rfl (by decide) (cap := 8) (by decide) (by decide) (by decide) (by decide)
      obtain ⟨b28, g28⟩ : ∃ z, z = h27.size := ⟨_, rfl⟩
      rw [← g28] at A28 st28
      have G28 : n0 ≤ b28 := Nat.le_trans Z27 (Nat.le_of_eq g28.symm)
      have ne_b25_b28 : b25 ≠ b28 := Nat.ne_of_lt (Nat.lt_of_lt_of_le Vb25_27.lt (Nat.le_of_eq g28.symm))
      have ne_b26_b28 : b26 ≠ b28 := Nat.ne_of_lt (Nat.lt_of_lt_of_le Vb26_27.lt (Nat.le_of_eq g28.symm))
      have ne_b27_b28 : b27 ≠ b28 := Nat.ne_of_lt (Nat.lt_of_lt_of_le V27.lt (Nat.le_of_eq g28.symm))
      have Vb25_28 := Vb25_27.ext E28
      have Vb26_28 := Vb26_27.ext E28
      have Vb27_28 := V27.ext E28
      have Z28 : n0 ≤ h28.size := Nat.le_trans Z27 E28.1
      have V28 : own_L Z h28 b28 .long ([(.long (0 : Int64)), (.long (0 : Int64)), (.long (0 : Int64)), (.long (0 : Int64)), (.long (0 : Int64)), (.long (0 : Int64)), (.long (0 : Int64)), (.long (0 : Int64))]) := own_L.new A28
      refine own_st (fun zw zk => st28 zw zk) ?_
      refine own_st (fun zw zk => XS.astore X28.here hx rfl (hb hby at_50) rfl rfl rfl zk) ?_
      show own_Go p e below G (T28.setTop (mkF m 52 #[.val (.long q0), .second, .val (.long q1), .second, .val (.long q2), .second, .val (.long q3), .second, .val (.int p4), .val (.int (0 : Int32)), .val (.int (0 : Int32)), .val (.ref b25), .val (.ref b26), .val (.ref b27), .val (.ref b28), .unset, .unset, .unset] []))
      refine own_st (fun zw zk => XS.aload X28.here hx rfl (hb hby at_52) rfl rfl zk) ?_
      refine own_st (fun zw zk => XS.lloadN X28.here hx rfl (hb hby at_54) rfl zk) ?_
      refine own_st (fun zw zk => XS.lloadN X28.here hx rfl (hb hby at_55) rfl zk) ?_
      obtain ⟨_, _, ⟨T29, L29, k29, n29⟩, -, X29, ⟨Lc29, hQ29, l29, y29, z29⟩, st29⟩ := Jvm.LawKit.callS X28 hx (y := (⟨"com/example/attestrum/attestrum/schemes/ec/P256FieldSelectPinLaw", "fill", "([JJJ)V"⟩ : MethodName)) hown (mvT hZ (hw _ (List.mem_of_getElem? (i := 1) rfl))) (mvT hZ (hw _ (List.mem_of_getElem? (i := 2) rfl))) (mvT hZ (hw _ (List.mem_of_getElem? (i := 3) rfl))) (mvT hZ (hw _ (List.mem_of_getElem? (i := 4) rfl))) (by decide) (backOf (W := 0) (rm1 l Z a0 hw [] b25 q0 q1 h28 n0 Z28 (Vb25_28) (G25)) hZ (hw _ (List.mem_of_getElem? (i := 4) rfl)) (hw _ (List.mem_of_getElem? (i := 3) rfl)) (by decide) (by decide)) (g := (mkF m 56 #[.val (.long q0), .second, .val (.long q1), .second, .val (.long q2), .second, .val (.long q3), .second, .val (.int p4), .val (.int (0 : Int32)), .val (.int (0 : Int32)), .val (.ref b25), .val (.ref b26), .val (.ref b27), .val (.ref b28), .unset, .unset, .unset] [(.long q1), (.long q0), (.ref b25)])) rfl (by rw [hml]; rfl) (argsL := [(.ref b25), (.long q0), (.long q1)]) (rest := []) (lenOf pd_0 rfl) rfl (by show 2 * 0 + _ ≤ _; exact Nat.le_of_eq rfl) (hb hby at_56) (fun _ _ => ⟨rfl, e28, (by decide : 4 + 0 ≤ _), (by decide : 32 + 0 ≤ _)⟩)
      dsimp only [Pt.U, Pt.locs, Pt.cells, Pt.slots] at X29 l29 y29 z29 st29 hQ29
      subst l29 y29 z29
      obtain ⟨rfl, N29q, K29, O29_0⟩ := hQ29
      have Vb26_29 := Vb26_28.keep K29 (ninS (Ne.symm ne_b25_b26) nin0)
      have Vb27_29 := Vb27_28.keep K29 (ninS (Ne.symm ne_b25_b27) nin0)
      have Vb28_29 := V28.keep K29 (ninS (Ne.symm ne_b25_b28) nin0)
      have Z29 : n0 ≤ T29.heap.size := Nat.le_trans Z28 K29.1
      have N29 := Fr.app N0 N29q
      refine own_st (fun zw zk => st29 zw zk) ?_
      refine own_st (fun zw zk => XS.aload X29.here hx rfl (hb hby at_59) rfl rfl zk) ?_
      refine own_st (fun zw zk => XS.lloadN X29.here hx rfl (hb hby at_61) rfl zk) ?_
      refine own_st (fun zw zk => XS.lloadN X29.here hx rfl (hb hby at_62) rfl zk) ?_
      obtain ⟨_, _, ⟨T30, L30, k30, n30⟩, -, X30, ⟨Lc30, hQ30, l30, y30, z30⟩, st30⟩ := Jvm.LawKit.callS X29 hx (y := (⟨"com/example/attestrum/attestrum/schemes/ec/P256FieldSelectPinLaw", "fill", "([JJJ)V"⟩ : MethodName)) hown (mvT hZ (hw _ (List.mem_of_getElem? (i := 1) rfl))) (mvT hZ (hw _ (List.mem_of_getElem? (i := 2) rfl))) (mvT hZ (hw _ (List.mem_of_getElem? (i := 3) rfl))) (mvT hZ (hw _ (List.mem_of_getElem? (i := 4) rfl))) (by decide) (backOf (W := 0) (rm1 l Z a0 hw [] b26 q0 q1 T29.heap n0 Z29 (Vb26_29) (G26)) hZ (hw _ (List.mem_of_getElem? (i := 4) rfl)) (hw _ (List.mem_of_getElem? (i := 3) rfl)) (by decide) (by decide)) (g := (mkF m 63 #[.val (.long q0), .second, .val (.long q1), .second, .val (.long q2), .second, .val (.long q3), .second, .val (.int p4), .val (.int (0 : Int32)), .val (.int (0 : Int32)), .val (.ref b25), .val (.ref b26), .val (.ref b27), .val (.ref b28), .unset, .unset, .unset] [(.long q1), (.long q0), (.ref b26)])) rfl (by rw [hml]; rfl) (argsL := [(.ref b26), (.long q0), (.long q1)]) (rest := []) (lenOf pd_0 rfl) rfl (by show 2 * 0 + _ ≤ _; exact Nat.le_of_eq rfl) (hb hby at_63) (fun _ _ => ⟨rfl, rfl, (by decide : 4 + 0 ≤ _), (by decide : 32 + 0 ≤ _)⟩)
      dsimp only [Pt.U, Pt.locs, Pt.cells, Pt.slots] at X30 l30 y30 z30 st30 hQ30
      subst l30 y30 z30
      obtain ⟨rfl, N30q, K30, O30_0⟩ := hQ30
      have Vb27_30 := Vb27_29.keep K30 (ninS (Ne.symm ne_b26_b27) nin0)
      have Vb28_30 := Vb28_29.keep K30 (ninS (Ne.symm ne_b26_b28) nin0)
      have Ob25L_30 := O29_0.keep K30 (ninS ne_b25_b26 nin0)
      have Z30 : n0 ≤ T30.heap.size := Nat.le_trans Z29 K30.1
      have N30 := Fr.app N29 N30q
      refine own_st (fun zw zk => st30 zw zk) ?_
      show own_Go p e below G (T30.setTop (mkF m 66 #[.val (.long q0), .second, .val (.long q1), .second, .val (.long q2), .second, .val (.long q3), .second, .val (.int p4), .val (.int (0 : Int32)), .val (.int (0 : Int32)), .val (.ref b25), .val (.ref b26), .val (.ref b27), .val (.ref b28), .unset, .unset, .unset] []))
      refine own_st (fun zw zk => XS.aload X30.here hx rfl (hb hby at_66) rfl rfl zk) ?_
      refine own_st (fun zw zk => XS.lload X30.here hx rfl (hb hby at_68) rfl zk) ?_
      refine own_st (fun zw zk => XS.lload X30.here hx rfl (hb hby at_70) rfl zk) ?_
      obtain ⟨_, _, ⟨T31, L31, k31, n31⟩, -, X31, ⟨Lc31, hQ31, l31, y31, z31⟩, st31⟩ := Jvm.LawKit.callS X30 hx (y := (⟨"com/example/attestrum/attestrum/schemes/ec/P256FieldSelectPinLaw", "fill", "([JJJ)V"⟩ : MethodName)) hown (mvT hZ (hw _ (List.mem_of_getElem? (i := 1) rfl))) (mvT hZ (hw _ (List.mem_of_getElem? (i := 2) rfl))) (mvT hZ (hw _ (List.mem_of_getElem? (i := 3) rfl))) (mvT hZ (hw _ (List.mem_of_getElem? (i := 4) rfl))) (by decide) (backOf (W := 0) (rm1 l Z a0 hw [] b27 q2 q3 T30.heap n0 Z30 (Vb27_30) (G27)) hZ (hw _ (List.mem_of_getElem? (i := 4) rfl)) (hw _ (List.mem_of_getElem? (i := 3) rfl)) (by decide) (by decide)) (g := (mkF m 72 #[.val (.long q0), .second, .val (.long q1), .second, .val (.long q2), .second, .val (.long q3), .second, .val (.int p4), .val (.int (0 : Int32)), .val (.int (0 : Int32)), .val (.ref b25), .val (.ref b26), .val (.ref b27), .val (.ref b28), .unset, .unset, .unset] [(.long q3), (.long q2), (.ref b27)])) rfl (by rw [hml]; rfl) (argsL := [(.ref b27), (.long q2), (.long q3)]) (rest := []) (lenOf pd_0 rfl) rfl (by show 2 * 0 + _ ≤ _; exact Nat.le_of_eq rfl) (hb hby at_72) (fun _ _ => ⟨rfl, rfl, (by decide : 4 + 0 ≤ _), (by decide : 32 + 0 ≤ _)⟩)
      dsimp only [Pt.U, Pt.locs, Pt.cells, Pt.slots] at X31 l31 y31 z31 st31 hQ31
      subst l31 y31 z31
      obtain ⟨rfl, N31q, K31, O31_0⟩ := hQ31
      have Vb28_31 := Vb28_30.keep K31 (ninS (Ne.symm ne_b27_b28) nin0)
      have Ob25L_31 := Ob25L_30.keep K31 (ninS ne_b25_b27 nin0)
      have Ob26L_31 := O30_0.keep K31 (ninS ne_b26_b27 nin0)
      have Z31 : n0 ≤ T31.heap.size := Nat.le_trans Z30 K31.1
      have N31 := Fr.app N30 N31q
      refine own_st (fun zw zk => st31 zw zk) ?_
      refine own_st (fun zw zk => XS.aload X31.here hx rfl (hb hby at_75) rfl rfl zk) ?_
      refine own_st (fun zw zk => XS.lload X31.here hx rfl (hb hby at_77) rfl zk) ?_
      refine own_st (fun zw zk => XS.lload X31.here hx rfl (hb hby at_79) rfl zk) ?_
      obtain ⟨_, _, ⟨T32, L32, k32, n32⟩, -, X32, ⟨Lc32, hQ32, l32, y32, z32⟩, st32⟩ := Jvm.LawKit.callS X31 hx (y := (⟨"com/example/attestrum/attestrum/schemes/ec/P256FieldSelectPinLaw", "fill", "([JJJ)V"⟩ : MethodName)) hown (mvT hZ (hw _ (List.mem_of_getElem? (i := 1) rfl))) (mvT hZ (hw _ (List.mem_of_getElem? (i := 2) rfl))) (mvT hZ (hw _ (List.mem_of_getElem? (i := 3) rfl))) (mvT hZ (hw _ (List.mem_of_getElem? (i := 4) rfl))) (by decide) (backOf (W := 0) (rm1 l Z a0 hw [] b28 q2 q3 T31.heap n0 Z31 (Vb28_31) (G28)) hZ (hw _ (List.mem_of_getElem? (i := 4) rfl)) (hw _ (List.mem_of_getElem? (i := 3) rfl)) (by decide) (by decide)) (g := (mkF m 81 #[.val (.long q0), .second, .val (.long q1), .second, .val (.long q2), .second, .val (.long q3), .second, .val (.int p4), .val (.int (0 : Int32)), .val (.int (0 : Int32)), .val (.ref b25), .val (.ref b26), .val (.ref b27), .val (.ref b28), .unset, .unset, .unset] [(.long q3), (.long q2), (.ref b28)])) rfl (by rw [hml]; rfl) (argsL := [(.ref b28), (.long q2), (.long q3)]) (rest := []) (lenOf pd_0 rfl) rfl (by show 2 * 0 + _ ≤ _; exact Nat.le_of_eq rfl) (hb hby at_81) (fun _ _ => ⟨rfl, rfl, (by decide : 4 + 0 ≤ _), (by decide : 32 + 0 ≤ _)⟩)
      dsimp only [Pt.U, Pt.locs, Pt.cells, Pt.slots] at X32 l32 y32 z32 st32 hQ32
      subst l32 y32 z32
      obtain ⟨rfl, N32q, K32, O32_0⟩ := hQ32
      have Ob25L_32 := Ob25L_31.keep K32 (ninS ne_b25_b28 nin0)
      have Ob26L_32 := Ob26L_31.keep K32 (ninS ne_b26_b28 nin0)
      have Ob27L_32 := O31_0.keep K32 (ninS ne_b27_b28 nin0)
      have Z32 : n0 ≤ T32.heap.size := Nat.le_trans Z31 K32.1
      have N32 := Fr.app N31 N32q
      refine own_st (fun zw zk => st32 zw zk) ?_
      show own_Go p e below G (T32.setTop (mkF m 84 #[.val (.long q0), .second, .val (.long q1), .second, .val (.long q2), .second, .val (.long q3), .second, .val (.int p4), .val (.int (0 : Int32)), .val (.int (0 : Int32)), .val (.ref b25), .val (.ref b26), .val (.ref b27), .val (.ref b28), .unset, .unset, .unset] []))
      refine own_st (fun zw zk => XS.iload X32.here hx rfl (hb hby at_84) rfl zk) ?_
      refine own_st (fun zw zk => XS.ifYes X32.here hx rfl (pc0 := 86) (pc' := 95) rfl (hb hby at_86) rfl ((if0 _ _).trans (teq (by decide : (0 : Int32) = (0 : Int32))).1) (by decide) (by decide) zk) ?_
      refine own_st (fun zw zk => XS.lconst X32.here hx rfl (hb hby at_95) zk) ?_
      refine own_st (fun zw zk => XS.lstore X32.here hx rfl (hb hby at_96) rfl rfl zk) ?_
      show own_Go p e below G (T32.setTop (mkF m 98 #[.val (.long q0), .second, .val (.long q1), .second, .val (.long q2), .second, .val (.long q3), .second, .val (.int p4), .val (.int (0 : Int32)), .val (.int (0 : Int32)), .val (.ref b25), .val (.ref b26), .val (.ref b27), .val (.ref b28), .val (.long (0 : Int64)), .second, .unset] []))
      refine own_st (fun zw zk => XS.iload X32.here hx rfl (hb hby at_98) rfl zk) ?_
      refine own_st (fun zw zk => XS.ifYes X32.here hx rfl (pc0 := 100) (pc' := 120) rfl (hb hby at_100) rfl ((if0 _ _).trans (teq (by decide : (0 : Int32) = (0 : Int32))).1) (by decide) (by decide) zk) ?_
      refine own_st (fun zw zk => XS.aload X32.here hx rfl (hb hby at_120) rfl rfl zk) ?_
      refine own_st (fun zw zk => XS.aload X32.here hx rfl (hb hby at_122) rfl rfl zk) ?_
      refine own_st (fun zw zk => XS.lload X32.here hx rfl (hb hby at_124) rfl zk) ?_
      obtain ⟨_, _, ⟨T33, L33, k33, n33⟩, -, X33, ⟨Lc33, hQ33, l33, y33, z33⟩, st33⟩ := Jvm.LawKit.callS X32 hx (y := (⟨"com/example/attestrum/attestrum/schemes/ec/P256Field", "select", "([J[JJ)V"⟩ : MethodName)) hown (mvT hZ (hw _ (List.mem_of_getElem? (i := 7) rfl))) (mvT hZ (hw _ (List.mem_of_getElem? (i := 8) rfl))) (mvT hZ (hw _ (List.mem_of_getElem? (i := 9) rfl))) (mvT hZ (hw _ (List.mem_of_getElem? (i := 10) rfl))) (by decide) (backOf (W := 0) (rm2 l Z a0 hw [] b25 b27 (0 : Int64) (q0 &&& (4294967295 : Int64)) ((q0.toUInt64 >>> ((32 : Int32) &&& 0x3f).toInt64.toUInt64).toInt64) (q1 &&& (4294967295 : Int64)) ((q1.toUInt64 >>> ((32 : Int32) &&& 0x3f).toInt64.toUInt64).toInt64) ((q0 ^^^ q1) &&& (4294967295 : Int64)) (((q0 ^^^ q1).toUInt64 >>> ((32 : Int32) &&& 0x3f).toInt64.toUInt64).toInt64) ((q0 + q1) &&& (4294967295 : Int64)) (((q0 + q1).toUInt64 >>> ((32 : Int32) &&& 0x3f).toInt64.toUInt64).toInt64) (q2 &&& (4294967295 : Int64)) ((q2.toUInt64 >>> ((32 : Int32) &&& 0x3f).toInt64.toUInt64).toInt64) (q3 &&& (4294967295 : Int64)) ((q3.toUInt64 >>> ((32 : Int32) &&& 0x3f).toInt64.toUInt64).toInt64) ((q2 ^^^ q3) &&& (4294967295 : Int64)) (((q2 ^^^ q3).toUInt64 >>> ((32 : Int32) &&& 0x3f).toInt64.toUInt64).toInt64) ((q2 + q3) &&& (4294967295 : Int64)) (((q2 + q3).toUInt64 >>> ((32 : Int32) &&& 0x3f).toInt64.toUInt64).toInt64) T32.heap n0 Z32 (Ob25L_32) (Ob27L_32) (G25) (ne_b25_b27)) hZ (hw _ (List.mem_of_getElem? (i := 10) rfl)) (hw _ (List.mem_of_getElem? (i := 9) rfl)) (by decide) (by decide)) (g := (mkF m 126 #[.val (.long q0), .second, .val (.long q1), .second, .val (.long q2), .second, .val (.long q3), .second, .val (.int p4), .val (.int (0 : Int32)), .val (.int (0 : Int32)), .val (.ref b25), .val (.ref b26), .val (.ref b27), .val (.ref b28), .val (.long (0 : Int64)), .second, .unset] [(.long (0 : Int64)), (.ref b27), (.ref b25)])) rfl (by rw [hml]; rfl) (argsL := [(.ref b25), (.ref b27), (.long (0 : Int64))]) (rest := []) (lenOf pd_1 rfl) rfl (by show 2 * 0 + _ ≤ _; exact Nat.le_of_eq rfl) (hb hby at_126) (fun _ _ => ⟨rfl, rfl, (by decide : 4 + 0 ≤ _), (by decide : 32 + 0 ≤ _)⟩)
      dsimp only [Pt.U, Pt.locs, Pt.cells, Pt.slots] at X33 l33 y33 z33 st33 hQ33
      subst l33 y33 z33
      obtain ⟨rfl, N33q, K33, O33_0⟩ := hQ33
      have Ob26L_33 := Ob26L_32.keep K33 (ninS (Ne.symm ne_b25_b26) nin0)
      have Ob27L_33 := Ob27L_32.keep K33 (ninS (Ne.symm ne_b25_b27) nin0)
      have Ob28L_33 := O32_0.keep K33 (ninS (Ne.symm ne_b25_b28) nin0)
      have Z33 : n0 ≤ T33.heap.size := Nat.le_trans Z32 K33.1
      have N33 := Fr.app N32 N33q
      refine own_st (fun zw zk => st33 zw zk) ?_
      refine own_st (fun zw zk => XS.iload X33.here hx rfl (hb hby at_129) rfl zk) ?_
      refine own_st (fun zw zk => XS.ifYes X33.here hx rfl (pc0 := 131) (pc' := 139) rfl (hb hby at_131) rfl ((if0 _ _).trans (teq (by decide : (0 : Int32) = (0 : Int32))).1) (by decide) (by decide) zk) ?_
      show own_Go p e below G (T33.setTop (mkF m 139 #[.val (.long q0), .second, .val (.long q1), .second, .val (.long q2), .second, .val (.long q3), .second, .val (.int p4), .val (.int (0 : Int32)), .val (.int (0 : Int32)), .val (.ref b25), .val (.ref b26), .val (.ref b27), .val (.ref b28), .val (.long (0 : Int64)), .second, .unset] []))
      refine own_st (fun zw zk => XS.aload X33.here hx rfl (hb hby at_139) rfl rfl zk) ?_
      refine own_st (fun zw zk => XS.astore X33.here hx rfl (hb hby at_141) rfl rfl rfl zk) ?_
      show own_Go p e below G (T33.setTop (mkF m 143 #[.val (.long q0), .second, .val (.long q1), .second, .val (.long q2), .second, .val (.long q3), .second, .val (.int p4), .val (.int (0 : Int32)), .val (.int (0 : Int32)), .val (.ref b25), .val (.ref b26), .val (.ref b27), .val (.ref b28), .val (.long (0 : Int64)), .second, .val (.ref b26)] []))
      refine own_st (fun zw zk => XS.aload X33.here hx rfl (hb hby at_143) rfl rfl zk) ?_
      refine own_st (fun zw zk => XS.aload X33.here hx rfl (hb hby at_145) rfl rfl zk) ?_
      obtain ⟨_, _, ⟨T34, L34, k34, n34⟩, -, X34, ⟨Lc34, hQ34, l34, y34, z34⟩, st34⟩ := Jvm.LawKit.callS X33 hx (y := (⟨"com/example/attestrum/attestrum/schemes/ec/P256FieldSelectPinLaw", "same", "([J[J)Z"⟩ : MethodName)) hown (mvT hZ (hw _ (List.mem_of_getElem? (i := 11) rfl))) (mvT hZ (hw _ (List.mem_of_getElem? (i := 12) rfl))) (mvT hZ (hw _ (List.mem_of_getElem? (i := 3) rfl))) (mvT hZ (hw _ (List.mem_of_getElem? (i := 13) rfl))) (by decide) (backOf (W := 0) (rm3 l Z a0 hw [] b25 b26 ((q0 &&& (4294967295 : Int64)) ^^^ (((q0 &&& (4294967295 : Int64)) ^^^ (q2 &&& (4294967295 : Int64))) &&& (0 : Int64))) (((q0.toUInt64 >>> ((32 : Int32) &&& 0x3f).toInt64.toUInt64).toInt64) ^^^ ((((q0.toUInt64 >>> ((32 : Int32) &&& 0x3f).toInt64.toUInt64).toInt64) ^^^ ((q2.toUInt64 >>> ((32 : Int32) &&& 0x3f).toInt64.toUInt64).toInt64)) &&& (0 : Int64))) ((q1 &&& (4294967295 : Int64)) ^^^ (((q1 &&& (4294967295 : Int64)) ^^^ (q3 &&& (4294967295 : Int64))) &&& (0 : Int64))) (((q1.toUInt64 >>> ((32 : Int32) &&& 0x3f).toInt64.toUInt64).toInt64) ^^^ ((((q1.toUInt64 >>> ((32 : Int32) &&& 0x3f).toInt64.toUInt64).toInt64) ^^^ ((q3.toUInt64 >>> ((32 : Int32) &&& 0x3f).toInt64.toUInt64).toInt64)) &&& (0 : Int64))) (((q0 ^^^ q1) &&& (4294967295 : Int64)) ^^^ ((((q0 ^^^ q1) &&& (4294967295 : Int64)) ^^^ ((q2 ^^^ q3) &&& (4294967295 : Int64))) &&& (0 : Int64))) ((((q0 ^^^ q1).toUInt64 >>> ((32 : Int32) &&& 0x3f).toInt64.toUInt64).toInt64) ^^^ (((((q0 ^^^ q1).toUInt64 >>> ((32 : Int32) &&& 0x3f).toInt64.toUInt64).toInt64) ^^^ (((q2 ^^^ q3).toUInt64 >>> ((32 : Int32) &&& 0x3f).toInt64.toUInt64).toInt64)) &&& (0 : Int64))) (((q0 + q1) &&& (4294967295 : Int64)) ^^^ ((((q0 + q1) &&& (4294967295 : Int64)) ^^^ ((q2 + q3) &&& (4294967295 : Int64))) &&& (0 : Int64))) ((((q0 + q1).toUInt64 >>> ((32 : Int32) &&& 0x3f).toInt64.toUInt64).toInt64) ^^^ (((((q0 + q1).toUInt64 >>> ((32 : Int32) &&& 0x3f).toInt64.toUInt64).toInt64) ^^^ (((q2 + q3).toUInt64 >>> ((32 : Int32) &&& 0x3f).toInt64.toUInt64).toInt64)) &&& (0 : Int64))) (q0 &&& (4294967295 : Int64)) ((q0.toUInt64 >>> ((32 : Int32) &&& 0x3f).toInt64.toUInt64).toInt64) (q1 &&& (4294967295 : Int64)) ((q1.toUInt64 >>> ((32 : Int32) &&& 0x3f).toInt64.toUInt64).toInt64) ((q0 ^^^ q1) &&& (4294967295 : Int64)) (((q0 ^^^ q1).toUInt64 >>> ((32 : Int32) &&& 0x3f).toInt64.toUInt64).toInt64) ((q0 + q1) &&& (4294967295 : Int64)) (((q0 + q1).toUInt64 >>> ((32 : Int32) &&& 0x3f).toInt64.toUInt64).toInt64) T33.heap n0 Z33 (O33_0) (Ob26L_33)) hZ (hw _ (List.mem_of_getElem? (i := 13) rfl)) (hw _ (List.mem_of_getElem? (i := 3) rfl)) (by decide) (by decide)) (g := (mkF m 147 #[.val (.long q0), .second, .val (.long q1), .second, .val (.long q2), .second, .val (.long q3), .second, .val (.int p4), .val (.int (0 : Int32)), .val (.int (0 : Int32)), .val (.ref b25), .val (.ref b26), .val (.ref b27), .val (.ref b28), .val (.long (0 : Int64)), .second, .val (.ref b26)] [(.ref b26), (.ref b25)])) rfl (by rw [hml]; rfl) (argsL := [(.ref b25), (.ref b26)]) (rest := []) (lenOf pd_2 rfl) rfl (by show 2 * 0 + _ ≤ _; exact Nat.le_of_eq rfl) (hb hby at_147) (fun _ _ => ⟨rfl, rfl, (by decide : 4 + 0 ≤ _), (by decide : 32 + 0 ≤ _)⟩)
      dsimp only [Pt.U, Pt.locs, Pt.cells, Pt.slots] at X34 l34 y34 z34 st34 hQ34
      subst l34 y34 z34
      obtain ⟨rfl, N34q, e34⟩ := hQ34
      have N34 := Fr.app N33 N34q
      refine own_st (fun zw zk => st34 zw zk) ?_
      have hc150 : ¬ ((own_same ((q0 &&& (4294967295 : Int64)) ^^^ (((q0 &&& (4294967295 : Int64)) ^^^ (q2 &&& (4294967295 : Int64))) &&& (0 : Int64))) (((q0.toUInt64 >>> ((32 : Int32) &&& 0x3f).toInt64.toUInt64).toInt64) ^^^ ((((q0.toUInt64 >>> ((32 : Int32) &&& 0x3f).toInt64.toUInt64).toInt64) ^^^ ((q2.toUInt64 >>> ((32 : Int32) &&& 0x3f).toInt64.toUInt64).toInt64)) &&& (0 : Int64))) ((q1 &&& (4294967295 : Int64)) ^^^ (((q1 &&& (4294967295 : Int64)) ^^^ (q3 &&& (4294967295 : Int64))) &&& (0 : Int64))) (((q1.toUInt64 >>> ((32 : Int32) &&& 0x3f).toInt64.toUInt64).toInt64) ^^^ ((((q1.toUInt64 >>> ((32 : Int32) &&& 0x3f).toInt64.toUInt64).toInt64) ^^^ ((q3.toUInt64 >>> ((32 : Int32) &&& 0x3f).toInt64.toUInt64).toInt64)) &&& (0 : Int64))) (((q0 ^^^ q1) &&& (4294967295 : Int64)) ^^^ ((((q0 ^^^ q1) &&& (4294967295 : Int64)) ^^^ ((q2 ^^^ q3) &&& (4294967295 : Int64))) &&& (0 : Int64))) ((((q0 ^^^ q1).toUInt64 >>> ((32 : Int32) &&& 0x3f).toInt64.toUInt64).toInt64) ^^^ (((((q0 ^^^ q1).toUInt64 >>> ((32 : Int32) &&& 0x3f).toInt64.toUInt64).toInt64) ^^^ (((q2 ^^^ q3).toUInt64 >>> ((32 : Int32) &&& 0x3f).toInt64.toUInt64).toInt64)) &&& (0 : Int64))) (((q0 + q1) &&& (4294967295 : Int64)) ^^^ ((((q0 + q1) &&& (4294967295 : Int64)) ^^^ ((q2 + q3) &&& (4294967295 : Int64))) &&& (0 : Int64))) ((((q0 + q1).toUInt64 >>> ((32 : Int32) &&& 0x3f).toInt64.toUInt64).toInt64) ^^^ (((((q0 + q1).toUInt64 >>> ((32 : Int32) &&& 0x3f).toInt64.toUInt64).toInt64) ^^^ (((q2 + q3).toUInt64 >>> ((32 : Int32) &&& 0x3f).toInt64.toUInt64).toInt64)) &&& (0 : Int64))) (q0 &&& (4294967295 : Int64)) ((q0.toUInt64 >>> ((32 : Int32) &&& 0x3f).toInt64.toUInt64).toInt64) (q1 &&& (4294967295 : Int64)) ((q1.toUInt64 >>> ((32 : Int32) &&& 0x3f).toInt64.toUInt64).toInt64) ((q0 ^^^ q1) &&& (4294967295 : Int64)) (((q0 ^^^ q1).toUInt64 >>> ((32 : Int32) &&& 0x3f).toInt64.toUInt64).toInt64) ((q0 + q1) &&& (4294967295 : Int64)) (((q0 + q1).toUInt64 >>> ((32 : Int32) &&& 0x3f).toInt64.toUInt64).toInt64)) = (0 : Int32)) := fun q => absurd (q.symm.trans (by simp only [own_selA, own_sel1, own_sel0]; exact own_same1 _ _ _ _ _ _ _ _)) (by decide : ¬ ((0 : Int32) = 1))
      refine own_st (fun zw zk => XS.ifNo X34.here hx rfl (hb hby at_150) rfl ((if0 _ _).trans (feq hc150).1) zk) ?_
      refine own_st (fun zw zk => XS.aload X34.here hx rfl (hb hby at_153) rfl rfl zk) ?_
      refine own_st (fun zw zk => XS.aload X34.here hx rfl (hb hby at_155) rfl rfl zk) ?_
      obtain ⟨_, _, ⟨T35, L35, k35, n35⟩, -, X35, ⟨Lc35, hQ35, l35, y35, z35⟩, st35⟩ := Jvm.LawKit.callS X34 hx (y := (⟨"com/example/attestrum/attestrum/schemes/ec/P256FieldSelectPinLaw", "same", "([J[J)Z"⟩ : MethodName)) hown (mvT hZ (hw _ (List.mem_of_getElem? (i := 11) rfl))) (mvT hZ (hw _ (List.mem_of_getElem? (i := 12) rfl))) (mvT hZ (hw _ (List.mem_of_getElem? (i := 3) rfl))) (mvT hZ (hw _ (List.mem_of_getElem? (i := 13) rfl))) (by decide) (backOf (W := 0) (rm3 l Z a0 hw [] b27 b28 (q2 &&& (4294967295 : Int64)) ((q2.toUInt64 >>> ((32 : Int32) &&& 0x3f).toInt64.toUInt64).toInt64) (q3 &&& (4294967295 : Int64)) ((q3.toUInt64 >>> ((32 : Int32) &&& 0x3f).toInt64.toUInt64).toInt64) ((q2 ^^^ q3) &&& (4294967295 : Int64)) (((q2 ^^^ q3).toUInt64 >>> ((32 : Int32) &&& 0x3f).toInt64.toUInt64).toInt64) ((q2 + q3) &&& (4294967295 : Int64)) (((q2 + q3).toUInt64 >>> ((32 : Int32) &&& 0x3f).toInt64.toUInt64).toInt64) (q2 &&& (4294967295 : Int64)) ((q2.toUInt64 >>> ((32 : Int32) &&& 0x3f).toInt64.toUInt64).toInt64) (q3 &&& (4294967295 : Int64)) ((q3.toUInt64 >>> ((32 : Int32) &&& 0x3f).toInt64.toUInt64).toInt64) ((q2 ^^^ q3) &&& (4294967295 : Int64)) (((q2 ^^^ q3).toUInt64 >>> ((32 : Int32) &&& 0x3f).toInt64.toUInt64).toInt64) ((q2 + q3) &&& (4294967295 : Int64)) (((q2 + q3).toUInt64 >>> ((32 : Int32) &&& 0x3f).toInt64.toUInt64).toInt64) T33.heap n0 Z33 (Ob27L_33) (Ob28L_33)) hZ (hw _ (List.mem_of_getElem? (i := 13) rfl)) (hw _ (List.mem_of_getElem? (i := 3) rfl)) (by decide) (by decide)) (g := (mkF m 157 #[.val (.long q0), .second, .val (.long q1), .second, .val (.long q2), .second, .val (.long q3), .second, .val (.int p4), .val (.int (0 : Int32)), .val (.int (0 : Int32)), .val (.ref b25), .val (.ref b26), .val (.ref b27), .val (.ref b28), .val (.long (0 : Int64)), .second, .val (.ref b26)] [(.ref b28), (.ref b27)])) rfl (by rw [hml]; rfl) (argsL := [(.ref b27), (.ref b28)]) (rest := []) (lenOf pd_2 rfl) rfl (by show 2 * 0 + _ ≤ _; exact Nat.le_of_eq rfl) (hb hby at_157) (fun _ _ => ⟨rfl, e34, (by decide : 4 + 0 ≤ _), (by decide : 32 + 0 ≤ _)⟩)
      dsimp only [Pt.U, Pt.locs, Pt.cells, Pt.slots] at X35 l35 y35 z35 st35 hQ35
      subst l35 y35 z35
      obtain ⟨rfl, N35q, e35⟩ := hQ35
      have N35 := Fr.app N34 N35q
      refine own_st (fun zw zk => st35 zw zk) ?_
      have hc160 : ¬ ((own_same (q2 &&& (4294967295 : Int64)) ((q2.toUInt64 >>> ((32 : Int32) &&& 0x3f).toInt64.toUInt64).toInt64) (q3 &&& (4294967295 : Int64)) ((q3.toUInt64 >>> ((32 : Int32) &&& 0x3f).toInt64.toUInt64).toInt64) ((q2 ^^^ q3) &&& (4294967295 : Int64)) (((q2 ^^^ q3).toUInt64 >>> ((32 : Int32) &&& 0x3f).toInt64.toUInt64).toInt64) ((q2 + q3) &&& (4294967295 : Int64)) (((q2 + q3).toUInt64 >>> ((32 : Int32) &&& 0x3f).toInt64.toUInt64).toInt64) (q2 &&& (4294967295 : Int64)) ((q2.toUInt64 >>> ((32 : Int32) &&& 0x3f).toInt64.toUInt64).toInt64) (q3 &&& (4294967295 : Int64)) ((q3.toUInt64 >>> ((32 : Int32) &&& 0x3f).toInt64.toUInt64).toInt64) ((q2 ^^^ q3) &&& (4294967295 : Int64)) (((q2 ^^^ q3).toUInt64 >>> ((32 : Int32) &&& 0x3f).toInt64.toUInt64).toInt64) ((q2 + q3) &&& (4294967295 : Int64)) (((q2 + q3).toUInt64 >>> ((32 : Int32) &&& 0x3f).toInt64.toUInt64).toInt64)) = (0 : Int32)) := fun q => absurd (q.symm.trans (own_same1 _ _ _ _ _ _ _ _)) (by decide : ¬ ((0 : Int32) = 1))
      refine own_st (fun zw zk => XS.ifNo X35.here hx rfl (hb hby at_160) rfl ((if0 _ _).trans (feq hc160).1) zk) ?_
      show own_Go p e below G (T35.setTop (mkF m 163 #[.val (.long q0), .second, .val (.long q1), .second, .val (.long q2), .second, .val (.long q3), .second, .val (.int p4), .val (.int (0 : Int32)), .val (.int (0 : Int32)), .val (.ref b25), .val (.ref b26), .val (.ref b27), .val (.ref b28), .val (.long (0 : Int64)), .second, .val (.ref b26)] []))
      refine own_st (fun zw zk => XS.iconst X35.here hx rfl (hb hby at_163) zk) ?_
      refine own_st (fun zw zk => XS.goto X35.here hx rfl (pc0 := 164) (pc' := 168) rfl (hb hby at_164) (by decide) (by decide) zk) ?_
      show own_Go p e below G (T35.setTop (mkF m 168 #[.val (.long q0), .second, .val (.long q1), .second, .val (.long q2), .second, .val (.long q3), .second, .val (.int p4), .val (.int (0 : Int32)), .val (.int (0 : Int32)), .val (.ref b25), .val (.ref b26), .val (.ref b27), .val (.ref b28), .val (.long (0 : Int64)), .second, .val (.ref b26)] [(.int (1 : Int32))]))
      subst hG
      obtain ⟨fs, hr, hrun, hended, hW, hsame⟩ := X35.leave (v := some (.int (1 : Int32))) (fun h => by rw [Bd.returns] at h; cases h)
      refine ⟨_, retN X35 hx (t := .boolean) Bd.returns (by simp) (hb hby at_168) hr, _, hrun, hended, _, _, rfl, ?_, ⟨_, rfl⟩, hW, hsame.mono (by decide) (by decide)⟩
      show Q0 Z q0 q1 q2 q3 p4 h0 n0 _ T35.heap _
      rw [e35]
      exact ⟨rfl, N35⟩
    · refine own_st (fun zw zk => XS.ifNo X0.here hx rfl (hb hby at_18) rfl ((if0 _ _).trans (feq hc18).1) zk) ?_
      refine own_st (fun zw zk => XS.iconst X0.here hx rfl (hb hby at_21) zk) ?_
      refine own_st (fun zw zk => XS.goto X0.here hx rfl (pc0 := 22) (pc' := 26) rfl (hb hby at_22) (by decide) (by decide) zk) ?_
      show own_Go p e below G (s₁.setTop (mkF m 26 #[.val (.long q0), .second, .val (.long q1), .second, .val (.long q2), .second, .val (.long q3), .second, .val (.int p4), .val (.int (0 : Int32)), .unset, .unset, .unset, .unset, .unset, .unset, .unset, .unset] [(.int (1 : Int32))]))
      refine own_st (fun zw zk => XS.istore X0.here hx rfl (hb hby at_26) rfl rfl zk) ?_
      show own_Go p e below G (s₁.setTop (mkF m 28 #[.val (.long q0), .second, .val (.long q1), .second, .val (.long q2), .second, .val (.long q3), .second, .val (.int p4), .val (.int (0 : Int32)), .val (.int (1 : Int32)), .unset, .unset, .unset, .unset, .unset, .unset, .unset] []))
      refine own_st (fun zw zk => XS.bipush X0.here hx rfl (hb hby at_28) zk) ?_
      obtain ⟨T36, h36, k36, X36, e36, E36, A36, st36⟩ := newP X0 hx hZ (hw _ (List.mem_of_getElem? (i := 0) rfl)) e0 (g := (mkF m 30 #[.val (.long q0), .second, .val (.long q1), .second, .val (.long q2), .second, .val (.long q3), .second, .val (.int p4), .val (.int (0 : Int32)), .val (.int (1 : Int32)), .unset, .unset, .unset, .unset, .unset, .unset, .unset] [(.int (8 : Int32))])) rfl (hb hby at_30) rfl (by decide) (cap := 8) (by decide) (by decide) (by decide) (by decide)
      obtain ⟨b36, g36⟩ : ∃ z, z = h0.size := ⟨_, rfl⟩
      rw [← g36] at A36 st36
      have G36 : n0 ≤ b36 := Nat.le_trans Z0 (Nat.le_of_eq g36.symm)
      have Z36 : n0 ≤ h36.size := Nat.le_trans Z0 E36.1
      have V36 : own_L Z h36 b36 .long ([(.long (0 : Int64)), (.long (0 : Int64)), (.long (0 : Int64)), (.long (0 : Int64)), (.long (0 : Int64)), (.long (0 : Int64)), (.long (0 : Int64)), (.long (0 : Int64))]) := own_L.new A36
      refine own_st (fun zw zk => st36 zw zk) ?_
      refine own_st (fun zw zk => XS.astore X36.here hx rfl (hb hby at_32) rfl rfl rfl zk) ?_
      show own_Go p e below G (T36.setTop (mkF m 34 #[.val (.long q0), .second, .val (.long q1), .second, .val (.long q2), .second, .val (.long q3), .second, .val (.int p4), .val (.int (0 : Int32)), .val (.int (1 : Int32)), .val (.ref b36), .unset, .unset, .unset, .unset, .unset, .unset] []))
      refine own_st (fun zw zk => XS.bipush X36.here hx rfl (hb hby at_34) zk) ?_
      obtain ⟨T37, h37, k37, X37, e37, E37, A37, st37⟩ := newP X36 hx hZ (hw _ (List.mem_of_getElem? (i := 0) rfl)) e36 (g := (mkF m 36 #[.val (.long q0), .second, .val (.long q1), .second, .val (.long q2), .second, .val (.long q3), .second, .val (.int p4), .val (.int (0 : Int32)), .val (.int (1 : Int32)), .val (.ref b36), .unset, .unset, .unset, .unset, .unset, .unset] [(.int (8 : Int32))])) rfl (hb hby at_36) rfl (by decide) (cap := 8) (by decide) (by decide) (by decide) (by decide)
      obtain ⟨b37, g37⟩ : ∃ z, z = h36.size := ⟨_, rfl⟩
      rw [← g37] at A37 st37
      have G37 : n0 ≤ b37 := Nat.le_trans Z36 (Nat.le_of_eq g37.symm)
      have ne_b36_b37 : b36 ≠ b37 := Nat.ne_of_lt (Nat.lt_of_lt_of_le V36.lt (Nat.le_of_eq g37.symm))
      have Vb36_37 := V36.ext E37
      have Z37 : n0 ≤ h37.size := Nat.le_trans Z36 E37.1
      have V37 : own_L Z h37 b37 .long ([(.long (0 : Int64)), (.long (0 : Int64)), (.long (0 : Int64)), (.long (0 : Int64)), (.long (0 : Int64)), (.long (0 : Int64)), (.long (0 : Int64)), (.long (0 : Int64))]) := own_L.new A37
      refine own_st (fun zw zk => st37 zw zk) ?_
      refine own_st (fun zw zk => XS.astore X37.here hx rfl (hb hby at_38) rfl rfl rfl zk) ?_
      show own_Go p e below G (T37.setTop (mkF m 40 #[.val (.long q0), .second, .val (.long q1), .second, .val (.long q2), .second, .val (.long q3), .second, .val (.int p4), .val (.int (0 : Int32)), .val (.int (1 : Int32)), .val (.ref b36), .val (.ref b37), .unset, .unset, .unset, .unset, .unset] []))
      refine own_st (fun zw zk => XS.bipush X37.here hx rfl (hb hby at_40) zk) ?_
      obtain ⟨T38, h38, k38, X38, e38, E38, A38, st38⟩ := newP X37 hx hZ (hw _ (List.mem_of_getElem? (i := 0) rfl)) e37 (g := (mkF m 42 #[.val (.long q0), .second, .val (.long q1), .second, .val (.long q2), .second, .val (.long q3), .second, .val (.int p4), .val (.int (0 : Int32)), .val (.int (1 : Int32)), .val (.ref b36), .val (.ref b37), .unset, .unset, .unset, .unset, .unset] [(.int (8 : Int32))])) rfl (hb hby at_42) rfl (by decide) (cap := 8) (by decide) (by decide) (by decide) (by decide)
      obtain ⟨b38, g38⟩ : ∃ z, z = h37.size := ⟨_, rfl⟩
      rw [← g38] at A38 st38
      have G38 : n0 ≤ b38 := Nat.le_trans Z37 (Nat.le_of_eq g38.symm)
      have ne_b36_b38 : b36 ≠ b38 := Nat.ne_of_lt (Nat.lt_of_lt_of_le Vb36_37.lt (Nat.le_of_eq g38.symm))
      have ne_b37_b38 : b37 ≠ b38 := Nat.ne_of_lt (Nat.lt_of_lt_of_le V37.lt (Nat.le_of_eq g38.symm))
      have Vb36_38 := Vb36_37.ext E38
      have Vb37_38 := V37.ext E38
      have Z38 : n0 ≤ h38.size := Nat.le_trans Z37 E38.1
      have V38 : own_L Z h38 b38 .long ([(.long (0 : Int64)), (.long (0 : Int64)), (.long (0 : Int64)), (.long (0 : Int64)), (.long (0 : Int64)), (.long (0 : Int64)), (.long (0 : Int64)), (.long (0 : Int64))]) := own_L.new A38
      refine own_st (fun zw zk => st38 zw zk) ?_
      refine own_st (fun zw zk => XS.astore X38.here hx rfl (hb hby at_44) rfl rfl rfl zk) ?_
      show own_Go p e below G (T38.setTop (mkF m 46 #[.val (.long q0), .second, .val (.long q1), .second, .val (.long q2), .second, .val (.long q3), .second, .val (.int p4), .val (.int (0 : Int32)), .val (.int (1 : Int32)), .val (.ref b36), .val (.ref b37), .val (.ref b38), .unset, .unset, .unset, .unset] []))
      refine own_st (fun zw zk => XS.bipush X38.here hx rfl (hb hby at_46) zk) ?_
      obtain ⟨T39, h39, k39, X39, e39, E39, A39, st39⟩ := newP X38 hx hZ (hw _ (List.mem_of_getElem? (i := 0) rfl)) e38 (g := (mkF m 48 #[.val (.long q0), .second, .val (.long q1), .second, .val (.long q2), .second, .val (.long q3), .second, .val (.int p4), .val (.int (0 : Int32)), .val (.int (1 : Int32)), .val (.ref b36), .val (.ref b37), .val (.ref b38), .unset, .unset, .unset, .unset] [(.int (8 : Int32))])) rfl (hb hby at_48) rfl (by decide) (cap := 8) (by decide) (by decide) (by decide) (by decide)
      obtain ⟨b39, g39⟩ : ∃ z, z = h38.size := ⟨_, rfl⟩
      rw [← g39] at A39 st39
      have G39 : n0 ≤ b39 := Nat.le_trans Z38 (Nat.le_of_eq g39.symm)
      have ne_b36_b39 : b36 ≠ b39 := Nat.ne_of_lt (Nat.lt_of_lt_of_le Vb36_38.lt (Nat.le_of_eq g39.symm))
      have ne_b37_b39 : b37 ≠ b39 := Nat.ne_of_lt (Nat.lt_of_lt_of_le Vb37_38.lt (Nat.le_of_eq g39.symm))
      have ne_b38_b39 : b38 ≠ b39 := Nat.ne_of_lt (Nat.lt_of_lt_of_le V38.lt (Nat.le_of_eq g39.symm))
      have Vb36_39 := Vb36_38.ext E39
      have Vb37_39 := Vb37_38.ext E39
      have Vb38_39 := V38.ext E39
      have Z39 : n0 ≤ h39.size := Nat.le_trans Z38 E39.1
      have V39 : own_L Z h39 b39 .long ([(.long (0 : Int64)), (.long (0 : Int64)), (.long (0 : Int64)), (.long (0 : Int64)), (.long (0 : Int64)), (.long (0 : Int64)), (.long (0 : Int64)), (.long (0 : Int64))]) := own_L.new A39
      refine own_st (fun zw zk => st39 zw zk) ?_
      refine own_st (fun zw zk => XS.astore X39.here hx rfl (hb hby at_50) rfl rfl rfl zk) ?_
      show own_Go p e below G (T39.setTop (mkF m 52 #[.val (.long q0), .second, .val (.long q1), .second, .val (.long q2), .second, .val (.long q3), .second, .val (.int p4), .val (.int (0 : Int32)), .val (.int (1 : Int32)), .val (.ref b36), .val (.ref b37), .val (.ref b38), .val (.ref b39), .unset, .unset, .unset] []))
      refine own_st (fun zw zk => XS.aload X39.here hx rfl (hb hby at_52) rfl rfl zk) ?_
      refine own_st (fun zw zk => XS.lloadN X39.here hx rfl (hb hby at_54) rfl zk) ?_
      refine own_st (fun zw zk => XS.lloadN X39.here hx rfl (hb hby at_55) rfl zk) ?_
      obtain ⟨_, _, ⟨T40, L40, k40, n40⟩, -, X40, ⟨Lc40, hQ40, l40, y40, z40⟩, st40⟩ := Jvm.LawKit.callS X39 hx (y := (⟨"com/example/attestrum/attestrum/schemes/ec/P256FieldSelectPinLaw", "fill", "([JJJ)V"⟩ : MethodName)) hown (mvT hZ (hw _ (List.mem_of_getElem? (i := 1) rfl))) (mvT hZ (hw _ (List.mem_of_getElem? (i := 2) rfl))) (mvT hZ (hw _ (List.mem_of_getElem? (i := 3) rfl))) (mvT hZ (hw _ (List.mem_of_getElem? (i := 4) rfl))) (by decide) (backOf (W := 0) (rm1 l Z a0 hw [] b36 q0 q1 h39 n0 Z39 (Vb36_39) (G36)) hZ (hw _ (List.mem_of_getElem? (i := 4) rfl)) (hw _ (List.mem_of_getElem? (i := 3) rfl)) (by decide) (by decide)) (g := (mkF m 56 #[.val (.long q0), .second, .val (.long q1), .second, .val (.long q2), .second, .val (.long q3), .second, .val (.int p4), .val (.int (0 : Int32)), .val (.int (1 : Int32)), .val (.ref b36), .val (.ref b37), .val (.ref b38), .val (.ref b39), .unset, .unset, .unset] [(.long q1), (.long q0), (.ref b36)])) rfl (by rw [hml]; rfl) (argsL := [(.ref b36), (.long q0), (.long q1)]) (rest := []) (lenOf pd_0 rfl) rfl (by show 2 * 0 + _ ≤ _; exact Nat.le_of_eq rfl) (hb hby at_56) (fun _ _ => ⟨rfl, e39, (by decide : 4 + 0 ≤ _), (by decide : 32 + 0 ≤ _)⟩)
      dsimp only [Pt.U, Pt.locs, Pt.cells, Pt.slots] at X40 l40 y40 z40 st40 hQ40
      subst l40 y40 z40
      obtain ⟨rfl, N40q, K40, O40_0⟩ := hQ40
      have Vb37_40 := Vb37_39.keep K40 (ninS (Ne.symm ne_b36_b37) nin0)
      have Vb38_40 := Vb38_39.keep K40 (ninS (Ne.symm ne_b36_b38) nin0)
      have Vb39_40 := V39.keep K40 (ninS (Ne.symm ne_b36_b39) nin0)
      have Z40 : n0 ≤ T40.heap.size := Nat.le_trans Z39 K40.1
      have N40 := Fr.app N0 N40q
      refine own_st (fun zw zk => st40 zw zk) ?_
      refine own_st (fun zw zk => XS.aload X40.here hx rfl (hb hby at_59) rfl rfl zk) ?_
      refine own_st (fun zw zk => XS.lloadN X40.here hx rfl (hb hby at_61) rfl zk) ?_
      refine own_st (fun zw zk => XS.lloadN X40.here hx rfl (hb hby at_62) rfl zk) ?_
      obtain ⟨_, _, ⟨T41, L41, k41, n41⟩, -, X41, ⟨Lc41, hQ41, l41, y41, z41⟩, st41⟩ := Jvm.LawKit.callS X40 hx (y := (⟨"com/example/attestrum/attestrum/schemes/ec/P256FieldSelectPinLaw", "fill", "([JJJ)V"⟩ : MethodName)) hown (mvT hZ (hw _ (List.mem_of_getElem? (i := 1) rfl))) (mvT hZ (hw _ (List.mem_of_getElem? (i := 2) rfl))) (mvT hZ (hw _ (List.mem_of_getElem? (i := 3) rfl))) (mvT hZ (hw _ (List.mem_of_getElem? (i := 4) rfl))) (by decide) (backOf (W := 0) (rm1 l Z a0 hw [] b37 q0 q1 T40.heap n0 Z40 (Vb37_40) (G37)) hZ (hw _ (List.mem_of_getElem? (i := 4) rfl)) (hw _ (List.mem_of_getElem? (i := 3) rfl)) (by decide) (by decide)) (g := (mkF m 63 #[.val (.long q0), .second, .val (.long q1), .second, .val (.long q2), .second, .val (.long q3), .second, .val (.int p4), .val (.int (0 : Int32)), .val (.int (1 : Int32)), .val (.ref b36), .val (.ref b37), .val (.ref b38), .val (.ref b39), .unset, .unset, .unset] [(.long q1), (.long q0), (.ref b37)])) rfl (by rw [hml]; rfl) (argsL := [(.ref b37), (.long q0), (.long q1)]) (rest := []) (lenOf pd_0 rfl) rfl (by show 2 * 0 + _ ≤ _; exact Nat.le_of_eq rfl) (hb hby at_63) (fun _ _ => ⟨rfl, rfl, (by decide : 4 + 0 ≤ _), (by decide : 32 + 0 ≤ _)⟩)
      dsimp only [Pt.U, Pt.locs, Pt.cells, Pt.slots] at X41 l41 y41 z41 st41 hQ41
      subst l41 y41 z41
      obtain ⟨rfl, N41q, K41, O41_0⟩ := hQ41
      have Vb38_41 := Vb38_40.keep K41 (ninS (Ne.symm ne_b37_b38) nin0)
      have Vb39_41 := Vb39_40.keep K41 (ninS (Ne.symm ne_b37_b39) nin0)
      have Ob36L_41 := O40_0.keep K41 (ninS ne_b36_b37 nin0)
      have Z41 : n0 ≤ T41.heap.size := Nat.le_trans Z40 K41.1
      have N41 := Fr.app N40 N41q
      refine own_st (fun zw zk => st41 zw zk) ?_
      show own_Go p e below G (T41.setTop (mkF m 66 #[.val (.long q0), .second, .val (.long q1), .second, .val (.long q2), .second, .val (.long q3), .second, .val (.int p4), .val (.int (0 : Int32)), .val (.int (1 : Int32)), .val (.ref b36), .val (.ref b37), .val (.ref b38), .val (.ref b39), .unset, .unset, .unset] []))
      refine own_st (fun zw zk => XS.aload X41.here hx rfl (hb hby at_66) rfl rfl zk) ?_
      refine own_st (fun zw zk => XS.lload X41.here hx rfl (hb hby at_68) rfl zk) ?_
      refine own_st (fun zw zk => XS.lload X41.here hx rfl (hb hby at_70) rfl zk) ?_
      obtain ⟨_, _, ⟨T42, L42, k42, n42⟩, -, X42, ⟨Lc42, hQ42, l42, y42, z42⟩, st42⟩ := Jvm.LawKit.callS X41 hx (y := (⟨"com/example/attestrum/attestrum/schemes/ec/P256FieldSelectPinLaw", "fill", "([JJJ)V"⟩ : MethodName)) hown (mvT hZ (hw _ (List.mem_of_getElem? (i := 1) rfl))) (mvT hZ (hw _ (List.mem_of_getElem? (i := 2) rfl))) (mvT hZ (hw _ (List.mem_of_getElem? (i := 3) rfl))) (mvT hZ (hw _ (List.mem_of_getElem? (i := 4) rfl))) (by decide) (backOf (W := 0) (rm1 l Z a0 hw [] b38 q2 q3 T41.heap n0 Z41 (Vb38_41) (G38)) hZ (hw _ (List.mem_of_getElem? (i := 4) rfl)) (hw _ (List.mem_of_getElem? (i := 3) rfl)) (by decide) (by decide)) (g := (mkF m 72 #[.val (.long q0), .second, .val (.long q1), .second, .val (.long q2), .second, .val (.long q3), .second, .val (.int p4), .val (.int (0 : Int32)), .val (.int (1 : Int32)), .val (.ref b36), .val (.ref b37), .val (.ref b38), .val (.ref b39), .unset, .unset, .unset] [(.long q3), (.long q2), (.ref b38)])) rfl (by rw [hml]; rfl) (argsL := [(.ref b38), (.long q2), (.long q3)]) (rest := []) (lenOf pd_0 rfl) rfl (by show 2 * 0 + _ ≤ _; exact Nat.le_of_eq rfl) (hb hby at_72) (fun _ _ => ⟨rfl, rfl, (by decide : 4 + 0 ≤ _), (by decide : 32 + 0 ≤ _)⟩)
      dsimp only [Pt.U, Pt.locs, Pt.cells, Pt.slots] at X42 l42 y42 z42 st42 hQ42
      subst l42 y42 z42
      obtain ⟨rfl, N42q, K42, O42_0⟩ := hQ42
      have Vb39_42 := Vb39_41.keep K42 (ninS (Ne.symm ne_b38_b39) nin0)
      have Ob36L_42 := Ob36L_41.keep K42 (ninS ne_b36_b38 nin0)
      have Ob37L_42 := O41_0.keep K42 (ninS ne_b37_b38 nin0)
      have Z42 : n0 ≤ T42.heap.size := Nat.le_trans Z41 K42.1
      have N42 := Fr.app N41 N42q
      refine own_st (fun zw zk => st42 zw zk) ?_
      refine own_st (fun zw zk => XS.aload X42.here hx rfl (hb hby at_75) rfl rfl zk) ?_
      refine own_st (fun zw zk => XS.lload X42.here hx rfl (hb hby at_77) rfl zk) ?_
      refine own_st (fun zw zk => XS.lload X42.here hx rfl (hb hby at_79) rfl zk) ?_
      obtain ⟨_, _, ⟨T43, L43, k43, n43⟩, -, X43, ⟨Lc43, hQ43, l43, y43, z43⟩, st43⟩ := Jvm.LawKit.callS X42 hx (y := (⟨"com/example/attestrum/attestrum/schemes/ec/P256FieldSelectPinLaw", "fill", "([JJJ)V"⟩ : MethodName)) hown (mvT hZ (hw _ (List.mem_of_getElem? (i := 1) rfl))) (mvT hZ (hw _ (List.mem_of_getElem? (i := 2) rfl))) (mvT hZ (hw _ (List.mem_of_getElem? (i := 3) rfl))) (mvT hZ (hw _ (List.mem_of_getElem? (i := 4) rfl))) (by decide) (backOf (W := 0) (rm1 l Z a0 hw [] b39 q2 q3 T42.heap n0 Z42 (Vb39_42) (G39)) hZ (hw _ (List.mem_of_getElem? (i := 4) rfl)) (hw _ (List.mem_of_getElem? (i := 3) rfl)) (by decide) (by decide)) (g := (mkF m 81 #[.val (.long q0), .second, .val (.long q1), .second, .val (.long q2), .second, .val (.long q3), .second, .val (.int p4), .val (.int (0 : Int32)), .val (.int (1 : Int32)), .val (.ref b36), .val (.ref b37), .val (.ref b38), .val (.ref b39), .unset, .unset, .unset] [(.long q3), (.long q2), (.ref b39)])) rfl (by rw [hml]; rfl) (argsL := [(.ref b39), (.long q2), (.long q3)]) (rest := []) (lenOf pd_0 rfl) rfl (by show 2 * 0 + _ ≤ _; exact Nat.le_of_eq rfl) (hb hby at_81) (fun _ _ => ⟨rfl, rfl, (by decide : 4 + 0 ≤ _), (by decide : 32 + 0 ≤ _)⟩)
      dsimp only [Pt.U, Pt.locs, Pt.cells, Pt.slots] at X43 l43 y43 z43 st43 hQ43
      subst l43 y43 z43
      obtain ⟨rfl, N43q, K43, O43_0⟩ := hQ43
      have Ob36L_43 := Ob36L_42.keep K43 (ninS ne_b36_b39 nin0)
      have Ob37L_43 := Ob37L_42.keep K43 (ninS ne_b37_b39 nin0)
      have Ob38L_43 := O42_0.keep K43 (ninS ne_b38_b39 nin0)
      have Z43 : n0 ≤ T43.heap.size := Nat.le_trans Z42 K43.1
      have N43 := Fr.app N42 N43q
      refine own_st (fun zw zk => st43 zw zk) ?_
      show own_Go p e below G (T43.setTop (mkF m 84 #[.val (.long q0), .second, .val (.long q1), .second, .val (.long q2), .second, .val (.long q3), .second, .val (.int p4), .val (.int (0 : Int32)), .val (.int (1 : Int32)), .val (.ref b36), .val (.ref b37), .val (.ref b38), .val (.ref b39), .unset, .unset, .unset] []))
      refine own_st (fun zw zk => XS.iload X43.here hx rfl (hb hby at_84) rfl zk) ?_
      refine own_st (fun zw zk => XS.ifYes X43.here hx rfl (pc0 := 86) (pc' := 95) rfl (hb hby at_86) rfl ((if0 _ _).trans (teq (by decide : (0 : Int32) = (0 : Int32))).1) (by decide) (by decide) zk) ?_
      refine own_st (fun zw zk => XS.lconst X43.here hx rfl (hb hby at_95) zk) ?_
      refine own_st (fun zw zk => XS.lstore X43.here hx rfl (hb hby at_96) rfl rfl zk) ?_
      show own_Go p e below G (T43.setTop (mkF m 98 #[.val (.long q0), .second, .val (.long q1), .second, .val (.long q2), .second, .val (.long q3), .second, .val (.int p4), .val (.int (0 : Int32)), .val (.int (1 : Int32)), .val (.ref b36), .val (.ref b37), .val (.ref b38), .val (.ref b39), .val (.long (0 : Int64)), .second, .unset] []))
      refine own_st (fun zw zk => XS.iload X43.here hx rfl (hb hby at_98) rfl zk) ?_
      refine own_st (fun zw zk => XS.ifNo X43.here hx rfl (hb hby at_100) rfl ((if0 _ _).trans (feq (by decide : ¬ ((1 : Int32) = (0 : Int32)))).1) zk) ?_
      refine own_st (fun zw zk => XS.aload X43.here hx rfl (hb hby at_103) rfl rfl zk) ?_
      refine own_st (fun zw zk => XS.aload X43.here hx rfl (hb hby at_105) rfl rfl zk) ?_
      refine own_st (fun zw zk => XS.lload X43.here hx rfl (hb hby at_107) rfl zk) ?_
      obtain ⟨_, _, ⟨T44, L44, k44, n44⟩, -, X44, ⟨Lc44, hQ44, l44, y44, z44⟩, st44⟩ := Jvm.LawKit.callS X43 hx (y := (⟨"com/example/attestrum/attestrum/schemes/ec/P256Field", "select", "([J[JJ)V"⟩ : MethodName)) hown (mvT hZ (hw _ (List.mem_of_getElem? (i := 7) rfl))) (mvT hZ (hw _ (List.mem_of_getElem? (i := 8) rfl))) (mvT hZ (hw _ (List.mem_of_getElem? (i := 9) rfl))) (mvT hZ (hw _ (List.mem_of_getElem? (i := 10) rfl))) (by decide) (backOf (W := 0) (rm2a l Z a0 hw [] b36 (0 : Int64) (q0 &&& (4294967295 : Int64)) ((q0.toUInt64 >>> ((32 : Int32) &&& 0x3f).toInt64.toUInt64).toInt64) (q1 &&& (4294967295 : Int64)) ((q1.toUInt64 >>> ((32 : Int32) &&& 0x3f).toInt64.toUInt64).toInt64) ((q0 ^^^ q1) &&& (4294967295 : Int64)) (((q0 ^^^ q1).toUInt64 >>> ((32 : Int32) &&& 0x3f).toInt64.toUInt64).toInt64) ((q0 + q1) &&& (4294967295 : Int64)) (((q0 + q1).toUInt64 >>> ((32 : Int32) &&& 0x3f).toInt64.toUInt64).toInt64) T43.heap n0 Z43 (Ob36L_43) (G36)) hZ (hw _ (List.mem_of_getElem? (i := 10) rfl)) (hw _ (List.mem_of_getElem? (i := 9) rfl)) (by decide) (by decide)) (g := (mkF m 109 #[.val (.long q0), .second, .val (.long q1), .second, .val (.long q2), .second, .val (.long q3), .second, .val (.int p4), .val (.int (0 : Int32)), .val (.int (1 : Int32)), .val (.ref b36), .val (.ref b37), .val (.ref b38), .val (.ref b39), .val (.long (0 : Int64)), .second, .unset] [(.long (0 : Int64)), (.ref b36), (.ref b36)])) rfl (by rw [hml]; rfl) (argsL := [(.ref b36), (.ref b36), (.long (0 : Int64))]) (rest := []) (lenOf pd_1 rfl) rfl (by show 2 * 0 + _ ≤ _; exact Nat.le_of_eq rfl) (hb hby at_109) (fun _ _ => ⟨rfl, rfl, (by decide : 4 + 0 ≤ _), (by decide : 32 + 0 ≤ _)⟩)
      dsimp only [Pt.U, Pt.locs, Pt.cells, Pt.slots] at X44 l44 y44 z44 st44 hQ44
      subst l44 y44 z44
      obtain ⟨rfl, N44q, K44, O44_0⟩ := hQ44
      have Ob37L_44 := Ob37L_43.keep K44 (ninS (Ne.symm ne_b36_b37) nin0)
      have Ob38L_44 := Ob38L_43.keep K44 (ninS (Ne.symm ne_b36_b38) nin0)
      have Ob39L_44 := O43_0.keep K44 (ninS (Ne.symm ne_b36_b39) nin0)
      have Z44 : n0 ≤ T44.heap.size := Nat.le_trans Z43 K44.1
      have N44 := Fr.app N43 N44q
      refine own_st (fun zw zk => st44 zw zk) ?_
      refine own_st (fun zw zk => XS.aload X44.here hx rfl (hb hby at_112) rfl rfl zk) ?_
      refine own_st (fun zw zk => XS.aload X44.here hx rfl (hb hby at_114) rfl rfl zk) ?_
      show own_Go p e below G (T44.setTop (mkF m 116 #[.val (.long q0), .second, .val (.long q1), .second, .val (.long q2), .second, .val (.long q3), .second, .val (.int p4), .val (.int (0 : Int32)), .val (.int (1 : Int32)), .val (.ref b36), .val (.ref b37), .val (.ref b38), .val (.ref b39), .val (.long (0 : Int64)), .second, .unset] [(.ref b37), (.ref b36)]))
      obtain ⟨_, _, ⟨T45, L45, k45, n45⟩, -, X45, ⟨Lc45, hQ45, l45, y45, z45⟩, st45⟩ := Jvm.LawKit.callS X44 hx (y := (⟨"com/example/attestrum/attestrum/schemes/ec/P256FieldSelectPinLaw", "same", "([J[J)Z"⟩ : MethodName)) hown (mvT hZ (hw _ (List.mem_of_getElem? (i := 11) rfl))) (mvT hZ (hw _ (List.mem_of_getElem? (i := 12) rfl))) (mvT hZ (hw _ (List.mem_of_getElem? (i := 3) rfl))) (mvT hZ (hw _ (List.mem_of_getElem? (i := 13) rfl))) (by decide) (backOf (W := 0) (rm3 l Z a0 hw [] b36 b37 ((q0 &&& (4294967295 : Int64)) ^^^ (((q0 &&& (4294967295 : Int64)) ^^^ (q0 &&& (4294967295 : Int64))) &&& (0 : Int64))) (((q0.toUInt64 >>> ((32 : Int32) &&& 0x3f).toInt64.toUInt64).toInt64) ^^^ ((((q0.toUInt64 >>> ((32 : Int32) &&& 0x3f).toInt64.toUInt64).toInt64) ^^^ ((q0.toUInt64 >>> ((32 : Int32) &&& 0x3f).toInt64.toUInt64).toInt64)) &&& (0 : Int64))) ((q1 &&& (4294967295 : Int64)) ^^^ (((q1 &&& (4294967295 : Int64)) ^^^ (q1 &&& (4294967295 : Int64))) &&& (0 : Int64))) (((q1.toUInt64 >>> ((32 : Int32) &&& 0x3f).toInt64.toUInt64).toInt64) ^^^ ((((q1.toUInt64 >>> ((32 : Int32) &&& 0x3f).toInt64.toUInt64).toInt64) ^^^ ((q1.toUInt64 >>> ((32 : Int32) &&& 0x3f).toInt64.toUInt64).toInt64)) &&& (0 : Int64))) (((q0 ^^^ q1) &&& (4294967295 : Int64)) ^^^ ((((q0 ^^^ q1) &&& (4294967295 : Int64)) ^^^ ((q0 ^^^ q1) &&& (4294967295 : Int64))) &&& (0 : Int64))) ((((q0 ^^^ q1).toUInt64 >>> ((32 : Int32) &&& 0x3f).toInt64.toUInt64).toInt64) ^^^ (((((q0 ^^^ q1).toUInt64 >>> ((32 : Int32) &&& 0x3f).toInt64.toUInt64).toInt64) ^^^ (((q0 ^^^ q1).toUInt64 >>> ((32 : Int32) &&& 0x3f).toInt64.toUInt64).toInt64)) &&& (0 : Int64))) (((q0 + q1) &&& (4294967295 : Int64)) ^^^ ((((q0 + q1) &&& (4294967295 : Int64)) ^^^ ((q0 + q1) &&& (4294967295 : Int64))) &&& (0 : Int64))) ((((q0 + q1).toUInt64 >>> ((32 : Int32) &&& 0x3f).toInt64.toUInt64).toInt64) ^^^ (((((q0 + q1).toUInt64 >>> ((32 : Int32) &&& 0x3f).toInt64.toUInt64).toInt64) ^^^ (((q0 + q1).toUInt64 >>> ((32 : Int32) &&& 0x3f).toInt64.toUInt64).toInt64)) &&& (0 : Int64))) (q0 &&& (4294967295 : Int64)) ((q0.toUInt64 >>> ((32 : Int32) &&& 0x3f).toInt64.toUInt64).toInt64) (q1 &&& (4294967295 : Int64)) ((q1.toUInt64 >>> ((32 : Int32) &&& 0x3f).toInt64.toUInt64).toInt64) ((q0 ^^^ q1) &&& (4294967295 : Int64)) (((q0 ^^^ q1).toUInt64 >>> ((32 : Int32) &&& 0x3f).toInt64.toUInt64).toInt64) ((q0 + q1) &&& (4294967295 : Int64)) (((q0 + q1).toUInt64 >>> ((32 : Int32) &&& 0x3f).toInt64.toUInt64).toInt64) T44.heap n0 Z44 (O44_0) (Ob37L_44)) hZ (hw _ (List.mem_of_getElem? (i := 13) rfl)) (hw _ (List.mem_of_getElem? (i := 3) rfl)) (by decide) (by decide)) (g := (mkF m 116 #[.val (.long q0), .second, .val (.long q1), .second, .val (.long q2), .second, .val (.long q3), .second, .val (.int p4), .val (.int (0 : Int32)), .val (.int (1 : Int32)), .val (.ref b36), .val (.ref b37), .val (.ref b38), .val (.ref b39), .val (.long (0 : Int64)), .second, .unset] [(.ref b37), (.ref b36)])) rfl (by rw [hml]; rfl) (argsL := [(.ref b36), (.ref b37)]) (rest := []) (lenOf pd_2 rfl) rfl (by show 2 * 0 + _ ≤ _; exact Nat.le_of_eq rfl) (hb hby at_116) (fun _ _ => ⟨rfl, rfl, (by decide : 4 + 0 ≤ _), (by decide : 32 + 0 ≤ _)⟩)
      dsimp only [Pt.U, Pt.locs, Pt.cells, Pt.slots] at X45 l45 y45 z45 st45 hQ45
      subst l45 y45 z45
      obtain ⟨rfl, N45q, e45⟩ := hQ45
      have N45 := Fr.app N44 N45q
      refine own_st (fun zw zk => st45 zw zk) ?_
      show own_Go p e below G (T45.setTop (mkF m 119 #[.val (.long q0), .second, .val (.long q1), .second, .val (.long q2), .second, .val (.long q3), .second, .val (.int p4), .val (.int (0 : Int32)), .val (.int (1 : Int32)), .val (.ref b36), .val (.ref b37), .val (.ref b38), .val (.ref b39), .val (.long (0 : Int64)), .second, .unset] [(.int (own_same ((q0 &&& (4294967295 : Int64)) ^^^ (((q0 &&& (4294967295 : Int64)) ^^^ (q0 &&& (4294967295 : Int64))) &&& (0 : Int64))) (((q0.toUInt64 >>> ((32 : Int32) &&& 0x3f).toInt64.toUInt64).toInt64) ^^^ ((((q0.toUInt64 >>> ((32 : Int32) &&& 0x3f).toInt64.toUInt64).toInt64) ^^^ ((q0.toUInt64 >>> ((32 : Int32) &&& 0x3f).toInt64.toUInt64).toInt64)) &&& (0 : Int64))) ((q1 &&& (4294967295 : Int64)) ^^^ (((q1 &&& (4294967295 : Int64)) ^^^ (q1 &&& (4294967295 : Int64))) &&& (0 : Int64))) (((q1.toUInt64 >>> ((32 : Int32) &&& 0x3f).toInt64.toUInt64).toInt64) ^^^ ((((q1.toUInt64 >>> ((32 : Int32) &&& 0x3f).toInt64.toUInt64).toInt64) ^^^ ((q1.toUInt64 >>> ((32 : Int32) &&& 0x3f).toInt64.toUInt64).toInt64)) &&& (0 : Int64))) (((q0 ^^^ q1) &&& (4294967295 : Int64)) ^^^ ((((q0 ^^^ q1) &&& (4294967295 : Int64)) ^^^ ((q0 ^^^ q1) &&& (4294967295 : Int64))) &&& (0 : Int64))) ((((q0 ^^^ q1).toUInt64 >>> ((32 : Int32) &&& 0x3f).toInt64.toUInt64).toInt64) ^^^ (((((q0 ^^^ q1).toUInt64 >>> ((32 : Int32) &&& 0x3f).toInt64.toUInt64).toInt64) ^^^ (((q0 ^^^ q1).toUInt64 >>> ((32 : Int32) &&& 0x3f).toInt64.toUInt64).toInt64)) &&& (0 : Int64))) (((q0 + q1) &&& (4294967295 : Int64)) ^^^ ((((q0 + q1) &&& (4294967295 : Int64)) ^^^ ((q0 + q1) &&& (4294967295 : Int64))) &&& (0 : Int64))) ((((q0 + q1).toUInt64 >>> ((32 : Int32) &&& 0x3f).toInt64.toUInt64).toInt64) ^^^ (((((q0 + q1).toUInt64 >>> ((32 : Int32) &&& 0x3f).toInt64.toUInt64).toInt64) ^^^ (((q0 + q1).toUInt64 >>> ((32 : Int32) &&& 0x3f).toInt64.toUInt64).toInt64)) &&& (0 : Int64))) (q0 &&& (4294967295 : Int64)) ((q0.toUInt64 >>> ((32 : Int32) &&& 0x3f).toInt64.toUInt64).toInt64) (q1 &&& (4294967295 : Int64)) ((q1.toUInt64 >>> ((32 : Int32) &&& 0x3f).toInt64.toUInt64).toInt64) ((q0 ^^^ q1) &&& (4294967295 : Int64)) (((q0 ^^^ q1).toUInt64 >>> ((32 : Int32) &&& 0x3f).toInt64.toUInt64).toInt64) ((q0 + q1) &&& (4294967295 : Int64)) (((q0 + q1).toUInt64 >>> ((32 : Int32) &&& 0x3f).toInt64.toUInt64).toInt64)))]))
      rw [show (own_same ((q0 &&& (4294967295 : Int64)) ^^^ (((q0 &&& (4294967295 : Int64)) ^^^ (q0 &&& (4294967295 : Int64))) &&& (0 : Int64))) (((q0.toUInt64 >>> ((32 : Int32) &&& 0x3f).toInt64.toUInt64).toInt64) ^^^ ((((q0.toUInt64 >>> ((32 : Int32) &&& 0x3f).toInt64.toUInt64).toInt64) ^^^ ((q0.toUInt64 >>> ((32 : Int32) &&& 0x3f).toInt64.toUInt64).toInt64)) &&& (0 : Int64))) ((q1 &&& (4294967295 : Int64)) ^^^ (((q1 &&& (4294967295 : Int64)) ^^^ (q1 &&& (4294967295 : Int64))) &&& (0 : Int64))) (((q1.toUInt64 >>> ((32 : Int32) &&& 0x3f).toInt64.toUInt64).toInt64) ^^^ ((((q1.toUInt64 >>> ((32 : Int32) &&& 0x3f).toInt64.toUInt64).toInt64) ^^^ ((q1.toUInt64 >>> ((32 : Int32) &&& 0x3f).toInt64.toUInt64).toInt64)) &&& (0 : Int64))) (((q0 ^^^ q1) &&& (4294967295 : Int64)) ^^^ ((((q0 ^^^ q1) &&& (4294967295 : Int64)) ^^^ ((q0 ^^^ q1) &&& (4294967295 : Int64))) &&& (0 : Int64))) ((((q0 ^^^ q1).toUInt64 >>> ((32 : Int32) &&& 0x3f).toInt64.toUInt64).toInt64) ^^^ (((((q0 ^^^ q1).toUInt64 >>> ((32 : Int32) &&& 0x3f).toInt64.toUInt64).toInt64) ^^^ (((q0 ^^^ q1).toUInt64 >>> ((32 : Int32) &&& 0x3f).toInt64.toUInt64).toInt64)) &&& (0 : Int64))) (((q0 + q1) &&& (4294967295 : Int64)) ^^^ ((((q0 + q1) &&& (4294967295 : Int64)) ^^^ ((q0 + q1) &&& (4294967295 : Int64))) &&& (0 : Int64))) ((((q0 + q1).toUInt64 >>> ((32 : Int32) &&& 0x3f).toInt64.toUInt64).toInt64) ^^^ (((((q0 + q1).toUInt64 >>> ((32 : Int32) &&& 0x3f).toInt64.toUInt64).toInt64) ^^^ (((q0 + q1).toUInt64 >>> ((32 : Int32) &&& 0x3f).toInt64.toUInt64).toInt64)) &&& (0 : Int64))) (q0 &&& (4294967295 : Int64)) ((q0.toUInt64 >>> ((32 : Int32) &&& 0x3f).toInt64.toUInt64).toInt64) (q1 &&& (4294967295 : Int64)) ((q1.toUInt64 >>> ((32 : Int32) &&& 0x3f).toInt64.toUInt64).toInt64) ((q0 ^^^ q1) &&& (4294967295 : Int64)) (((q0 ^^^ q1).toUInt64 >>> ((32 : Int32) &&& 0x3f).toInt64.toUInt64).toInt64) ((q0 + q1) &&& (4294967295 : Int64)) (((q0 + q1).toUInt64 >>> ((32 : Int32) &&& 0x3f).toInt64.toUInt64).toInt64)) = (1 : Int32) from by simp only [own_selA, own_sel1, own_sel0]; exact own_same1 _ _ _ _ _ _ _ _]
      subst hG
      obtain ⟨fs, hr, hrun, hended, hW, hsame⟩ := X45.leave (v := some (.int (1 : Int32))) (fun h => by rw [Bd.returns] at h; cases h)
      refine ⟨_, retN X45 hx (t := .boolean) Bd.returns (by simp) (hb hby at_119) hr, _, hrun, hended, _, _, rfl, ?_, ⟨_, rfl⟩, hW, hsame.mono (by decide) (by decide)⟩
      show Q0 Z q0 q1 q2 q3 p4 h0 n0 _ T45.heap _
      rw [e45]
      exact ⟨rfl, N45⟩
  · refine own_st (fun zw zk => XS.ifNo X0.here hx rfl (hb hby at_4) rfl ((if0 _ _).trans (feq hc4).1) zk) ?_
    refine own_st (fun zw zk => XS.iconst X0.here hx rfl (hb hby at_7) zk) ?_
    refine own_st (fun zw zk => XS.goto X0.here hx rfl (pc0 := 8) (pc' := 12) rfl (hb hby at_8) (by decide) (by decide) zk) ?_
    show own_Go p e below G (s₁.setTop (mkF m 12 #[.val (.long q0), .second, .val (.long q1), .second, .val (.long q2), .second, .val (.long q3), .second, .val (.int p4), .unset, .unset, .unset, .unset, .unset, .unset, .unset, .unset, .unset] [(.int (1 : Int32))]))
    refine own_st (fun zw zk => XS.istore X0.here hx rfl (hb hby at_12) rfl rfl zk) ?_
    show own_Go p e below G (s₁.setTop (mkF m 14 #[.val (.long q0), .second, .val (.long q1), .second, .val (.long q2), .second, .val (.long q3), .second, .val (.int p4), .val (.int (1 : Int32)), .unset, .unset, .unset, .unset, .unset, .unset, .unset, .unset] []))
    refine own_st (fun zw zk => XS.iload X0.here hx rfl (hb hby at_14) rfl zk) ?_
    refine own_st (fun zw zk => XS.iconst X0.here hx rfl (hb hby at_16) zk) ?_
    refine own_st (fun zw zk => XS.iand X0.here hx rfl (hb hby at_17) rfl zk) ?_
    by_cases hc18 : (p4 &&& (2 : Int32)) = (0 : Int32)
    · refine own_st (fun zw zk => XS.ifYes X0.here hx rfl (pc0 := 18) (pc' := 25) rfl (hb hby at_18) rfl ((if0 _ _).trans (teq hc18).1) (by decide) (by decide) zk) ?_
      refine own_st (fun zw zk => XS.iconst X0.here hx rfl (hb hby at_25) zk) ?_
      refine own_st (fun zw zk => XS.istore X0.here hx rfl (hb hby at_26) rfl rfl zk) ?_
      show own_Go p e below G (s₁.setTop (mkF m 28 #[.val (.long q0), .second, .val (.long q1), .second, .val (.long q2), .second, .val (.long q3), .second, .val (.int p4), .val (.int (1 : Int32)), .val (.int (0 : Int32)), .unset, .unset, .unset, .unset, .unset, .unset, .unset] []))
      refine own_st (fun zw zk => XS.bipush X0.here hx rfl (hb hby at_28) zk) ?_
      obtain ⟨T46, h46, k46, X46, e46, E46, A46, st46⟩ := newP X0 hx hZ (hw _ (List.mem_of_getElem? (i := 0) rfl)) e0 (g := (mkF m 30 #[.val (.long q0), .second, .val (.long q1), .second, .val (.long q2), .second, .val (.long q3), .second, .val (.int p4), .val (.int (1 : Int32)), .val (.int (0 : Int32)), .unset, .unset, .unset, .unset, .unset, .unset, .unset] [(.int (8 : Int32))])) rfl (hb hby at_30) rfl (by decide) (cap := 8) (by decide) (by decide) (by decide) (by decide)
      obtain ⟨b46, g46⟩ : ∃ z, z = h0.size := ⟨_, rfl⟩
      rw [← g46] at A46 st46
      have G46 : n0 ≤ b46 := Nat.le_trans Z0 (Nat.le_of_eq g46.symm)
      have Z46 : n0 ≤ h46.size := Nat.le_trans Z0 E46.1
      have V46 : own_L Z h46 b46 .long ([(.long (0 : Int64)), (.long (0 : Int64)), (.long (0 : Int64)), (.long (0 : Int64)), (.long (0 : Int64)), (.long (0 : Int64)), (.long (0 : Int64)), (.long (0 : Int64))]) := own_L.new A46
      refine own_st (fun zw zk => st46 zw zk) ?_
      refine own_st (fun zw zk => XS.astore X46.here hx rfl (hb hby at_32) rfl rfl rfl zk) ?_
      show own_Go p e below G (T46.setTop (mkF m 34 #[.val (.long q0), .second, .val (.long q1), .second, .val (.long q2), .second, .val (.long q3), .second, .val (.int p4), .val (.int (1 : Int32)), .val (.int (0 : Int32)), .val (.ref b46), .unset, .unset, .unset, .unset, .unset, .unset] []))
      refine own_st (fun zw zk => XS.bipush X46.here hx rfl (hb hby at_34) zk) ?_
      obtain ⟨T47, h47, k47, X47, e47, E47, A47, st47⟩ := newP X46 hx hZ (hw _ (List.mem_of_getElem? (i := 0) rfl)) e46 (g := (mkF m 36 #[.val (.long q0), .second, .val (.long q1), .second, .val (.long q2), .second, .val (.long q3), .second, .val (.int p4), .val (.int (1 : Int32)), .val (.int (0 : Int32)), .val (.ref b46), .unset, .unset, .unset, .unset, .unset, .unset] [(.int (8 : Int32))])) rfl (hb hby at_36) rfl (by decide) (cap := 8) (by decide) (by decide) (by decide) (by decide)
      obtain ⟨b47, g47⟩ : ∃ z, z = h46.size := ⟨_, rfl⟩
      rw [← g47] at A47 st47
      have G47 : n0 ≤ b47 := Nat.le_trans Z46 (Nat.le_of_eq g47.symm)
      have ne_b46_b47 : b46 ≠ b47 := Nat.ne_of_lt (Nat.lt_of_lt_of_le V46.lt (Nat.le_of_eq g47.symm))
      have Vb46_47 := V46.ext E47
      have Z47 : n0 ≤ h47.size := Nat.le_trans Z46 E47.1
      have V47 : own_L Z h47 b47 .long ([(.long (0 : Int64)), (.long (0 : Int64)), (.long (0 : Int64)), (.long (0 : Int64)), (.long (0 : Int64)), (.long (0 : Int64)), (.long (0 : Int64)), (.long (0 : Int64))]) := own_L.new A47
      refine own_st (fun zw zk => st47 zw zk) ?_
      refine own_st (fun zw zk => XS.astore X47.here hx rfl (hb hby at_38) rfl rfl rfl zk) ?_
      show own_Go p e below G (T47.setTop (mkF m 40 #[.val (.long q0), .second, .val (.long q1), .second, .val (.long q2), .second, .val (.long q3), .second, .val (.int p4), .val (.int (1 : Int32)), .val (.int (0 : Int32)), .val (.ref b46), .val (.ref b47), .unset, .unset, .unset, .unset, .unset] []))
      refine own_st (fun zw zk => XS.bipush X47.here hx rfl (hb hby at_40) zk) ?_
      obtain ⟨T48, h48, k48, X48, e48, E48, A48, st48⟩ := newP X47 hx hZ (hw _ (List.mem_of_getElem? (i := 0) rfl)) e47 (g := (mkF m 42 #[.val (.long q0), .second, .val (.long q1), .second, .val (.long q2), .second, .val (.long q3), .second, .val (.int p4), .val (.int (1 : Int32)), .val (.int (0 : Int32)), .val (.ref b46), .val (.ref b47), .unset, .unset, .unset, .unset, .unset] [(.int (8 : Int32))])) rfl (hb hby at_42) rfl (by decide) (cap := 8) (by decide) (by decide) (by decide) (by decide)
      obtain ⟨b48, g48⟩ : ∃ z, z = h47.size := ⟨_, rfl⟩
      rw [← g48] at A48 st48
      have G48 : n0 ≤ b48 := Nat.le_trans Z47 (Nat.le_of_eq g48.symm)
      have ne_b46_b48 : b46 ≠ b48 := Nat.ne_of_lt (Nat.lt_of_lt_of_le Vb46_47.lt (Nat.le_of_eq g48.symm))
      have ne_b47_b48 : b47 ≠ b48 := Nat.ne_of_lt (Nat.lt_of_lt_of_le V47.lt (Nat.le_of_eq g48.symm))
      have Vb46_48 := Vb46_47.ext E48
      have Vb47_48 := V47.ext E48
      have Z48 : n0 ≤ h48.size := Nat.le_trans Z47 E48.1
      have V48 : own_L Z h48 b48 .long ([(.long (0 : Int64)), (.long (0 : Int64)), (.long (0 : Int64)), (.long (0 : Int64)), (.long (0 : Int64)), (.long (0 : Int64)), (.long (0 : Int64)), (.long (0 : Int64))]) := own_L.new A48
      refine own_st (fun zw zk => st48 zw zk) ?_
      refine own_st (fun zw zk => XS.astore X48.here hx rfl (hb hby at_44) rfl rfl rfl zk) ?_
      show own_Go p e below G (T48.setTop (mkF m 46 #[.val (.long q0), .second, .val (.long q1), .second, .val (.long q2), .second, .val (.long q3), .second, .val (.int p4), .val (.int (1 : Int32)), .val (.int (0 : Int32)), .val (.ref b46), .val (.ref b47), .val (.ref b48), .unset, .unset, .unset, .unset] []))
      refine own_st (fun zw zk => XS.bipush X48.here hx rfl (hb hby at_46) zk) ?_
      obtain ⟨T49, h49, k49, X49, e49, E49, A49, st49⟩ := newP X48 hx hZ (hw _ (List.mem_of_getElem? (i := 0) rfl)) e48 (g := (mkF m 48 #[.val (.long q0), .second, .val (.long q1), .second, .val (.long q2), .second, .val (.long q3), .second, .val (.int p4), .val (.int (1 : Int32)), .val (.int (0 : Int32)), .val (.ref b46), .val (.ref b47), .val (.ref b48), .unset, .unset, .unset, .unset] [(.int (8 : Int32))])) rfl (hb hby at_48) rfl (by decide) (cap := 8) (by decide) (by decide) (by decide) (by decide)
      obtain ⟨b49, g49⟩ : ∃ z, z = h48.size := ⟨_, rfl⟩
      rw [← g49] at A49 st49
      have G49 : n0 ≤ b49 := Nat.le_trans Z48 (Nat.le_of_eq g49.symm)
      have ne_b46_b49 : b46 ≠ b49 := Nat.ne_of_lt (Nat.lt_of_lt_of_le Vb46_48.lt (Nat.le_of_eq g49.symm))
      have ne_b47_b49 : b47 ≠ b49 := Nat.ne_of_lt (Nat.lt_of_lt_of_le Vb47_48.lt (Nat.le_of_eq g49.symm))
      have ne_b48_b49 : b48 ≠ b49 := Nat.ne_of_lt (Nat.lt_of_lt_of_le V48.lt (Nat.le_of_eq g49.symm))
      have Vb46_49 := Vb46_48.ext E49
      have Vb47_49 := Vb47_48.ext E49
      have Vb48_49 := V48.ext E49
      have Z49 : n0 ≤ h49.size := Nat.le_trans Z48 E49.1
      have V49 : own_L Z h49 b49 .long ([(.long (0 : Int64)), (.long (0 : Int64)), (.long (0 : Int64)), (.long (0 : Int64)), (.long (0 : Int64)), (.long (0 : Int64)), (.long (0 : Int64)), (.long (0 : Int64))]) := own_L.new A49
      refine own_st (fun zw zk => st49 zw zk) ?_
      refine own_st (fun zw zk => XS.astore X49.here hx rfl (hb hby at_50) rfl rfl rfl zk) ?_
      show own_Go p e below G (T49.setTop (mkF m 52 #[.val (.long q0), .second, .val (.long q1), .second, .val (.long q2), .second, .val (.long q3), .second, .val (.int p4), .val (.int (1 : Int32)), .val (.int (0 : Int32)), .val (.ref b46), .val (.ref b47), .val (.ref b48), .val (.ref b49), .unset, .unset, .unset] []))
      refine own_st (fun zw zk => XS.aload X49.here hx rfl (hb hby at_52) rfl rfl zk) ?_
      refine own_st (fun zw zk => XS.lloadN X49.here hx rfl (hb hby at_54) rfl zk) ?_
      refine own_st (fun zw zk => XS.lloadN X49.here hx rfl (hb hby at_55) rfl zk) ?_
      obtain ⟨_, _, ⟨T50, L50, k50, n50⟩, -, X50, ⟨Lc50, hQ50, l50, y50, z50⟩, st50⟩ := Jvm.LawKit.callS X49 hx (y := (⟨"com/example/attestrum/attestrum/schemes/ec/P256FieldSelectPinLaw", "fill", "([JJJ)V"⟩ : MethodName)) hown (mvT hZ (hw _ (List.mem_of_getElem? (i := 1) rfl))) (mvT hZ (hw _ (List.mem_of_getElem? (i := 2) rfl))) (mvT hZ (hw _ (List.mem_of_getElem? (i := 3) rfl))) (mvT hZ (hw _ (List.mem_of_getElem? (i := 4) rfl))) (by decide) (backOf (W := 0) (rm1 l Z a0 hw [] b46 q0 q1 h49 n0 Z49 (Vb46_49) (G46)) hZ (hw _ (List.mem_of_getElem? (i := 4) rfl)) (hw _ (List.mem_of_getElem? (i := 3) rfl)) (by decide) (by decide)) (g := (mkF m 56 #[.val (.long q0), .second, .val (.long q1), .second, .val (.long q2), .second, .val (.long q3), .second, .val (.int p4), .val (.int (1 : Int32)), .val (.int (0 : Int32)), .val (.ref b46), .val (.ref b47), .val (.ref b48), .val (.ref b49), .unset, .unset, .unset] [(.long q1), (.long q0), (.ref b46)])) rfl (by rw [hml]; rfl) (argsL := [(.ref b46), (.long q0), (.long q1)]) (rest := []) (lenOf pd_0 rfl) rfl (by show 2 * 0 + _ ≤ _; exact Nat.le_of_eq rfl) (hb hby at_56) (fun _ _ => ⟨rfl, e49, (by decide : 4 + 0 ≤ _), (by decide : 32 + 0 ≤ _)⟩)
      dsimp only [Pt.U, Pt.locs, Pt.cells, Pt.slots] at X50 l50 y50 z50 st50 hQ50
      subst l50 y50 z50
      obtain ⟨rfl, N50q, K50, O50_0⟩ := hQ50
      have Vb47_50 := Vb47_49.keep K50 (ninS (Ne.symm ne_b46_b47) nin0)
      have Vb48_50 := Vb48_49.keep K50 (ninS (Ne.symm ne_b46_b48) nin0)
      have Vb49_50 := V49.keep K50 (ninS (Ne.symm ne_b46_b49) nin0)
      have Z50 : n0 ≤ T50.heap.size := Nat.le_trans Z49 K50.1
      have N50 := Fr.app N0 N50q
      refine own_st (fun zw zk => st50 zw zk) ?_
      refine own_st (fun zw zk => XS.aload X50.here hx rfl (hb hby at_59) rfl rfl zk) ?_
      refine own_st (fun zw zk => XS.lloadN X50.here hx rfl (hb hby at_61) rfl zk) ?_
      refine own_st (fun zw zk => XS.lloadN X50.here hx rfl (hb hby at_62) rfl zk) ?_
      obtain ⟨_, _, ⟨T51, L51, k51, n51⟩, -, X51, ⟨Lc51, hQ51, l51, y51, z51⟩, st51⟩ := Jvm.LawKit.callS X50 hx (y := (⟨"com/example/attestrum/attestrum/schemes/ec/P256FieldSelectPinLaw", "fill", "([JJJ)V"⟩ : MethodName)) hown (mvT hZ (hw _ (List.mem_of_getElem? (i := 1) rfl))) (mvT hZ (hw _ (List.mem_of_getElem? (i := 2) rfl))) (mvT hZ (hw _ (List.mem_of_getElem? (i := 3) rfl))) (mvT hZ (hw _ (List.mem_of_getElem? (i := 4) rfl))) (by decide) (backOf (W := 0) (rm1 l Z a0 hw [] b47 q0 q1 T50.heap n0 Z50 (Vb47_50) (G47)) hZ (hw _ (List.mem_of_getElem? (i := 4) rfl)) (hw _ (List.mem_of_getElem? (i := 3) rfl)) (by decide) (by decide)) (g := (mkF m 63 #[.val (.long q0), .second, .val (.long q1), .second, .val (.long q2), .second, .val (.long q3), .second, .val (.int p4), .val (.int (1 : Int32)), .val (.int (0 : Int32)), .val (.ref b46), .val (.ref b47), .val (.ref b48), .val (.ref b49), .unset, .unset, .unset] [(.long q1), (.long q0), (.ref b47)])) rfl (by rw [hml]; rfl) (argsL := [(.ref b47), (.long q0), (.long q1)]) (rest := []) (lenOf pd_0 rfl) rfl (by show 2 * 0 + _ ≤ _; exact Nat.le_of_eq rfl) (hb hby at_63) (fun _ _ => ⟨rfl, rfl, (by decide : 4 + 0 ≤ _), (by decide : 32 + 0 ≤ _)⟩)
      dsimp only [Pt.U, Pt.locs, Pt.cells, Pt.slots] at X51 l51 y51 z51 st51 hQ51
      subst l51 y51 z51
      obtain ⟨rfl, N51q, K51, O51_0⟩ := hQ51
      have Vb48_51 := Vb48_50.keep K51 (ninS (Ne.symm ne_b47_b48) nin0)
      have Vb49_51 := Vb49_50.keep K51 (ninS (Ne.symm ne_b47_b49) nin0)
      have Ob46L_51 := O50_0.keep K51 (ninS ne_b46_b47 nin0)
      have Z51 : n0 ≤ T51.heap.size := Nat.le_trans Z50 K51.1
      have N51 := Fr.app N50 N51q
      refine own_st (fun zw zk => st51 zw zk) ?_
      show own_Go p e below G (T51.setTop (mkF m 66 #[.val (.long q0), .second, .val (.long q1), .second, .val (.long q2), .second, .val (.long q3), .second, .val (.int p4), .val (.int (1 : Int32)), .val (.int (0 : Int32)), .val (.ref b46), .val (.ref b47), .val (.ref b48), .val (.ref b49), .unset, .unset, .unset] []))
      refine own_st (fun zw zk => XS.aload X51.here hx rfl (hb hby at_66) rfl rfl zk) ?_
      refine own_st (fun zw zk => XS.lload X51.here hx rfl (hb hby at_68) rfl zk) ?_
      refine own_st (fun zw zk => XS.lload X51.here hx rfl (hb hby at_70) rfl zk) ?_
      obtain ⟨_, _, ⟨T52, L52, k52, n52⟩, -, X52, ⟨Lc52, hQ52, l52, y52, z52⟩, st52⟩ := Jvm.LawKit.callS X51 hx (y := (⟨"com/example/attestrum/attestrum/schemes/ec/P256FieldSelectPinLaw", "fill", "([JJJ)V"⟩ : MethodName)) hown (mvT hZ (hw _ (List.mem_of_getElem? (i := 1) rfl))) (mvT hZ (hw _ (List.mem_of_getElem? (i := 2) rfl))) (mvT hZ (hw _ (List.mem_of_getElem? (i := 3) rfl))) (mvT hZ (hw _ (List.mem_of_getElem? (i := 4) rfl))) (by decide) (backOf (W := 0) (rm1 l Z a0 hw [] b48 q2 q3 T51.heap n0 Z51 (Vb48_51) (G48)) hZ (hw _ (List.mem_of_getElem? (i := 4) rfl)) (hw _ (List.mem_of_getElem? (i := 3) rfl)) (by decide) (by decide)) (g := (mkF m 72 #[.val (.long q0), .second, .val (.long q1), .second, .val (.long q2), .second, .val (.long q3), .second, .val (.int p4), .val (.int (1 : Int32)), .val (.int (0 : Int32)), .val (.ref b46), .val (.ref b47), .val (.ref b48), .val (.ref b49), .unset, .unset, .unset] [(.long q3), (.long q2), (.ref b48)])) rfl (by rw [hml]; rfl) (argsL := [(.ref b48), (.long q2), (.long q3)]) (rest := []) (lenOf pd_0 rfl) rfl (by show 2 * 0 + _ ≤ _; exact Nat.le_of_eq rfl) (hb hby at_72) (fun _ _ => ⟨rfl, rfl, (by decide : 4 + 0 ≤ _), (by decide : 32 + 0 ≤ _)⟩)
      dsimp only [Pt.U, Pt.locs, Pt.cells, Pt.slots] at X52 l52 y52 z52 st52 hQ52
      subst l52 y52 z52
      obtain ⟨rfl, N52q, K52, O52_0⟩ := hQ52
      have Vb49_52 := Vb49_51.keep K52 (ninS (Ne.symm ne_b48_b49) nin0)
      have Ob46L_52 := Ob46L_51.keep K52 (ninS ne_b46_b48 nin0)
      have Ob47L_52 := O51_0.keep K52 (ninS ne_b47_b48 nin0)
      have Z52 : n0 ≤ T52.heap.size := Nat.le_trans Z51 K52.1
      have N52 := Fr.app N51 N52q
      refine own_st (fun zw zk => st52 zw zk) ?_
      refine own_st (fun zw zk => XS.aload X52.here hx rfl (hb hby at_75) rfl rfl zk) ?_
      refine own_st (fun zw zk => XS.lload X52.here hx rfl (hb hby at_77) rfl zk) ?_
      refine own_st (fun zw zk => XS.lload X52.here hx rfl (hb hby at_79) rfl zk) ?_
      obtain ⟨_, _, ⟨T53, L53, k53, n53⟩, -, X53, ⟨Lc53, hQ53, l53, y53, z53⟩, st53⟩ := Jvm.LawKit.callS X52 hx (y := (⟨"com/example/attestrum/attestrum/schemes/ec/P256FieldSelectPinLaw", "fill", "([JJJ)V"⟩ : MethodName)) hown (mvT hZ (hw _ (List.mem_of_getElem? (i := 1) rfl))) (mvT hZ (hw _ (List.mem_of_getElem? (i := 2) rfl))) (mvT hZ (hw _ (List.mem_of_getElem? (i := 3) rfl))) (mvT hZ (hw _ (List.mem_of_getElem? (i := 4) rfl))) (by decide) (backOf (W := 0) (rm1 l Z a0 hw [] b49 q2 q3 T52.heap n0 Z52 (Vb49_52) (G49)) hZ (hw _ (List.mem_of_getElem? (i := 4) rfl)) (hw _ (List.mem_of_getElem? (i := 3) rfl)) (by decide) (by decide)) (g := (mkF m 81 #[.val (.long q0), .second, .val (.long q1), .second, .val (.long q2), .second, .val (.long q3), .second, .val (.int p4), .val (.int (1 : Int32)), .val (.int (0 : Int32)), .val (.ref b46), .val (.ref b47), .val (.ref b48), .val (.ref b49), .unset, .unset, .unset] [(.long q3), (.long q2), (.ref b49)])) rfl (by rw [hml]; rfl) (argsL := [(.ref b49), (.long q2), (.long q3)]) (rest := []) (lenOf pd_0 rfl) rfl (by show 2 * 0 + _ ≤ _; exact Nat.le_of_eq rfl) (hb hby at_81) (fun _ _ => ⟨rfl, rfl, (by decide : 4 + 0 ≤ _), (by decide : 32 + 0 ≤ _)⟩)
      dsimp only [Pt.U, Pt.locs, Pt.cells, Pt.slots] at X53 l53 y53 z53 st53 hQ53
      subst l53 y53 z53
      obtain ⟨rfl, N53q, K53, O53_0⟩ := hQ53
      have Ob46L_53 := Ob46L_52.keep K53 (ninS ne_b46_b49 nin0)
      have Ob47L_53 := Ob47L_52.keep K53 (ninS ne_b47_b49 nin0)
      have Ob48L_53 := O52_0.keep K53 (ninS ne_b48_b49 nin0)
      have Z53 : n0 ≤ T53.heap.size := Nat.le_trans Z52 K53.1
      have N53 := Fr.app N52 N53q
      refine own_st (fun zw zk => st53 zw zk) ?_
      show own_Go p e below G (T53.setTop (mkF m 84 #[.val (.long q0), .second, .val (.long q1), .second, .val (.long q2), .second, .val (.long q3), .second, .val (.int p4), .val (.int (1 : Int32)), .val (.int (0 : Int32)), .val (.ref b46), .val (.ref b47), .val (.ref b48), .val (.ref b49), .unset, .unset, .unset] []))
      refine own_st (fun zw zk => XS.iload X53.here hx rfl (hb hby at_84) rfl zk) ?_
      refine own_st (fun zw zk => XS.ifNo X53.here hx rfl (hb hby at_86) rfl ((if0 _ _).trans (feq (by decide : ¬ ((1 : Int32) = (0 : Int32)))).1) zk) ?_
      refine own_st (fun zw zk => X53.ldc2Long hx hown (mvT hZ (hw _ (List.mem_of_getElem? (i := 6) rfl))) (g := (mkF m 89 #[.val (.long q0), .second, .val (.long q1), .second, .val (.long q2), .second, .val (.long q3), .second, .val (.int p4), .val (.int (1 : Int32)), .val (.int (0 : Int32)), .val (.ref b46), .val (.ref b47), .val (.ref b48), .val (.ref b49), .unset, .unset, .unset] [])) rfl (hb hby at_89) _ zk) ?_
      refine own_st (fun zw zk => XS.goto X53.here hx rfl (pc0 := 92) (pc' := 96) rfl (hb hby at_92) (by decide) (by decide) zk) ?_
      show own_Go p e below G (T53.setTop (mkF m 96 #[.val (.long q0), .second, .val (.long q1), .second, .val (.long q2), .second, .val (.long q3), .second, .val (.int p4), .val (.int (1 : Int32)), .val (.int (0 : Int32)), .val (.ref b46), .val (.ref b47), .val (.ref b48), .val (.ref b49), .unset, .unset, .unset] [(.long (-1 : Int64))]))
      refine own_st (fun zw zk => XS.lstore X53.here hx rfl (hb hby at_96) rfl rfl zk) ?_
      show own_Go p e below G (T53.setTop (mkF m 98 #[.val (.long q0), .second, .val (.long q1), .second, .val (.long q2), .second, .val (.long q3), .second, .val (.int p4), .val (.int (1 : Int32)), .val (.int (0 : Int32)), .val (.ref b46), .val (.ref b47), .val (.ref b48), .val (.ref b49), .val (.long (-1 : Int64)), .second, .unset] []))
      refine own_st (fun zw zk => XS.iload X53.here hx rfl (hb hby at_98) rfl zk) ?_
      refine own_st (fun zw zk => XS.ifYes X53.here hx rfl (pc0 := 100) (pc' := 120) rfl (hb hby at_100) rfl ((if0 _ _).trans (teq (by decide : (0 : Int32) = (0 : Int32))).1) (by decide) (by decide) zk) ?_
      refine own_st (fun zw zk => XS.aload X53.here hx rfl (hb hby at_120) rfl rfl zk) ?_
      refine own_st (fun zw zk => XS.aload X53.here hx rfl (hb hby at_122) rfl rfl zk) ?_
      refine own_st (fun zw zk => XS.lload X53.here hx rfl (hb hby at_124) rfl zk) ?_
      obtain ⟨_, _, ⟨T54, L54, k54, n54⟩, -, X54, ⟨Lc54, hQ54, l54, y54, z54⟩, st54⟩ := Jvm.LawKit.callS X53 hx (y := (⟨"com/example/attestrum/attestrum/schemes/ec/P256Field", "select", "([J[JJ)V"⟩ : MethodName)) hown (mvT hZ (hw _ (List.mem_of_getElem? (i := 7) rfl))) (mvT hZ (hw _ (List.mem_of_getElem? (i := 8) rfl))) (mvT hZ (hw _ (List.mem_of_getElem? (i := 9) rfl))) (mvT hZ (hw _ (List.mem_of_getElem? (i := 10) rfl))) (by decide) (backOf (W := 0) (rm2 l Z a0 hw [] b46 b48 (-1 : Int64) (q0 &&& (4294967295 : Int64)) ((q0.toUInt64 >>> ((32 : Int32) &&& 0x3f).toInt64.toUInt64).toInt64) (q1 &&& (4294967295 : Int64)) ((q1.toUInt64 >>> ((32 : Int32) &&& 0x3f).toInt64.toUInt64).toInt64) ((q0 ^^^ q1) &&& (4294967295 : Int64)) (((q0 ^^^ q1).toUInt64 >>> ((32 : Int32) &&& 0x3f).toInt64.toUInt64).toInt64) ((q0 + q1) &&& (4294967295 : Int64)) (((q0 + q1).toUInt64 >>> ((32 : Int32) &&& 0x3f).toInt64.toUInt64).toInt64) (q2 &&& (4294967295 : Int64)) ((q2.toUInt64 >>> ((32 : Int32) &&& 0x3f).toInt64.toUInt64).toInt64) (q3 &&& (4294967295 : Int64)) ((q3.toUInt64 >>> ((32 : Int32) &&& 0x3f).toInt64.toUInt64).toInt64) ((q2 ^^^ q3) &&& (4294967295 : Int64)) (((q2 ^^^ q3).toUInt64 >>> ((32 : Int32) &&& 0x3f).toInt64.toUInt64).toInt64) ((q2 + q3) &&& (4294967295 : Int64)) (((q2 + q3).toUInt64 >>> ((32 : Int32) &&& 0x3f).toInt64.toUInt64).toInt64) T53.heap n0 Z53 (Ob46L_53) (Ob48L_53) (G46) (ne_b46_b48)) hZ (hw _ (List.mem_of_getElem? (i := 10) rfl)) (hw _ (List.mem_of_getElem? (i := 9) rfl)) (by decide) (by decide)) (g := (mkF m 126 #[.val (.long q0), .second, .val (.long q1), .second, .val (.long q2), .second, .val (.long q3), .second, .val (.int p4), .val (.int (1 : Int32)), .val (.int (0 : Int32)), .val (.ref b46), .val (.ref b47), .val (.ref b48), .val (.ref b49), .val (.long (-1 : Int64)), .second, .unset] [(.long (-1 : Int64)), (.ref b48), (.ref b46)])) rfl (by rw [hml]; rfl) (argsL := [(.ref b46), (.ref b48), (.long (-1 : Int64))]) (rest := []) (lenOf pd_1 rfl) rfl (by show 2 * 0 + _ ≤ _; exact Nat.le_of_eq rfl) (hb hby at_126) (fun _ _ => ⟨rfl, rfl, (by decide : 4 + 0 ≤ _), (by decide : 32 + 0 ≤ _)⟩)
      dsimp only [Pt.U, Pt.locs, Pt.cells, Pt.slots] at X54 l54 y54 z54 st54 hQ54
      subst l54 y54 z54
      obtain ⟨rfl, N54q, K54, O54_0⟩ := hQ54
      have Ob47L_54 := Ob47L_53.keep K54 (ninS (Ne.symm ne_b46_b47) nin0)
      have Ob48L_54 := Ob48L_53.keep K54 (ninS (Ne.symm ne_b46_b48) nin0)
      have Ob49L_54 := O53_0.keep K54 (ninS (Ne.symm ne_b46_b49) nin0)
      have Z54 : n0 ≤ T54.heap.size := Nat.le_trans Z53 K54.1
      have N54 := Fr.app N53 N54q
      refine own_st (fun zw zk => st54 zw zk) ?_
      refine own_st (fun zw zk => XS.iload X54.here hx rfl (hb hby at_129) rfl zk) ?_
      refine own_st (fun zw zk => XS.ifNo X54.here hx rfl (hb hby at_131) rfl ((if0 _ _).trans (feq (by decide : ¬ ((1 : Int32) = (0 : Int32)))).1) zk) ?_
      show own_Go p e below G (T54.setTop (mkF m 134 #[.val (.long q0), .second, .val (.long q1), .second, .val (.long q2), .second, .val (.long q3), .second, .val (.int p4), .val (.int (1 : Int32)), .val (.int (0 : Int32)), .val (.ref b46), .val (.ref b47), .val (.ref b48), .val (.ref b49), .val (.long (-1 : Int64)), .second, .unset] []))
      refine own_st (fun zw zk => XS.aload X54.here hx rfl (hb hby at_134) rfl rfl zk) ?_
      refine own_st (fun zw zk => XS.goto X54.here hx rfl (pc0 := 136) (pc' := 141) rfl (hb hby at_136) (by decide) (by decide) zk) ?_
      show own_Go p e below G (T54.setTop (mkF m 141 #[.val (.long q0), .second, .val (.long q1), .second, .val (.long q2), .second, .val (.long q3), .second, .val (.int p4), .val (.int (1 : Int32)), .val (.int (0 : Int32)), .val (.ref b46), .val (.ref b47), .val (.ref b48), .val (.ref b49), .val (.long (-1 : Int64)), .second, .unset] [(.ref b49)]))
      refine own_st (fun zw zk => XS.astore X54.here hx rfl (hb hby at_141) rfl rfl rfl zk) ?_
      show own_Go p e below G (T54.setTop (mkF m 143 #[.val (.long q0), .second, .val (.long q1), .second, .val (.long q2), .second, .val (.long q3), .second, .val (.int p4), .val (.int (1 : Int32)), .val (.int (0 : Int32)), .val (.ref b46), .val (.ref b47), .val (.ref b48), .val (.ref b49), .val (.long (-1 : Int64)), .second, .val (.ref b49)] []))
      refine own_st (fun zw zk => XS.aload X54.here hx rfl (hb hby at_143) rfl rfl zk) ?_
      refine own_st (fun zw zk => XS.aload X54.here hx rfl (hb hby at_145) rfl rfl zk) ?_
      obtain ⟨_, _, ⟨T55, L55, k55, n55⟩, -, X55, ⟨Lc55, hQ55, l55, y55, z55⟩, st55⟩ := Jvm.LawKit.callS X54 hx (y := (⟨"com/example/attestrum/attestrum/schemes/ec/P256FieldSelectPinLaw", "same", "([J[J)Z"⟩ : MethodName)) hown (mvT hZ (hw _ (List.mem_of_getElem? (i := 11) rfl))) (mvT hZ (hw _ (List.mem_of_getElem? (i := 12) rfl))) (mvT hZ (hw _ (List.mem_of_getElem? (i := 3) rfl))) (mvT hZ (hw _ (List.mem_of_getElem? (i := 13) rfl))) (by decide) (backOf (W := 0) (rm3 l Z a0 hw [] b46 b49 ((q0 &&& (4294967295 : Int64)) ^^^ (((q0 &&& (4294967295 : Int64)) ^^^ (q2 &&& (4294967295 : Int64))) &&& (-1 : Int64))) (((q0.toUInt64 >>> ((32 : Int32) &&& 0x3f).toInt64.toUInt64).toInt64) ^^^ ((((q0.toUInt64 >>> ((32 : Int32) &&& 0x3f).toInt64.toUInt64).toInt64) ^^^ ((q2.toUInt64 >>> ((32 : Int32) &&& 0x3f).toInt64.toUInt64).toInt64)) &&& (-1 : Int64))) ((q1 &&& (4294967295 : Int64)) ^^^ (((q1 &&& (4294967295 : Int64)) ^^^ (q3 &&& (4294967295 : Int64))) &&& (-1 : Int64))) (((q1.toUInt64 >>> ((32 : Int32) &&& 0x3f).toInt64.toUInt64).toInt64) ^^^ ((((q1.toUInt64 >>> ((32 : Int32) &&& 0x3f).toInt64.toUInt64).toInt64) ^^^ ((q3.toUInt64 >>> ((32 : Int32) &&& 0x3f).toInt64.toUInt64).toInt64)) &&& (-1 : Int64))) (((q0 ^^^ q1) &&& (4294967295 : Int64)) ^^^ ((((q0 ^^^ q1) &&& (4294967295 : Int64)) ^^^ ((q2 ^^^ q3) &&& (4294967295 : Int64))) &&& (-1 : Int64))) ((((q0 ^^^ q1).toUInt64 >>> ((32 : Int32) &&& 0x3f).toInt64.toUInt64).toInt64) ^^^ (((((q0 ^^^ q1).toUInt64 >>> ((32 : Int32) &&& 0x3f).toInt64.toUInt64).toInt64) ^^^ (((q2 ^^^ q3).toUInt64 >>> ((32 : Int32) &&& 0x3f).toInt64.toUInt64).toInt64)) &&& (-1 : Int64))) (((q0 + q1) &&& (4294967295 : Int64)) ^^^ ((((q0 + q1) &&& (4294967295 : Int64)) ^^^ ((q2 + q3) &&& (4294967295 : Int64))) &&& (-1 : Int64))) ((((q0 + q1).toUInt64 >>> ((32 : Int32) &&& 0x3f).toInt64.toUInt64).toInt64) ^^^ (((((q0 + q1).toUInt64 >>> ((32 : Int32) &&& 0x3f).toInt64.toUInt64).toInt64) ^^^ (((q2 + q3).toUInt64 >>> ((32 : Int32) &&& 0x3f).toInt64.toUInt64).toInt64)) &&& (-1 : Int64))) (q2 &&& (4294967295 : Int64)) ((q2.toUInt64 >>> ((32 : Int32) &&& 0x3f).toInt64.toUInt64).toInt64) (q3 &&& (4294967295 : Int64)) ((q3.toUInt64 >>> ((32 : Int32) &&& 0x3f).toInt64.toUInt64).toInt64) ((q2 ^^^ q3) &&& (4294967295 : Int64)) (((q2 ^^^ q3).toUInt64 >>> ((32 : Int32) &&& 0x3f).toInt64.toUInt64).toInt64) ((q2 + q3) &&& (4294967295 : Int64)) (((q2 + q3).toUInt64 >>> ((32 : Int32) &&& 0x3f).toInt64.toUInt64).toInt64) T54.heap n0 Z54 (O54_0) (Ob49L_54)) hZ (hw _ (List.mem_of_getElem? (i := 13) rfl)) (hw _ (List.mem_of_getElem? (i := 3) rfl)) (by decide) (by decide)) (g := (mkF m 147 #[.val (.long q0), .second, .val (.long q1), .second, .val (.long q2), .second, .val (.long q3), .second, .val (.int p4), .val (.int (1 : Int32)), .val (.int (0 : Int32)), .val (.ref b46), .val (.ref b47), .val (.ref b48), .val (.ref b49), .val (.long (-1 : Int64)), .second, .val (.ref b49)] [(.ref b49), (.ref b46)])) rfl (by rw [hml]; rfl) (argsL := [(.ref b46), (.ref b49)]) (rest := []) (lenOf pd_2 rfl) rfl (by show 2 * 0 + _ ≤ _; exact Nat.le_of_eq rfl) (hb hby at_147) (fun _ _ => ⟨rfl, rfl, (by decide : 4 + 0 ≤ _), (by decide : 32 + 0 ≤ _)⟩)
      dsimp only [Pt.U, Pt.locs, Pt.cells, Pt.slots] at X55 l55 y55 z55 st55 hQ55
      subst l55 y55 z55
      obtain ⟨rfl, N55q, e55⟩ := hQ55
      have N55 := Fr.app N54 N55q
      refine own_st (fun zw zk => st55 zw zk) ?_
      have hc150 : ¬ ((own_same ((q0 &&& (4294967295 : Int64)) ^^^ (((q0 &&& (4294967295 : Int64)) ^^^ (q2 &&& (4294967295 : Int64))) &&& (-1 : Int64))) (((q0.toUInt64 >>> ((32 : Int32) &&& 0x3f).toInt64.toUInt64).toInt64) ^^^ ((((q0.toUInt64 >>> ((32 : Int32) &&& 0x3f).toInt64.toUInt64).toInt64) ^^^ ((q2.toUInt64 >>> ((32 : Int32) &&& 0x3f).toInt64.toUInt64).toInt64)) &&& (-1 : Int64))) ((q1 &&& (4294967295 : Int64)) ^^^ (((q1 &&& (4294967295 : Int64)) ^^^ (q3 &&& (4294967295 : Int64))) &&& (-1 : Int64))) (((q1.toUInt64 >>> ((32 : Int32) &&& 0x3f).toInt64.toUInt64).toInt64) ^^^ ((((q1.toUInt64 >>> ((32 : Int32) &&& 0x3f).toInt64.toUInt64).toInt64) ^^^ ((q3.toUInt64 >>> ((32 : Int32) &&& 0x3f).toInt64.toUInt64).toInt64)) &&& (-1 : Int64))) (((q0 ^^^ q1) &&& (4294967295 : Int64)) ^^^ ((((q0 ^^^ q1) &&& (4294967295 : Int64)) ^^^ ((q2 ^^^ q3) &&& (4294967295 : Int64))) &&& (-1 : Int64))) ((((q0 ^^^ q1).toUInt64 >>> ((32 : Int32) &&& 0x3f).toInt64.toUInt64).toInt64) ^^^ (((((q0 ^^^ q1).toUInt64 >>> ((32 : Int32) &&& 0x3f).toInt64.toUInt64).toInt64) ^^^ (((q2 ^^^ q3).toUInt64 >>> ((32 : Int32) &&& 0x3f).toInt64.toUInt64).toInt64)) &&& (-1 : Int64))) (((q0 + q1) &&& (4294967295 : Int64)) ^^^ ((((q0 + q1) &&& (4294967295 : Int64)) ^^^ ((q2 + q3) &&& (4294967295 : Int64))) &&& (-1 : Int64))) ((((q0 + q1).toUInt64 >>> ((32 : Int32) &&& 0x3f).toInt64.toUInt64).toInt64) ^^^ (((((q0 + q1).toUInt64 >>> ((32 : Int32) &&& 0x3f).toInt64.toUInt64).toInt64) ^^^ (((q2 + q3).toUInt64 >>> ((32 : Int32) &&& 0x3f).toInt64.toUInt64).toInt64)) &&& (-1 : Int64))) (q2 &&& (4294967295 : Int64)) ((q2.toUInt64 >>> ((32 : Int32) &&& 0x3f).toInt64.toUInt64).toInt64) (q3 &&& (4294967295 : Int64)) ((q3.toUInt64 >>> ((32 : Int32) &&& 0x3f).toInt64.toUInt64).toInt64) ((q2 ^^^ q3) &&& (4294967295 : Int64)) (((q2 ^^^ q3).toUInt64 >>> ((32 : Int32) &&& 0x3f).toInt64.toUInt64).toInt64) ((q2 + q3) &&& (4294967295 : Int64)) (((q2 + q3).toUInt64 >>> ((32 : Int32) &&& 0x3f).toInt64.toUInt64).toInt64)) = (0 : Int32)) := fun q => absurd (q.symm.trans (by simp only [own_selA, own_sel1, own_sel0]; exact own_same1 _ _ _ _ _ _ _ _)) (by decide : ¬ ((0 : Int32) = 1))
      refine own_st (fun zw zk => XS.ifNo X55.here hx rfl (hb hby at_150) rfl ((if0 _ _).trans (feq hc150).1) zk) ?_
      refine own_st (fun zw zk => XS.aload X55.here hx rfl (hb hby at_153) rfl rfl zk) ?_
      refine own_st (fun zw zk => XS.aload X55.here hx rfl (hb hby at_155) rfl rfl zk) ?_
      obtain ⟨_, _, ⟨T56, L56, k56, n56⟩, -, X56, ⟨Lc56, hQ56, l56, y56, z56⟩, st56⟩ := Jvm.LawKit.callS X55 hx (y := (⟨"com/example/attestrum/attestrum/schemes/ec/P256FieldSelectPinLaw", "same", "([J[J)Z"⟩ : MethodName)) hown (mvT hZ (hw _ (List.mem_of_getElem? (i := 11) rfl))) (mvT hZ (hw _ (List.mem_of_getElem? (i := 12) rfl))) (mvT hZ (hw _ (List.mem_of_getElem? (i := 3) rfl))) (mvT hZ (hw _ (List.mem_of_getElem? (i := 13) rfl))) (by decide) (backOf (W := 0) (rm3 l Z a0 hw [] b48 b49 (q2 &&& (4294967295 : Int64)) ((q2.toUInt64 >>> ((32 : Int32) &&& 0x3f).toInt64.toUInt64).toInt64) (q3 &&& (4294967295 : Int64)) ((q3.toUInt64 >>> ((32 : Int32) &&& 0x3f).toInt64.toUInt64).toInt64) ((q2 ^^^ q3) &&& (4294967295 : Int64)) (((q2 ^^^ q3).toUInt64 >>> ((32 : Int32) &&& 0x3f).toInt64.toUInt64).toInt64) ((q2 + q3) &&& (4294967295 : Int64)) (((q2 + q3).toUInt64 >>> ((32 : Int32) &&& 0x3f).toInt64.toUInt64).toInt64) (q2 &&& (4294967295 : Int64)) ((q2.toUInt64 >>> ((32 : Int32) &&& 0x3f).toInt64.toUInt64).toInt64) (q3 &&& (4294967295 : Int64)) ((q3.toUInt64 >>> ((32 : Int32) &&& 0x3f).toInt64.toUInt64).toInt64) ((q2 ^^^ q3) &&& (4294967295 : Int64)) (((q2 ^^^ q3).toUInt64 >>> ((32 : Int32) &&& 0x3f).toInt64.toUInt64).toInt64) ((q2 + q3) &&& (4294967295 : Int64)) (((q2 + q3).toUInt64 >>> ((32 : Int32) &&& 0x3f).toInt64.toUInt64).toInt64) T54.heap n0 Z54 (Ob48L_54) (Ob49L_54)) hZ (hw _ (List.mem_of_getElem? (i := 13) rfl)) (hw _ (List.mem_of_getElem? (i := 3) rfl)) (by decide) (by decide)) (g := (mkF m 157 #[.val (.long q0), .second, .val (.long q1), .second, .val (.long q2), .second, .val (.long q3), .second, .val (.int p4), .val (.int (1 : Int32)), .val (.int (0 : Int32)), .val (.ref b46), .val (.ref b47), .val (.ref b48), .val (.ref b49), .val (.long (-1 : Int64)), .second, .val (.ref b49)] [(.ref b49), (.ref b48)])) rfl (by rw [hml]; rfl) (argsL := [(.ref b48), (.ref b49)]) (rest := []) (lenOf pd_2 rfl) rfl (by show 2 * 0 + _ ≤ _; exact Nat.le_of_eq rfl) (hb hby at_157) (fun _ _ => ⟨rfl, e55, (by decide : 4 + 0 ≤ _), (by decide : 32 + 0 ≤ _)⟩)
      dsimp only [Pt.U, Pt.locs, Pt.cells, Pt.slots] at X56 l56 y56 z56 st56 hQ56
      subst l56 y56 z56
      obtain ⟨rfl, N56q, e56⟩ := hQ56
      have N56 := Fr.app N55 N56q
      refine own_st (fun zw zk => st56 zw zk) ?_
      have hc160 : ¬ ((own_same (q2 &&& (4294967295 : Int64)) ((q2.toUInt64 >>> ((32 : Int32) &&& 0x3f).toInt64.toUInt64).toInt64) (q3 &&& (4294967295 : Int64)) ((q3.toUInt64 >>> ((32 : Int32) &&& 0x3f).toInt64.toUInt64).toInt64) ((q2 ^^^ q3) &&& (4294967295 : Int64)) (((q2 ^^^ q3).toUInt64 >>> ((32 : Int32) &&& 0x3f).toInt64.toUInt64).toInt64) ((q2 + q3) &&& (4294967295 : Int64)) (((q2 + q3).toUInt64 >>> ((32 : Int32) &&& 0x3f).toInt64.toUInt64).toInt64) (q2 &&& (4294967295 : Int64)) ((q2.toUInt64 >>> ((32 : Int32) &&& 0x3f).toInt64.toUInt64).toInt64) (q3 &&& (4294967295 : Int64)) ((q3.toUInt64 >>> ((32 : Int32) &&& 0x3f).toInt64.toUInt64).toInt64) ((q2 ^^^ q3) &&& (4294967295 : Int64)) (((q2 ^^^ q3).toUInt64 >>> ((32 : Int32) &&& 0x3f).toInt64.toUInt64).toInt64) ((q2 + q3) &&& (4294967295 : Int64)) (((q2 + q3).toUInt64 >>> ((32 : Int32) &&& 0x3f).toInt64.toUInt64).toInt64)) = (0 : Int32)) := fun q => absurd (q.symm.trans (own_same1 _ _ _ _ _ _ _ _)) (by decide : ¬ ((0 : Int32) = 1))
      refine own_st (fun zw zk => XS.ifNo X56.here hx rfl (hb hby at_160) rfl ((if0 _ _).trans (feq hc160).1) zk) ?_
      show own_Go p e below G (T56.setTop (mkF m 163 #[.val (.long q0), .second, .val (.long q1), .second, .val (.long q2), .second, .val (.long q3), .second, .val (.int p4), .val (.int (1 : Int32)), .val (.int (0 : Int32)), .val (.ref b46), .val (.ref b47), .val (.ref b48), .val (.ref b49), .val (.long (-1 : Int64)), .second, .val (.ref b49)] []))
      refine own_st (fun zw zk => XS.iconst X56.here hx rfl (hb hby at_163) zk) ?_
      refine own_st (fun zw zk => XS.goto X56.here hx rfl (pc0 := 164) (pc' := 168) rfl (hb hby at_164) (by decide) (by decide) zk) ?_
      show own_Go p e below G (T56.setTop (mkF m 168 #[.val (.long q0), .second, .val (.long q1), .second, .val (.long q2), .second, .val (.long q3), .second, .val (.int p4), .val (.int (1 : Int32)), .val (.int (0 : Int32)), .val (.ref b46), .val (.ref b47), .val (.ref b48), .val (.ref b49), .val (.long (-1 : Int64)), .second, .val (.ref b49)] [(.int (1 : Int32))]))
      subst hG
      obtain ⟨fs, hr, hrun, hended, hW, hsame⟩ := X56.leave (v := some (.int (1 : Int32))) (fun h => by rw [Bd.returns] at h; cases h)
      refine ⟨_, retN X56 hx (t := .boolean) Bd.returns (by simp) (hb hby at_168) hr, _, hrun, hended, _, _, rfl, ?_, ⟨_, rfl⟩, hW, hsame.mono (by decide) (by decide)⟩
      show Q0 Z q0 q1 q2 q3 p4 h0 n0 _ T56.heap _
      rw [e56]
      exact ⟨rfl, N56⟩
    · refine own_st (fun zw zk => XS.ifNo X0.here hx rfl (hb hby at_18) rfl ((if0 _ _).trans (feq hc18).1) zk) ?_
      refine own_st (fun zw zk => XS.iconst X0.here hx rfl (hb hby at_21) zk) ?_
      refine own_st (fun zw zk => XS.goto X0.here hx rfl (pc0 := 22) (pc' := 26) rfl (hb hby at_22) (by decide) (by decide) zk) ?_
      show own_Go p e below G (s₁.setTop (mkF m 26 #[.val (.long q0), .second, .val (.long q1), .second, .val (.long q2), .second, .val (.long q3), .second, .val (.int p4), .val (.int (1 : Int32)), .unset, .unset, .unset, .unset, .unset, .unset, .unset, .unset] [(.int (1 : Int32))]))
      refine own_st (fun zw zk => XS.istore X0.here hx rfl (hb hby at_26) rfl rfl zk) ?_
      show own_Go p e below G (s₁.setTop (mkF m 28 #[.val (.long q0), .second, .val (.long q1), .second, .val (.long q2), .second, .val (.long q3), .second, .val (.int p4), .val (.int (1 : Int32)), .val (.int (1 : Int32)), .unset, .unset, .unset, .unset, .unset, .unset, .unset] []))
      refine own_st (fun zw zk => XS.bipush X0.here hx rfl (hb hby at_28) zk) ?_
      obtain ⟨T57, h57, k57, X57, e57, E57, A57, st57⟩ := newP X0 hx hZ (hw _ (List.mem_of_getElem? (i := 0) rfl)) e0 (g := (mkF m 30 #[.val (.long q0), .second, .val (.long q1), .second, .val (.long q2), .second, .val (.long q3), .second, .val (.int p4), .val (.int (1 : Int32)), .val (.int (1 : Int32)), .unset, .unset, .unset, .unset, .unset, .unset, .unset] [(.int (8 : Int32))])) rfl (hb hby at_30) rfl (by decide) (cap := 8) (by decide) (by decide) (by decide) (by decide)
      obtain ⟨b57, g57⟩ : ∃ z, z = h0.size := ⟨_, rfl⟩
      rw [← g57] at A57 st57
      have G57 : n0 ≤ b57 := Nat.le_trans Z0 (Nat.le_of_eq g57.symm)
      have Z57 : n0 ≤ h57.size := Nat.le_trans Z0 E57.1
      have V57 : own_L Z h57 b57 .long ([(.long (0 : Int64)), (.long (0 : Int64)), (.long (0 : Int64)), (.long (0 : Int64)), (.long (0 : Int64)), (.long (0 : Int64)), (.long (0 : Int64)), (.long (0 : Int64))]) := own_L.new A57
      refine own_st (fun zw zk => st57 zw zk) ?_
      refine own_st (fun zw zk => XS.astore X57.here hx rfl (hb hby at_32) rfl rfl rfl zk) ?_
      show own_Go p e below G (T57.setTop (mkF m 34 #[.val (.long q0), .second, .val (.long q1), .second, .val (.long q2), .second, .val (.long q3), .second, .val (.int p4), .val (.int (1 : Int32)), .val (.int (1 : Int32)), .val (.ref b57), .unset, .unset, .unset, .unset, .unset, .unset] []))
      refine own_st (fun zw zk => XS.bipush X57.here hx rfl (hb hby at_34) zk) ?_
      obtain ⟨T58, h58, k58, X58, e58, E58, A58, st58⟩ := newP X57 hx hZ (hw _ (List.mem_of_getElem? (i := 0) rfl)) e57 (g := (mkF m 36 #[.val (.long q0), .second, .val (.long q1), .second, .val (.long q2), .second, .val (.long q3), .second, .val (.int p4), .val (.int (1 : Int32)), .val (.int (1 : Int32)), .val (.ref b57), .unset, .unset, .unset, .unset, .unset, .unset] [(.int (8 : Int32))])) rfl (hb hby at_36) rfl (by decide) (cap := 8) (by decide) (by decide) (by decide) (by decide)
      obtain ⟨b58, g58⟩ : ∃ z, z = h57.size := ⟨_, rfl⟩
      rw [← g58] at A58 st58
      have G58 : n0 ≤ b58 := Nat.le_trans Z57 (Nat.le_of_eq g58.symm)
      have ne_b57_b58 : b57 ≠ b58 := Nat.ne_of_lt (Nat.lt_of_lt_of_le V57.lt (Nat.le_of_eq g58.symm))
      have Vb57_58 := V57.ext E58
      have Z58 : n0 ≤ h58.size := Nat.le_trans Z57 E58.1
      have V58 : own_L Z h58 b58 .long ([(.long (0 : Int64)), (.long (0 : Int64)), (.long (0 : Int64)), (.long (0 : Int64)), (.long (0 : Int64)), (.long (0 : Int64)), (.long (0 : Int64)), (.long (0 : Int64))]) := own_L.new A58
      refine own_st (fun zw zk => st58 zw zk) ?_
      refine own_st (fun zw zk => XS.astore X58.here hx rfl (hb hby at_38) rfl rfl rfl zk) ?_
      show own_Go p e below G (T58.setTop (mkF m 40 #[.val (.long q0), .second, .val (.long q1), .second, .val (.long q2), .second, .val (.long q3), .second, .val (.int p4), .val (.int (1 : Int32)), .val (.int (1 : Int32)), .val (.ref b57), .val (.ref b58), .unset, .unset, .unset, .unset, .unset] []))
      refine own_st (fun zw zk => XS.bipush X58.here hx rfl (hb hby at_40) zk) ?_
      obtain ⟨T59, h59, k59, X59, e59, E59, A59, st59⟩ := newP X58 hx hZ (hw _ (List.mem_of_getElem? (i := 0) rfl)) e58 (g := (mkF m 42 #[.val (.long q0), .second, .val (.long q1), .second, .val (.long q2), .second, .val (.long q3), .second, .val (.int p4), .val (.int (1 : Int32)), .val (.int (1 : Int32)), .val (.ref b57), .val (.ref b58), .unset, .unset, .unset, .unset, .unset] [(.int (8 : Int32))])) rfl (hb hby at_42) rfl (by decide) (cap := 8) (by decide) (by decide) (by decide) (by decide)
      obtain ⟨b59, g59⟩ : ∃ z, z = h58.size := ⟨_, rfl⟩
      rw [← g59] at A59 st59
      have G59 : n0 ≤ b59 := Nat.le_trans Z58 (Nat.le_of_eq g59.symm)
      have ne_b57_b59 : b57 ≠ b59 := Nat.ne_of_lt (Nat.lt_of_lt_of_le Vb57_58.lt (Nat.le_of_eq g59.symm))
      have ne_b58_b59 : b58 ≠ b59 := Nat.ne_of_lt (Nat.lt_of_lt_of_le V58.lt (Nat.le_of_eq g59.symm))
      have Vb57_59 := Vb57_58.ext E59
      have Vb58_59 := V58.ext E59
      have Z59 : n0 ≤ h59.size := Nat.le_trans Z58 E59.1
      have V59 : own_L Z h59 b59 .long ([(.long (0 : Int64)), (.long (0 : Int64)), (.long (0 : Int64)), (.long (0 : Int64)), (.long (0 : Int64)), (.long (0 : Int64)), (.long (0 : Int64)), (.long (0 : Int64))]) := own_L.new A59
      refine own_st (fun zw zk => st59 zw zk) ?_
      refine own_st (fun zw zk => XS.astore X59.here hx rfl (hb hby at_44) rfl rfl rfl zk) ?_
      show own_Go p e below G (T59.setTop (mkF m 46 #[.val (.long q0), .second, .val (.long q1), .second, .val (.long q2), .second, .val (.long q3), .second, .val (.int p4), .val (.int (1 : Int32)), .val (.int (1 : Int32)), .val (.ref b57), .val (.ref b58), .val (.ref b59), .unset, .unset, .unset, .unset] []))
      refine own_st (fun zw zk => XS.bipush X59.here hx rfl (hb hby at_46) zk) ?_
      obtain ⟨T60, h60, k60, X60, e60, E60, A60, st60⟩ := newP X59 hx hZ (hw _ (List.mem_of_getElem? (i := 0) rfl)) e59 (g := (mkF m 48 #[.val (.long q0), .second, .val (.long q1), .second, .val (.long q2), .second, .val (.long q3), .second, .val (.int p4), .val (.int (1 : Int32)), .val (.int (1 : Int32)), .val (.ref b57), .val (.ref b58), .val (.ref b59), .unset, .unset, .unset, .unset] [(.int (8 : Int32))])) rfl (hb hby at_48) rfl (by decide) (cap := 8) (by decide) (by decide) (by decide) (by decide)
      obtain ⟨b60, g60⟩ : ∃ z, z = h59.size := ⟨_, rfl⟩
      rw [← g60] at A60 st60
      have G60 : n0 ≤ b60 := Nat.le_trans Z59 (Nat.le_of_eq g60.symm)
      have ne_b57_b60 : b57 ≠ b60 := Nat.ne_of_lt (Nat.lt_of_lt_of_le Vb57_59.lt (Nat.le_of_eq g60.symm))
      have ne_b58_b60 : b58 ≠ b60 := Nat.ne_of_lt (Nat.lt_of_lt_of_le Vb58_59.lt (Nat.le_of_eq g60.symm))
      have ne_b59_b60 : b59 ≠ b60 := Nat.ne_of_lt (Nat.lt_of_lt_of_le V59.lt (Nat.le_of_eq g60.symm))
      have Vb57_60 := Vb57_59.ext E60
      have Vb58_60 := Vb58_59.ext E60
      have Vb59_60 := V59.ext E60
      have Z60 : n0 ≤ h60.size := Nat.le_trans Z59 E60.1
      have V60 : own_L Z h60 b60 .long ([(.long (0 : Int64)), (.long (0 : Int64)), (.long (0 : Int64)), (.long (0 : Int64)), (.long (0 : Int64)), (.long (0 : Int64)), (.long (0 : Int64)), (.long (0 : Int64))]) := own_L.new A60
      refine own_st (fun zw zk => st60 zw zk) ?_
      refine own_st (fun zw zk => XS.astore X60.here hx rfl (hb hby at_50) rfl rfl rfl zk) ?_
      show own_Go p e below G (T60.setTop (mkF m 52 #[.val (.long q0), .second, .val (.long q1), .second, .val (.long q2), .second, .val (.long q3), .second, .val (.int p4), .val (.int (1 : Int32)), .val (.int (1 : Int32)), .val (.ref b57), .val (.ref b58), .val (.ref b59), .val (.ref b60), .unset, .unset, .unset] []))
      refine own_st (fun zw zk => XS.aload X60.here hx rfl (hb hby at_52) rfl rfl zk) ?_
      refine own_st (fun zw zk => XS.lloadN X60.here hx rfl (hb hby at_54) rfl zk) ?_
      refine own_st (fun zw zk => XS.lloadN X60.here hx rfl (hb hby at_55) rfl zk) ?_
      obtain ⟨_, _, ⟨T61, L61, k61, n61⟩, -, X61, ⟨Lc61, hQ61, l61, y61, z61⟩, st61⟩ := Jvm.LawKit.callS X60 hx (y := (⟨"com/example/attestrum/attestrum/schemes/ec/P256FieldSelectPinLaw", "fill", "([JJJ)V"⟩ : MethodName)) hown (mvT hZ (hw _ (List.mem_of_getElem? (i := 1) rfl))) (mvT hZ (hw _ (List.mem_of_getElem? (i := 2) rfl))) (mvT hZ (hw _ (List.mem_of_getElem? (i := 3) rfl))) (mvT hZ (hw _ (List.mem_of_getElem? (i := 4) rfl))) (by decide) (backOf (W := 0) (rm1 l Z a0 hw [] b57 q0 q1 h60 n0 Z60 (Vb57_60) (G57)) hZ (hw _ (List.mem_of_getElem? (i := 4) rfl)) (hw _ (List.mem_of_getElem? (i := 3) rfl)) (by decide) (by decide)) (g := (mkF m 56 #[.val (.long q0), .second, .val (.long q1), .second, .val (.long q2), .second, .val (.long q3), .second, .val (.int p4), .val (.int (1 : Int32)), .val (.int (1 : Int32)), .val (.ref b57), .val (.ref b58), .val (.ref b59), .val (.ref b60), .unset, .unset, .unset] [(.long q1), (.long q0), (.ref b57)])) rfl (by rw [hml]; rfl) (argsL := [(.ref b57), (.long q0), (.long q1)]) (rest := []) (lenOf pd_0 rfl) rfl (by show 2 * 0 + _ ≤ _; exact Nat.le_of_eq rfl) (hb hby at_56) (fun _ _ => ⟨rfl, e60, (by decide : 4 + 0 ≤ _), (by decide : 32 + 0 ≤ _)⟩)
      dsimp only [Pt.U, Pt.locs, Pt.cells, Pt.slots] at X61 l61 y61 z61 st61 hQ61
      subst l61 y61 z61
      obtain ⟨rfl, N61q, K61, O61_0⟩ := hQ61
      have Vb58_61 := Vb58_60.keep K61 (ninS (Ne.symm ne_b57_b58) nin0)
      have Vb59_61 := Vb59_60.keep K61 (ninS (Ne.symm ne_b57_b59) nin0)
      have Vb60_61 := V60.keep K61 (ninS (Ne.symm ne_b57_b60) nin0)
      have Z61 : n0 ≤ T61.heap.size := Nat.le_trans Z60 K61.1
      have N61 := Fr.app N0 N61q
      refine own_st (fun zw zk => st61 zw zk) ?_
      refine own_st (fun zw zk => XS.aload X61.here hx rfl (hb hby at_59) rfl rfl zk) ?_
      refine own_st (fun zw zk => XS.lloadN X61.here hx rfl (hb hby at_61) rfl zk) ?_
      refine own_st (fun zw zk => XS.lloadN X61.here hx rfl (hb hby at_62) rfl zk) ?_
      obtain ⟨_, _, ⟨T62, L62, k62, n62⟩, -, X62, ⟨Lc62, hQ62, l62, y62, z62⟩, st62⟩ := Jvm.LawKit.callS X61 hx (y := (⟨"com/example/attestrum/attestrum/schemes/ec/P256FieldSelectPinLaw", "fill", "([JJJ)V"⟩ : MethodName)) hown (mvT hZ (hw _ (List.mem_of_getElem? (i := 1) rfl))) (mvT hZ (hw _ (List.mem_of_getElem? (i := 2) rfl))) (mvT hZ (hw _ (List.mem_of_getElem? (i := 3) rfl))) (mvT hZ (hw _ (List.mem_of_getElem? (i := 4) rfl))) (by decide) (backOf (W := 0) (rm1 l Z a0 hw [] b58 q0 q1 T61.heap n0 Z61 (Vb58_61) (G58)) hZ (hw _ (List.mem_of_getElem? (i := 4) rfl)) (hw _ (List.mem_of_getElem? (i := 3) rfl)) (by decide) (by decide)) (g := (mkF m 63 #[.val (.long q0), .second, .val (.long q1), .second, .val (.long q2), .second, .val (.long q3), .second, .val (.int p4), .val (.int (1 : Int32)), .val (.int (1 : Int32)), .val (.ref b57), .val (.ref b58), .val (.ref b59), .val (.ref b60), .unset, .unset, .unset] [(.long q1), (.long q0), (.ref b58)])) rfl (by rw [hml]; rfl) (argsL := [(.ref b58), (.long q0), (.long q1)]) (rest := []) (lenOf pd_0 rfl) rfl (by show 2 * 0 + _ ≤ _; exact Nat.le_of_eq rfl) (hb hby at_63) (fun _ _ => ⟨rfl, rfl, (by decide : 4 + 0 ≤ _), (by decide : 32 + 0 ≤ _)⟩)
      dsimp only [Pt.U, Pt.locs, Pt.cells, Pt.slots] at X62 l62 y62 z62 st62 hQ62
      subst l62 y62 z62
      obtain ⟨rfl, N62q, K62, O62_0⟩ := hQ62
      have Vb59_62 := Vb59_61.keep K62 (ninS (Ne.symm ne_b58_b59) nin0)
      have Vb60_62 := Vb60_61.keep K62 (ninS (Ne.symm ne_b58_b60) nin0)
      have Ob57L_62 := O61_0.keep K62 (ninS ne_b57_b58 nin0)
      have Z62 : n0 ≤ T62.heap.size := Nat.le_trans Z61 K62.1
      have N62 := Fr.app N61 N62q
      refine own_st (fun zw zk => st62 zw zk) ?_
      show own_Go p e below G (T62.setTop (mkF m 66 #[.val (.long q0), .second, .val (.long q1), .second, .val (.long q2), .second, .val (.long q3), .second, .val (.int p4), .val (.int (1 : Int32)), .val (.int (1 : Int32)), .val (.ref b57), .val (.ref b58), .val (.ref b59), .val (.ref b60), .unset, .unset, .unset] []))
      refine own_st (fun zw zk => XS.aload X62.here hx rfl (hb hby at_66) rfl rfl zk) ?_
      refine own_st (fun zw zk => XS.lload X62.here hx rfl (hb hby at_68) rfl zk) ?_
      refine own_st (fun zw zk => XS.lload X62.here hx rfl (hb hby at_70) rfl zk) ?_
      obtain ⟨_, _, ⟨T63, L63, k63, n63⟩, -, X63, ⟨Lc63, hQ63, l63, y63, z63⟩, st63⟩ := Jvm.LawKit.callS X62 hx (y := (⟨"com/example/attestrum/attestrum/schemes/ec/P256FieldSelectPinLaw", "fill", "([JJJ)V"⟩ : MethodName)) hown (mvT hZ (hw _ (List.mem_of_getElem? (i := 1) rfl))) (mvT hZ (hw _ (List.mem_of_getElem? (i := 2) rfl))) (mvT hZ (hw _ (List.mem_of_getElem? (i := 3) rfl))) (mvT hZ (hw _ (List.mem_of_getElem? (i := 4) rfl))) (by decide) (backOf (W := 0) (rm1 l Z a0 hw [] b59 q2 q3 T62.heap n0 Z62 (Vb59_62) (G59)) hZ (hw _ (List.mem_of_getElem? (i := 4) rfl)) (hw _ (List.mem_of_getElem? (i := 3) rfl)) (by decide) (by decide)) (g := (mkF m 72 #[.val (.long q0), .second, .val (.long q1), .second, .val (.long q2), .second, .val (.long q3), .second, .val (.int p4), .val (.int (1 : Int32)), .val (.int (1 : Int32)), .val (.ref b57), .val (.ref b58), .val (.ref b59), .val (.ref b60), .unset, .unset, .unset] [(.long q3), (.long q2), (.ref b59)])) rfl (by rw [hml]; rfl) (argsL := [(.ref b59), (.long q2), (.long q3)]) (rest := []) (lenOf pd_0 rfl) rfl (by show 2 * 0 + _ ≤ _; exact Nat.le_of_eq rfl) (hb hby at_72) (fun _ _ => ⟨rfl, rfl, (by decide : 4 + 0 ≤ _), (by decide : 32 + 0 ≤ _)⟩)
      dsimp only [Pt.U, Pt.locs, Pt.cells, Pt.slots] at X63 l63 y63 z63 st63 hQ63
      subst l63 y63 z63
      obtain ⟨rfl, N63q, K63, O63_0⟩ := hQ63
      have Vb60_63 := Vb60_62.keep K63 (ninS (Ne.symm ne_b59_b60) nin0)
      have Ob57L_63 := Ob57L_62.keep K63 (ninS ne_b57_b59 nin0)
      have Ob58L_63 := O62_0.keep K63 (ninS ne_b58_b59 nin0)
      have Z63 : n0 ≤ T63.heap.size := Nat.le_trans Z62 K63.1
      have N63 := Fr.app N62 N63q
      refine own_st (fun zw zk => st63 zw zk) ?_
      refine own_st (fun zw zk => XS.aload X63.here hx rfl (hb hby at_75) rfl rfl zk) ?_
      refine own_st (fun zw zk => XS.lload X63.here hx rfl (hb hby at_77) rfl zk) ?_
      refine own_st (fun zw zk => XS.lload X63.here hx rfl (hb hby at_79) rfl zk) ?_
      obtain ⟨_, _, ⟨T64, L64, k64, n64⟩, -, X64, ⟨Lc64, hQ64, l64, y64, z64⟩, st64⟩ := Jvm.LawKit.callS X63 hx (y := (⟨"com/example/attestrum/attestrum/schemes/ec/P256FieldSelectPinLaw", "fill", "([JJJ)V"⟩ : MethodName)) hown (mvT hZ (hw _ (List.mem_of_getElem? (i := 1) rfl))) (mvT hZ (hw _ (List.mem_of_getElem? (i := 2) rfl))) (mvT hZ (hw _ (List.mem_of_getElem? (i := 3) rfl))) (mvT hZ (hw _ (List.mem_of_getElem? (i := 4) rfl))) (by decide) (backOf (W := 0) (rm1 l Z a0 hw [] b60 q2 q3 T63.heap n0 Z63 (Vb60_63) (G60)) hZ (hw _ (List.mem_of_getElem? (i := 4) rfl)) (hw _ (List.mem_of_getElem? (i := 3) rfl)) (by decide) (by decide)) (g := (mkF m 81 #[.val (.long q0), .second, .val (.long q1), .second, .val (.long q2), .second, .val (.long q3), .second, .val (.int p4), .val (.int (1 : Int32)), .val (.int (1 : Int32)), .val (.ref b57), .val (.ref b58), .val (.ref b59), .val (.ref b60), .unset, .unset, .unset] [(.long q3), (.long q2), (.ref b60)])) rfl (by rw [hml]; rfl) (argsL := [(.ref b60), (.long q2), (.long q3)]) (rest := []) (lenOf pd_0 rfl) rfl (by show 2 * 0 + _ ≤ _; exact Nat.le_of_eq rfl) (hb hby at_81) (fun _ _ => ⟨rfl, rfl, (by decide : 4 + 0 ≤ _), (by decide : 32 + 0 ≤ _)⟩)
      dsimp only [Pt.U, Pt.locs, Pt.cells, Pt.slots] at X64 l64 y64 z64 st64 hQ64
      subst l64 y64 z64
      obtain ⟨rfl, N64q, K64, O64_0⟩ := hQ64
      have Ob57L_64 := Ob57L_63.keep K64 (ninS ne_b57_b60 nin0)
      have Ob58L_64 := Ob58L_63.keep K64 (ninS ne_b58_b60 nin0)
      have Ob59L_64 := O63_0.keep K64 (ninS ne_b59_b60 nin0)
      have Z64 : n0 ≤ T64.heap.size := Nat.le_trans Z63 K64.1
      have N64 := Fr.app N63 N64q
      refine own_st (fun zw zk => st64 zw zk) ?_
      show own_Go p e below G (T64.setTop (mkF m 84 #[.val (.long q0), .second, .val (.long q1), .second, .val (.long q2), .second, .val (.long q3), .second, .val (.int p4), .val (.int (1 : Int32)), .val (.int (1 : Int32)), .val (.ref b57), .val (.ref b58), .val (.ref b59), .val (.ref b60), .unset, .unset, .unset] []))
      refine own_st (fun zw zk => XS.iload X64.here hx rfl (hb hby at_84) rfl zk) ?_
      refine own_st (fun zw zk => XS.ifNo X64.here hx rfl (hb hby at_86) rfl ((if0 _ _).trans (feq (by decide : ¬ ((1 : Int32) = (0 : Int32)))).1) zk) ?_
      refine own_st (fun zw zk => X64.ldc2Long hx hown (mvT hZ (hw _ (List.mem_of_getElem? (i := 6) rfl))) (g := (mkF m 89 #[.val (.long q0), .second, .val (.long q1), .second, .val (.long q2), .second, .val (.long q3), .second, .val (.int p4), .val (.int (1 : Int32)), .val (.int (1 : Int32)), .val (.ref b57), .val (.ref b58), .val (.ref b59), .val (.ref b60), .unset, .unset, .unset] [])) rfl (hb hby at_89) _ zk) ?_
      refine own_st (fun zw zk => XS.goto X64.here hx rfl (pc0 := 92) (pc' := 96) rfl (hb hby at_92) (by decide) (by decide) zk) ?_
      show own_Go p e below G (T64.setTop (mkF m 96 #[.val (.long q0), .second, .val (.long q1), .second, .val (.long q2), .second, .val (.long q3), .second, .val (.int p4), .val (.int (1 : Int32)), .val (.int (1 : Int32)), .val (.ref b57), .val (.ref b58), .val (.ref b59), .val (.ref b60), .unset, .unset, .unset] [(.long (-1 : Int64))]))
      refine own_st (fun zw zk => XS.lstore X64.here hx rfl (hb hby at_96) rfl rfl zk) ?_
      show own_Go p e below G (T64.setTop (mkF m 98 #[.val (.long q0), .second, .val (.long q1), .second, .val (.long q2), .second, .val (.long q3), .second, .val (.int p4), .val (.int (1 : Int32)), .val (.int (1 : Int32)), .val (.ref b57), .val (.ref b58), .val (.ref b59), .val (.ref b60), .val (.long (-1 : Int64)), .second, .unset] []))
      refine own_st (fun zw zk => XS.iload X64.here hx rfl (hb hby at_98) rfl zk) ?_
      refine own_st (fun zw zk => XS.ifNo X64.here hx rfl (hb hby at_100) rfl ((if0 _ _).trans (feq (by decide : ¬ ((1 : Int32) = (0 : Int32)))).1) zk) ?_
      refine own_st (fun zw zk => XS.aload X64.here hx rfl (hb hby at_103) rfl rfl zk) ?_
      refine own_st (fun zw zk => XS.aload X64.here hx rfl (hb hby at_105) rfl rfl zk) ?_
      refine own_st (fun zw zk => XS.lload X64.here hx rfl (hb hby at_107) rfl zk) ?_
      obtain ⟨_, _, ⟨T65, L65, k65, n65⟩, -, X65, ⟨Lc65, hQ65, l65, y65, z65⟩, st65⟩ := Jvm.LawKit.callS X64 hx (y := (⟨"com/example/attestrum/attestrum/schemes/ec/P256Field", "select", "([J[JJ)V"⟩ : MethodName)) hown (mvT hZ (hw _ (List.mem_of_getElem? (i := 7) rfl))) (mvT hZ (hw _ (List.mem_of_getElem? (i := 8) rfl))) (mvT hZ (hw _ (List.mem_of_getElem? (i := 9) rfl))) (mvT hZ (hw _ (List.mem_of_getElem? (i := 10) rfl))) (by decide) (backOf (W := 0) (rm2a l Z a0 hw [] b57 (-1 : Int64) (q0 &&& (4294967295 : Int64)) ((q0.toUInt64 >>> ((32 : Int32) &&& 0x3f).toInt64.toUInt64).toInt64) (q1 &&& (4294967295 : Int64)) ((q1.toUInt64 >>> ((32 : Int32) &&& 0x3f).toInt64.toUInt64).toInt64) ((q0 ^^^ q1) &&& (4294967295 : Int64)) (((q0 ^^^ q1).toUInt64 >>> ((32 : Int32) &&& 0x3f).toInt64.toUInt64).toInt64) ((q0 + q1) &&& (4294967295 : Int64)) (((q0 + q1).toUInt64 >>> ((32 : Int32) &&& 0x3f).toInt64.toUInt64).toInt64) T64.heap n0 Z64 (Ob57L_64) (G57)) hZ (hw _ (List.mem_of_getElem? (i := 10) rfl)) (hw _ (List.mem_of_getElem? (i := 9) rfl)) (by decide) (by decide)) (g := (mkF m 109 #[.val (.long q0), .second, .val (.long q1), .second, .val (.long q2), .second, .val (.long q3), .second, .val (.int p4), .val (.int (1 : Int32)), .val (.int (1 : Int32)), .val (.ref b57), .val (.ref b58), .val (.ref b59), .val (.ref b60), .val (.long (-1 : Int64)), .second, .unset] [(.long (-1 : Int64)), (.ref b57), (.ref b57)])) rfl (by rw [hml]; rfl) (argsL := [(.ref b57), (.ref b57), (.long (-1 : Int64))]) (rest := []) (lenOf pd_1 rfl) rfl (by show 2 * 0 + _ ≤ _; exact Nat.le_of_eq rfl) (hb hby at_109) (fun _ _ => ⟨rfl, rfl, (by decide : 4 + 0 ≤ _), (by decide : 32 + 0 ≤ _)⟩)
      dsimp only [Pt.U, Pt.locs, Pt.cells, Pt.slots] at X65 l65 y65 z65 st65 hQ65
      subst l65 y65 z65
      obtain ⟨rfl, N65q, K65, O65_0⟩ := hQ65
      have Ob58L_65 := Ob58L_64.keep K65 (ninS (Ne.symm ne_b57_b58) nin0)
      have Ob59L_65 := Ob59L_64.keep K65 (ninS (Ne.symm ne_b57_b59) nin0)
      have Ob60L_65 := O64_0.keep K65 (ninS (Ne.symm ne_b57_b60) nin0)
      have Z65 : n0 ≤ T65.heap.size := Nat.le_trans Z64 K65.1
      have N65 := Fr.app N64 N65q
      refine own_st (fun zw zk => st65 zw zk) ?_
      refine own_st (fun zw zk => XS.aload X65.here hx rfl (hb hby at_112) rfl rfl zk) ?_
      refine own_st (fun zw zk => XS.aload X65.here hx rfl (hb hby at_114) rfl rfl zk) ?_
      show own_Go p e below G (T65.setTop (mkF m 116 #[.val (.long q0), .second, .val (.long q1), .second, .val (.long q2), .second, .val (.long q3), .second, .val (.int p4), .val (.int (1 : Int32)), .val (.int (1 : Int32)), .val (.ref b57), .val (.ref b58), .val (.ref b59), .val (.ref b60), .val (.long (-1 : Int64)), .second, .unset] [(.ref b58), (.ref b57)]))
      obtain ⟨_, _, ⟨T66, L66, k66, n66⟩, -, X66, ⟨Lc66, hQ66, l66, y66, z66⟩, st66⟩ := Jvm.LawKit.callS X65 hx (y := (⟨"com/example/attestrum/attestrum/schemes/ec/P256FieldSelectPinLaw", "same", "([J[J)Z"⟩ : MethodName)) hown (mvT hZ (hw _ (List.mem_of_getElem? (i := 11) rfl))) (mvT hZ (hw _ (List.mem_of_getElem? (i := 12) rfl))) (mvT hZ (hw _ (List.mem_of_getElem? (i := 3) rfl))) (mvT hZ (hw _ (List.mem_of_getElem? (i := 13) rfl))) (by decide) (backOf (W := 0) (rm3 l Z a0 hw [] b57 b58 ((q0 &&& (4294967295 : Int64)) ^^^ (((q0 &&& (4294967295 : Int64)) ^^^ (q0 &&& (4294967295 : Int64))) &&& (-1 : Int64))) (((q0.toUInt64 >>> ((32 : Int32) &&& 0x3f).toInt64.toUInt64).toInt64) ^^^ ((((q0.toUInt64 >>> ((32 : Int32) &&& 0x3f).toInt64.toUInt64).toInt64) ^^^ ((q0.toUInt64 >>> ((32 : Int32) &&& 0x3f).toInt64.toUInt64).toInt64)) &&& (-1 : Int64))) ((q1 &&& (4294967295 : Int64)) ^^^ (((q1 &&& (4294967295 : Int64)) ^^^ (q1 &&& (4294967295 : Int64))) &&& (-1 : Int64))) (((q1.toUInt64 >>> ((32 : Int32) &&& 0x3f).toInt64.toUInt64).toInt64) ^^^ ((((q1.toUInt64 >>> ((32 : Int32) &&& 0x3f).toInt64.toUInt64).toInt64) ^^^ ((q1.toUInt64 >>> ((32 : Int32) &&& 0x3f).toInt64.toUInt64).toInt64)) &&& (-1 : Int64))) (((q0 ^^^ q1) &&& (4294967295 : Int64)) ^^^ ((((q0 ^^^ q1) &&& (4294967295 : Int64)) ^^^ ((q0 ^^^ q1) &&& (4294967295 : Int64))) &&& (-1 : Int64))) ((((q0 ^^^ q1).toUInt64 >>> ((32 : Int32) &&& 0x3f).toInt64.toUInt64).toInt64) ^^^ (((((q0 ^^^ q1).toUInt64 >>> ((32 : Int32) &&& 0x3f).toInt64.toUInt64).toInt64) ^^^ (((q0 ^^^ q1).toUInt64 >>> ((32 : Int32) &&& 0x3f).toInt64.toUInt64).toInt64)) &&& (-1 : Int64))) (((q0 + q1) &&& (4294967295 : Int64)) ^^^ ((((q0 + q1) &&& (4294967295 : Int64)) ^^^ ((q0 + q1) &&& (4294967295 : Int64))) &&& (-1 : Int64))) ((((q0 + q1).toUInt64 >>> ((32 : Int32) &&& 0x3f).toInt64.toUInt64).toInt64) ^^^ (((((q0 + q1).toUInt64 >>> ((32 : Int32) &&& 0x3f).toInt64.toUInt64).toInt64) ^^^ (((q0 + q1).toUInt64 >>> ((32 : Int32) &&& 0x3f).toInt64.toUInt64).toInt64)) &&& (-1 : Int64))) (q0 &&& (4294967295 : Int64)) ((q0.toUInt64 >>> ((32 : Int32) &&& 0x3f).toInt64.toUInt64).toInt64) (q1 &&& (4294967295 : Int64)) ((q1.toUInt64 >>> ((32 : Int32) &&& 0x3f).toInt64.toUInt64).toInt64) ((q0 ^^^ q1) &&& (4294967295 : Int64)) (((q0 ^^^ q1).toUInt64 >>> ((32 : Int32) &&& 0x3f).toInt64.toUInt64).toInt64) ((q0 + q1) &&& (4294967295 : Int64)) (((q0 + q1).toUInt64 >>> ((32 : Int32) &&& 0x3f).toInt64.toUInt64).toInt64) T65.heap n0 Z65 (O65_0) (Ob58L_65)) hZ (hw _ (List.mem_of_getElem? (i := 13) rfl)) (hw _ (List.mem_of_getElem? (i := 3) rfl)) (by decide) (by decide)) (g := (mkF m 116 #[.val (.long q0), .second, .val (.long q1), .second, .val (.long q2), .second, .val (.long q3), .second, .val (.int p4), .val (.int (1 : Int32)), .val (.int (1 : Int32)), .val (.ref b57), .val (.ref b58), .val (.ref b59), .val (.ref b60), .val (.long (-1 : Int64)), .second, .unset] [(.ref b58), (.ref b57)])) rfl (by rw [hml]; rfl) (argsL := [(.ref b57), (.ref b58)]) (rest := []) (lenOf pd_2 rfl) rfl (by show 2 * 0 + _ ≤ _; exact Nat.le_of_eq rfl) (hb hby at_116) (fun _ _ => ⟨rfl, rfl, (by decide : 4 + 0 ≤ _), (by decide : 32 + 0 ≤ _)⟩)
      dsimp only [Pt.U, Pt.locs, Pt.cells, Pt.slots] at X66 l66 y66 z66 st66 hQ66
      subst l66 y66 z66
      obtain ⟨rfl, N66q, e66⟩ := hQ66
      have N66 := Fr.app N65 N66q
      refine own_st (fun zw zk => st66 zw zk) ?_
      show own_Go p e below G (T66.setTop (mkF m 119 #[.val (.long q0), .second, .val (.long q1), .second, .val (.long q2), .second, .val (.long q3), .second, .val (.int p4), .val (.int (1 : Int32)), .val (.int (1 : Int32)), .val (.ref b57), .val (.ref b58), .val (.ref b59), .val (.ref b60), .val (.long (-1 : Int64)), .second, .unset] [(.int (own_same ((q0 &&& (4294967295 : Int64)) ^^^ (((q0 &&& (4294967295 : Int64)) ^^^ (q0 &&& (4294967295 : Int64))) &&& (-1 : Int64))) (((q0.toUInt64 >>> ((32 : Int32) &&& 0x3f).toInt64.toUInt64).toInt64) ^^^ ((((q0.toUInt64 >>> ((32 : Int32) &&& 0x3f).toInt64.toUInt64).toInt64) ^^^ ((q0.toUInt64 >>> ((32 : Int32) &&& 0x3f).toInt64.toUInt64).toInt64)) &&& (-1 : Int64))) ((q1 &&& (4294967295 : Int64)) ^^^ (((q1 &&& (4294967295 : Int64)) ^^^ (q1 &&& (4294967295 : Int64))) &&& (-1 : Int64))) (((q1.toUInt64 >>> ((32 : Int32) &&& 0x3f).toInt64.toUInt64).toInt64) ^^^ ((((q1.toUInt64 >>> ((32 : Int32) &&& 0x3f).toInt64.toUInt64).toInt64) ^^^ ((q1.toUInt64 >>> ((32 : Int32) &&& 0x3f).toInt64.toUInt64).toInt64)) &&& (-1 : Int64))) (((q0 ^^^ q1) &&& (4294967295 : Int64)) ^^^ ((((q0 ^^^ q1) &&& (4294967295 : Int64)) ^^^ ((q0 ^^^ q1) &&& (4294967295 : Int64))) &&& (-1 : Int64))) ((((q0 ^^^ q1).toUInt64 >>> ((32 : Int32) &&& 0x3f).toInt64.toUInt64).toInt64) ^^^ (((((q0 ^^^ q1).toUInt64 >>> ((32 : Int32) &&& 0x3f).toInt64.toUInt64).toInt64) ^^^ (((q0 ^^^ q1).toUInt64 >>> ((32 : Int32) &&& 0x3f).toInt64.toUInt64).toInt64)) &&& (-1 : Int64))) (((q0 + q1) &&& (4294967295 : Int64)) ^^^ ((((q0 + q1) &&& (4294967295 : Int64)) ^^^ ((q0 + q1) &&& (4294967295 : Int64))) &&& (-1 : Int64))) ((((q0 + q1).toUInt64 >>> ((32 : Int32) &&& 0x3f).toInt64.toUInt64).toInt64) ^^^ (((((q0 + q1).toUInt64 >>> ((32 : Int32) &&& 0x3f).toInt64.toUInt64).toInt64) ^^^ (((q0 + q1).toUInt64 >>> ((32 : Int32) &&& 0x3f).toInt64.toUInt64).toInt64)) &&& (-1 : Int64))) (q0 &&& (4294967295 : Int64)) ((q0.toUInt64 >>> ((32 : Int32) &&& 0x3f).toInt64.toUInt64).toInt64) (q1 &&& (4294967295 : Int64)) ((q1.toUInt64 >>> ((32 : Int32) &&& 0x3f).toInt64.toUInt64).toInt64) ((q0 ^^^ q1) &&& (4294967295 : Int64)) (((q0 ^^^ q1).toUInt64 >>> ((32 : Int32) &&& 0x3f).toInt64.toUInt64).toInt64) ((q0 + q1) &&& (4294967295 : Int64)) (((q0 + q1).toUInt64 >>> ((32 : Int32) &&& 0x3f).toInt64.toUInt64).toInt64)))]))
      rw [show (own_same ((q0 &&& (4294967295 : Int64)) ^^^ (((q0 &&& (4294967295 : Int64)) ^^^ (q0 &&& (4294967295 : Int64))) &&& (-1 : Int64))) (((q0.toUInt64 >>> ((32 : Int32) &&& 0x3f).toInt64.toUInt64).toInt64) ^^^ ((((q0.toUInt64 >>> ((32 : Int32) &&& 0x3f).toInt64.toUInt64).toInt64) ^^^ ((q0.toUInt64 >>> ((32 : Int32) &&& 0x3f).toInt64.toUInt64).toInt64)) &&& (-1 : Int64))) ((q1 &&& (4294967295 : Int64)) ^^^ (((q1 &&& (4294967295 : Int64)) ^^^ (q1 &&& (4294967295 : Int64))) &&& (-1 : Int64))) (((q1.toUInt64 >>> ((32 : Int32) &&& 0x3f).toInt64.toUInt64).toInt64) ^^^ ((((q1.toUInt64 >>> ((32 : Int32) &&& 0x3f).toInt64.toUInt64).toInt64) ^^^ ((q1.toUInt64 >>> ((32 : Int32) &&& 0x3f).toInt64.toUInt64).toInt64)) &&& (-1 : Int64))) (((q0 ^^^ q1) &&& (4294967295 : Int64)) ^^^ ((((q0 ^^^ q1) &&& (4294967295 : Int64)) ^^^ ((q0 ^^^ q1) &&& (4294967295 : Int64))) &&& (-1 : Int64))) ((((q0 ^^^ q1).toUInt64 >>> ((32 : Int32) &&& 0x3f).toInt64.toUInt64).toInt64) ^^^ (((((q0 ^^^ q1).toUInt64 >>> ((32 : Int32) &&& 0x3f).toInt64.toUInt64).toInt64) ^^^ (((q0 ^^^ q1).toUInt64 >>> ((32 : Int32) &&& 0x3f).toInt64.toUInt64).toInt64)) &&& (-1 : Int64))) (((q0 + q1) &&& (4294967295 : Int64)) ^^^ ((((q0 + q1) &&& (4294967295 : Int64)) ^^^ ((q0 + q1) &&& (4294967295 : Int64))) &&& (-1 : Int64))) ((((q0 + q1).toUInt64 >>> ((32 : Int32) &&& 0x3f).toInt64.toUInt64).toInt64) ^^^ (((((q0 + q1).toUInt64 >>> ((32 : Int32) &&& 0x3f).toInt64.toUInt64).toInt64) ^^^ (((q0 + q1).toUInt64 >>> ((32 : Int32) &&& 0x3f).toInt64.toUInt64).toInt64)) &&& (-1 : Int64))) (q0 &&& (4294967295 : Int64)) ((q0.toUInt64 >>> ((32 : Int32) &&& 0x3f).toInt64.toUInt64).toInt64) (q1 &&& (4294967295 : Int64)) ((q1.toUInt64 >>> ((32 : Int32) &&& 0x3f).toInt64.toUInt64).toInt64) ((q0 ^^^ q1) &&& (4294967295 : Int64)) (((q0 ^^^ q1).toUInt64 >>> ((32 : Int32) &&& 0x3f).toInt64.toUInt64).toInt64) ((q0 + q1) &&& (4294967295 : Int64)) (((q0 + q1).toUInt64 >>> ((32 : Int32) &&& 0x3f).toInt64.toUInt64).toInt64)) = (1 : Int32) from by simp only [own_selA, own_sel1, own_sel0]; exact own_same1 _ _ _ _ _ _ _ _]
      subst hG
      obtain ⟨fs, hr, hrun, hended, hW, hsame⟩ := X66.leave (v := some (.int (1 : Int32))) (fun h => by rw [Bd.returns] at h; cases h)
      refine ⟨_, retN X66 hx (t := .boolean) Bd.returns (by simp) (hb hby at_119) hr, _, hrun, hended, _, _, rfl, ?_, ⟨_, rfl⟩, hW, hsame.mono (by decide) (by decide)⟩
      show Q0 Z q0 q1 q2 q3 p4 h0 n0 _ T66.heap _
      rw [e66]
      exact ⟨rfl, N66⟩
set_option maxRecDepth 65536 in
set_option maxHeartbeats 40000000 in
theorem comes_1 {Post : Tables → Env → Array Value → State → Outcome → State → Prop} (hpost : ∀ tb e args s v u, (limb_1_1.after args s (.returned v) u = true ∧ limb_1_2.after args s (.returned v) u = true ∧ True) → FrameEnd s (.returned v) u (Jvm.fieldLocs frame_1_writes args s ++ Jvm.arrayLocs frame_1_arrays args s ++ Jvm.staticLocs frame_1_statics s) 16 128 → Post tb e args s (.returned v) u) :
    ArmFor flags0 classFile x code maxLocals ret World_1 tables_1 room_1 Calls_1 rest_1 Pre_1 Post := by
  intro l hfl _ _ p e ha hc hk s m args below hf hA hF happ hP
  obtain ⟨hcalls, hrest, hpre⟩ := hP
  obtain ⟨-, -, -, hnamed, -, -, -, hat⟩ := (Spec.applies_iff hf).mp happ
  obtain ⟨hg, hn⟩ := and_e (Cond.before_iff.mp (show (Jvm.Cond.and given_1 narrow_1).before args s = true from hpre))
  obtain ⟨g1, g2⟩ := and_e hg
  obtain ⟨g3, g4⟩ := and_e g2
  obtain ⟨g5, g6⟩ := and_e g4
  obtain ⟨g7, g8⟩ := and_e g6
  obtain ⟨g9, g10⟩ := and_e g8
  obtain ⟨w0, w1, w2, w3, w4, rfl⟩ : ∃ w0 w1 w2 w3 w4 : Value, args = #[w0, w1, w2, w3, w4] := by
    have hs : args.size = 5 := by simpa [Cond.value, given_1] using g1
    obtain ⟨L⟩ := args
    match L, hs with
    | [w0, w1, w2, w3, w4], _ => exact ⟨w0, w1, w2, w3, w4, rfl⟩
  have hw := fun d (hd : d ∈ tables_1) => atoms_spec (ws := Jvm.Cond.code x code maxLocals ret :: tables_1) hat d (List.mem_cons_of_mem _ hd)
  obtain ⟨i0, ei0⟩ := isL_v g3
  obtain rfl : w0 = (.long i0) := Option.some.inj ei0
  obtain ⟨i1, ei1⟩ := isL_v g5
  obtain rfl : w1 = (.long i1) := Option.some.inj ei1
  obtain ⟨i2, ei2⟩ := isL_v g7
  obtain rfl : w2 = (.long i2) := Option.some.inj ei2
  obtain ⟨i3, ei3⟩ := isL_v g9
  obtain rfl : w3 = (.long i3) := Option.some.inj ei3
  obtain ⟨i4, ei4⟩ := is_v g10
  obtain rfl : w4 = (.int i4) := Option.some.inj ei4
  obtain ⟨n, o, h1, h2, h3, _, L, rfl, ⟨rfl, N⟩, hq⟩ := rm0 l s _ hw tables_1 i0 i1 i2 i3 i4 s.heap s.heap.size (Nat.le_refl _) p e ha hc hk s m _ below hf ((Spec.applies_iff_loose hf).mp happ).1 ⟨rfl, State.Warmed39.refl s, rfl⟩ trivial
  refine ⟨n, _, h1, h2, h3, hpost _ _ _ _ _ _ ⟨Cond.after_iff.mpr rfl, Cond.after_iff.mpr (eq_i res_at (Term.int_eval (1)) rfl), trivial⟩ ⟨hq.1, hq.2.1, (hq.2.2.sift fun y hy => Or.inr (N y hy)).mono (by decide) (by decide)⟩⟩
theorem main_1_1 : Claimed_1_1 := comes_1 fun _ _ _ _ _ _ h hF => ⟨h.1, hF⟩
theorem main_1_2 : Claimed_1_2 := comes_1 fun _ _ _ _ _ _ h hF => ⟨h.2.1, hF⟩
end Jvm.Pilot.@@N@@
namespace Jvm.Pilot.@@N@@
open Jvm Jvm.ClassFile Sem Op Lib Jvm.Free Jvm.Stand Jvm.Pilot.@@N@@.Jvm.D
/-! MADE BY PROGRAM (witnessworld.py) out of the Statement's table words and the real class files: 11 classes; the members and pool entries that the words name. The judged class is class 1, her method 1. -/
namespace start1
open Jvm.ClassFile
def u (s : String) : CpInfo := .utf8 (stringToUtf16 s)
/-- a pool by its gaps: so many unusable entries, then the entry; so many at the end -/
def gap : Nat → List CpInfo → List CpInfo
  | 0, r => r
  | n + 1, r => .unusable :: gap n r
def poolList (es : List (Nat × CpInfo)) (last : Nat) : List CpInfo := es.foldr (fun e r => gap e.1 (e.2 :: r)) (gap last [])
def pool (es : List (Nat × CpInfo)) (last : Nat) : Array CpInfo := ⟨poolList es last⟩
def fileOf (pool : Array CpInfo) (this : Nat) (attrs : Array Attribute := #[]) (ms : Array MethodInfo := #[]) (fl : Nat := 33) (sup : Nat := 0) (ifs : Array Nat := #[]) (fds : Array FieldInfo := #[]) : ClassFile where
  minorVersion := 0
  majorVersion := 65
  constantPool := pool
  accessFlags := fl
  thisClass := this
  superClass := sup
  interfaces := ifs
  fields := fds
  methods := ms
  attributes := attrs
def plain (name : String) (sup : Option ClassId) : Class where
  name := name
  kind := .ordinary
  loader := none
  accessFlags := 33
  super := sup
  interfaces := #[]
  cf := none
  fields := #[]
  methods := #[]
  instanceTypes := #[]
  staticTypes := #[]
  resolved := #[]
  callSites := []
  init := .initialized
  statics := none
  mirror := none

def pool0 : Array CpInfo := pool [(5, u "<init>"), (0, u "()V"), (1, .class_ 10), (1, u "java/lang/Object")] 113

def k0m0 : Method := { name := "<init>", desc := "()V", sig := { parameters := [], returnType := none }, accessFlags := 1, code := none }
/-- java/lang/Object -/
def k0 : Class := { plain "java/lang/Object" none with
  accessFlags := 33
  interfaces := #[]
  cf := some (fileOf pool0 8 #[] #[{ accessFlags := 1, nameIndex := 5, descriptorIndex := 6, attributes := #[] }] 33 0 #[] #[])
  fields := #[]
  methods := #[k0m0]
  instanceTypes := #[]
  staticTypes := #[]
  resolved := Array.replicate 124 none
  statics := none }

def pool1 : Array CpInfo := pool [(2, .class_ 4), (1, u "java/lang/Object"), (0, u "<init>"), (0, u "()V"), (0, .methodref 8 9), (0, .class_ 10), (0, .nameAndType 11 12), (0, u "com/example/attestrum/attestrum/schemes/ec/P256FieldSelectPinLaw"), (0, u "fill"), (0, u "([JJJ)V"), (0, .long 18446744073709551615), (1, .methodref 16 17), (0, .class_ 18), (0, .nameAndType 19 20), (0, u "com/example/attestrum/attestrum/schemes/ec/P256Field"), (0, u "select"), (0, u "([J[JJ)V"), (0, .methodref 8 22), (0, .nameAndType 23 24), (0, u "same"), (0, u "([J[J)Z"), (0, .long 4294967295), (3, u "law"), (0, u "(JJJJI)Z")] 5

def k1m0 : Method := { name := "<init>", desc := "()V", sig := { parameters := [], returnType := none }, accessFlags := 2, code := none }
def k1c1 : Code := { maxStack := 5, maxLocals := 18, code := code, exceptionTable := #[], attributes := #[] }
def k1m1 : Method := { name := "law", desc := "(JJJJI)Z", sig := { parameters := [.long, .long, .long, .long, .int], returnType := some .boolean }, accessFlags := 9, code := some k1c1 }
def k1c2 : Code := { maxStack := 6, maxLocals := 9, code := method_3_code, exceptionTable := #[], attributes := #[] }
def k1m2 : Method := { name := "fill", desc := "([JJJ)V", sig := { parameters := [(.array .long), .long, .long], returnType := none }, accessFlags := 10, code := some k1c2 }
def k1c3 : Code := { maxStack := 4, maxLocals := 2, code := method_4_code, exceptionTable := #[], attributes := #[] }
def k1m3 : Method := { name := "same", desc := "([J[J)Z", sig := { parameters := [(.array .long), (.array .long)], returnType := some .boolean }, accessFlags := 10, code := some k1c3 }
/-- com/example/attestrum/attestrum/schemes/ec/P256FieldSelectPinLaw -/
def k1 : Class := { plain "com/example/attestrum/attestrum/schemes/ec/P256FieldSelectPinLaw" (some 0) with
  accessFlags := 49
  interfaces := #[]
  cf := some (fileOf pool1 8 #[] #[{ accessFlags := 2, nameIndex := 5, descriptorIndex := 6, attributes := #[] }, { accessFlags := 9, nameIndex := 29, descriptorIndex := 30, attributes := #[] }, { accessFlags := 10, nameIndex := 11, descriptorIndex := 12, attributes := #[] }, { accessFlags := 10, nameIndex := 23, descriptorIndex := 24, attributes := #[] }] 49 2 #[] #[])
  fields := #[]
  methods := #[k1m0, k1m1, k1m2, k1m3]
  instanceTypes := #[]
  staticTypes := #[]
  resolved := Array.replicate 36 none
  statics := none }

def pool2 : Array CpInfo := pool [(2, .class_ 4), (1, u "java/lang/Object"), (0, u "<init>"), (0, u "()V"), (0, .class_ 8), (0, u "com/example/attestrum/attestrum/schemes/ec/P256Field"), (19, u "Ljava/math/BigInteger;"), (72, u "P"), (0, u "LIMBS"), (0, u "I"), (2, u "MASK"), (0, u "J"), (0, u "LIMB_BITS"), (14, u "select"), (0, u "([J[JJ)V")] 6

def k2m0 : Method := { name := "<init>", desc := "()V", sig := { parameters := [], returnType := none }, accessFlags := 2, code := none }
def k2c1 : Code := { maxStack := 8, maxLocals := 5, code := prog_52_method_12_code, exceptionTable := #[], attributes := #[] }
def k2m1 : Method := { name := "select", desc := "([J[JJ)V", sig := { parameters := [(.array .long), (.array .long), .long], returnType := none }, accessFlags := 8, code := some k2c1 }
/-- com/example/attestrum/attestrum/schemes/ec/P256Field -/
def k2 : Class := { plain "com/example/attestrum/attestrum/schemes/ec/P256Field" (some 0) with
  accessFlags := 48
  interfaces := #[]
  cf := some (fileOf pool2 7 #[] #[{ accessFlags := 2, nameIndex := 5, descriptorIndex := 6, attributes := #[] }, { accessFlags := 8, nameIndex := 123, descriptorIndex := 124, attributes := #[] }] 48 2 #[] #[{ accessFlags := 24, nameIndex := 102, descriptorIndex := 103, attributes := #[] }, { accessFlags := 24, nameIndex := 101, descriptorIndex := 28, attributes := #[] }, { accessFlags := 26, nameIndex := 106, descriptorIndex := 107, attributes := #[] }, { accessFlags := 26, nameIndex := 108, descriptorIndex := 103, attributes := #[] }])
  fields := #[{ name := "LIMBS", type := .int, accessFlags := 24, slot := 0, constantValue := 0 }, { name := "P", type := (.object "java/math/BigInteger"), accessFlags := 24, slot := 1, constantValue := 0 }, { name := "MASK", type := .long, accessFlags := 26, slot := 2, constantValue := 0 }, { name := "LIMB_BITS", type := .int, accessFlags := 26, slot := 3, constantValue := 0 }]
  methods := #[k2m0, k2m1]
  instanceTypes := #[]
  staticTypes := #[.int, (.object "java/math/BigInteger"), .long, .int]
  resolved := Array.replicate 131 none
  statics := none }

def pool3 : Array CpInfo := pool [(1, u "java/lang/Cloneable"), (0, .class_ 1), (0, u "java/lang/Object"), (0, .class_ 3)] 3

/-- java/lang/Cloneable -/
def k3 : Class := { plain "java/lang/Cloneable" (some 0) with
  accessFlags := 1537
  interfaces := #[]
  cf := some (fileOf pool3 2 #[] #[] 1537 4 #[] #[])
  fields := #[]
  methods := #[]
  instanceTypes := #[]
  staticTypes := #[]
  resolved := Array.replicate 8 none
  statics := none }

def pool4 : Array CpInfo := pool [(1, u "java/io/Serializable"), (0, .class_ 1), (0, u "java/lang/Object"), (0, .class_ 3)] 3

/-- java/io/Serializable -/
def k4 : Class := { plain "java/io/Serializable" (some 0) with
  accessFlags := 1537
  interfaces := #[]
  cf := some (fileOf pool4 2 #[] #[] 1537 4 #[] #[])
  fields := #[]
  methods := #[]
  instanceTypes := #[]
  staticTypes := #[]
  resolved := Array.replicate 8 none
  statics := none }

/-- the primitive byte -/
def k5 : Class := { plain "byte" none with kind := .primitive 'B', accessFlags := 0x411 }
/-- [B -/
def k6 : Class := { plain "[B" (some 0) with kind := .array 5 .byte, interfaces := #[3, 4], accessFlags := 1041 }

/-- the primitive int -/
def k7 : Class := { plain "int" none with kind := .primitive 'I', accessFlags := 0x411 }
/-- [I -/
def k8 : Class := { plain "[I" (some 0) with kind := .array 7 .int, interfaces := #[3, 4], accessFlags := 1041 }

/-- the primitive long -/
def k9 : Class := { plain "long" none with kind := .primitive 'J', accessFlags := 0x411 }
/-- [J -/
def k10 : Class := { plain "[J" (some 0) with kind := .array 9 .long, interfaces := #[3, 4], accessFlags := 1041 }

def heap : Heap := #[]
def classes : Array Class := #[k0, k1, k2, k3, k4, k5, k6, k7, k8, k9, k10]
def interned : List (Array UInt16 × Addr) := []
def slotsUsed : Nat := 0
def theMethod : MethodId := ⟨1, 1⟩
def args0 : Array Value := #[.long 5, .long 6, .long 7, .long 8, .int 9]
def aboutOver (below : List Frame) : State where
  vm := { classes := classes, interned := interned.toArray }
  heap := heap
  slotsUsed := slotsUsed
  threads := #[{ frames := .invoking theMethod args0 :: below }]
def below0 : List Frame := [.native { method := ⟨0, 0⟩, args := #[] }]
def about1 : State := aboutOver below0
def p0 : Program := .bare "" "" ""
def e0 : Env := launch0.env 0 0 0
theorem w_frames : about1.frames = Frame.invoking theMethod args0 :: below0 := rfl
set_option maxRecDepth 65536 in
theorem w_args : argsFit about1.vm theMethod args0 = true := by decide +kernel
set_option maxRecDepth 65536 in
theorem w_heap : heapFits about1 = true := by decide +kernel
set_option maxRecDepth 65536 in
theorem w_runnable : about1.curStatus? = some .runnable := by decide +kernel
set_option maxRecDepth 65536 in
theorem w_alone : about1.alone = true := by decide +kernel
set_option maxRecDepth 65536 in
theorem w_named : about1.methodNamed? x = some theMethod := by decide +kernel
set_option maxRecDepth 65536 in
theorem w_hears : about1.hears theMethod below0 = true := by decide +kernel
set_option maxRecDepth 65536 in
theorem w_ripe : about1.ripe theMethod args0 below0 = true := by decide +kernel
theorem w_running : about1.status = .running := rfl
set_option maxRecDepth 65536 in
theorem w_room : about1.hasRoom e0.platform room_1 = true :=
  launch0.hasRoom_least _ room_1 (by decide +kernel) (by decide +kernel) (by decide +kernel) (by decide +kernel) (by decide +kernel) (by decide +kernel)
theorem allAtoms_all (ts : List Jvm.Cond) (a : Array Jvm.Value) (st : Jvm.State) : (allAtoms ts).before a st = ts.all (fun c => c.before a st) := by
  induction ts with
  | nil => rfl
  | cons c t ih =>
    show (Jvm.Cond.and c (allAtoms t)).before a st = _
    rw [Jvm.Cond.before_and, ih, List.all_cons]
def words1 : List Jvm.Cond := Jvm.Cond.code x code maxLocals ret :: tables_1
/-- a 'code' word, met by the world's own term for the bytes: nothing is compared byte by byte -/
theorem code_word {y : MethodName} {bytes : ByteArray} {mx : Nat} {rt : Option FieldType} {a : Array Value} {s : State} {m : MethodId} {meth : Method} {c : Code} (h1 : s.methodNamed? y = some m) (h2 : s.vm.method? m = some meth) (h3 : meth.code = some c) (h4 : c.code = bytes)
    (h5 : (c.maxLocals == mx && c.exceptionTable.isEmpty && decide (c.maxStack ≤ mostOperands) && decide (meth.sig.returnType = rt) && !meth.locks && decide (parseMethodDescriptor y.desc = some meth.sig)) = true) : (Jvm.Cond.code y bytes mx rt).before a s = true := by
  simp only [Bool.and_eq_true, beq_iff_eq, Bool.not_eq_true', decide_eq_true_eq] at h5
  obtain ⟨⟨⟨⟨⟨g1, g2⟩, g3⟩, g4⟩, g5⟩, g6⟩ := h5
  simp [Cond.before, Cond.holds, Cond.value, h1, h2, h3, h4, g1, g2, g3, g4, g5, g6]
def isCode : Jvm.Cond → Bool
  | .code _ _ _ _ => true
  | _ => false
theorem all_split {L : List Jvm.Cond} {P : Jvm.Cond → Bool} (h1 : L.all (fun c => isCode c || P c) = true) (h2 : ∀ c ∈ L.filter isCode, P c = true) : L.all P = true := by
  refine List.all_eq_true.mpr fun c hc => ?_
  have h := List.all_eq_true.mp h1 c hc
  rcases Bool.eq_false_or_eq_true (isCode c) with hi | hi
  · exact h2 c (List.mem_filter.mpr ⟨hc, hi⟩)
  · simpa [hi] using h
set_option maxRecDepth 65536 in
theorem w_c0 : (Jvm.Cond.code x code maxLocals ret).before args0 about1 = true := code_word (m := ⟨1, 1⟩) (meth := k1m1) (c := k1c1) (by decide +kernel) rfl rfl rfl (by decide +kernel)
set_option maxRecDepth 65536 in
theorem w_c1 : (Jvm.Cond.code ({ cls := "com/example/attestrum/attestrum/schemes/ec/P256FieldSelectPinLaw", name := "fill", desc := "([JJJ)V" } : Jvm.MethodName) method_3_code (9 : Nat) (Option.none : Option Jvm.ClassFile.FieldType)).before args0 about1 = true := code_word (m := ⟨1, 2⟩) (meth := k1m2) (c := k1c2) (by decide +kernel) rfl rfl rfl (by decide +kernel)
set_option maxRecDepth 65536 in
theorem w_c2 : (Jvm.Cond.code ({ cls := "com/example/attestrum/attestrum/schemes/ec/P256Field", name := "select", desc := "([J[JJ)V" } : Jvm.MethodName) prog_52_method_12_code (5 : Nat) (Option.none : Option Jvm.ClassFile.FieldType)).before args0 about1 = true := code_word (m := ⟨2, 1⟩) (meth := k2m1) (c := k2c1) (by decide +kernel) rfl rfl rfl (by decide +kernel)
set_option maxRecDepth 65536 in
theorem w_c3 : (Jvm.Cond.code ({ cls := "com/example/attestrum/attestrum/schemes/ec/P256FieldSelectPinLaw", name := "same", desc := "([J[J)Z" } : Jvm.MethodName) method_4_code (2 : Nat) (Option.some Jvm.ClassFile.FieldType.boolean)).before args0 about1 = true := code_word (m := ⟨1, 3⟩) (meth := k1m3) (c := k1c3) (by decide +kernel) rfl rfl rfl (by decide +kernel)
def codes1 : List Jvm.Cond := [Jvm.Cond.code x code maxLocals ret, Jvm.Cond.code ({ cls := "com/example/attestrum/attestrum/schemes/ec/P256FieldSelectPinLaw", name := "fill", desc := "([JJJ)V" } : Jvm.MethodName) method_3_code (9 : Nat) (Option.none : Option Jvm.ClassFile.FieldType), Jvm.Cond.code ({ cls := "com/example/attestrum/attestrum/schemes/ec/P256Field", name := "select", desc := "([J[JJ)V" } : Jvm.MethodName) prog_52_method_12_code (5 : Nat) (Option.none : Option Jvm.ClassFile.FieldType), Jvm.Cond.code ({ cls := "com/example/attestrum/attestrum/schemes/ec/P256FieldSelectPinLaw", name := "same", desc := "([J[J)Z" } : Jvm.MethodName) method_4_code (2 : Nat) (Option.some Jvm.ClassFile.FieldType.boolean)]
set_option maxRecDepth 65536 in
theorem codes_eq : words1.filter isCode = codes1 := rfl
theorem w_codes : ∀ c ∈ words1.filter isCode, c.before args0 about1 = true := by
  rw [codes_eq]
  intro c hc
  simp only [codes1, List.mem_cons, List.not_mem_nil, or_false] at hc
  rcases hc with rfl | rfl | rfl | rfl
  · exact w_c0
  · exact w_c1
  · exact w_c2
  · exact w_c3
set_option maxRecDepth 65536 in
theorem w_t1 : words1.all (fun c => isCode c || c.before args0 about1) = true := by decide +kernel
theorem w_tables : (allAtoms (Jvm.Cond.code x code maxLocals ret :: tables_1)).before args0 about1 = true := by
  rw [allAtoms_all]
  show words1.all (fun c => c.before args0 about1) = true
  refine all_split ?_ w_codes
  rw [w_t1]
set_option maxRecDepth 65536 in
theorem w_case : (Jvm.Cond.and given_1 narrow_1).before args0 about1 = true := by decide +kernel
theorem w_applies : (headSpec (Jvm.Cond.code x code maxLocals ret :: tables_1) room_1).applies x e0.platform about1 = true :=
  (Spec.applies_iff w_frames).mpr ⟨w_running, w_runnable, w_alone, w_named, w_hears, w_ripe, w_room, w_tables⟩
theorem atStart : AtStart classFile x code maxLocals ret World_1 tables_1 room_1 Calls_1 rest_1 Pre_1 launch0 p0 e0 about1 theMethod args0 below0 :=
  ⟨lists_1, trivial, launch0.admits_env _ _ _, launch0.least_env, fairChoices_fair.cas, fairChoices_fair.clock, w_frames, w_args, w_heap, w_applies, trivial, trivial, w_case⟩
end start1
theorem witness_1 : WitnessClaimed_1 := ⟨start1.p0, start1.e0, start1.about1, start1.theMethod, start1.args0, start1.below0, start1.atStart⟩
end Jvm.Pilot.@@N@@
