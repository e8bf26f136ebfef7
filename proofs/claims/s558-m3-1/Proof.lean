import JvmDerived
import JvmDerived.Pilot.@@N@@Statement
import JvmDerived.Pilot.@@N@@Code
set_option linter.unusedVariables false
set_option linter.unusedSimpArgs false
namespace Jvm.Pilot.@@N@@
open Jvm Jvm.ClassFile Sem Op Lib Jvm.Free Jvm.Stand Jvm.LawKit Jvm.RoadKit Bundle Jvm.Pilot.@@N@@.Jvm.D
/-! own_Go: from t the run comes to a state where G holds. A walk is written backwards from the goal, so that a case split may stand anywhere. -/
def own_Go (p : Program) (e : Env) (below : List Frame) (G : State → Prop) (t : State) : Prop := ∃ u, Steps p.tables e below t u ∧ G u
theorem own_st {p : Program} {e : Env} {below : List Frame} {G : State → Prop} {t u : State} (f : ∀ w, Steps p.tables e below u w → Steps p.tables e below t w) (k : own_Go p e below G u) : own_Go p e below G t := by
  obtain ⟨w, s, g⟩ := k
  exact ⟨w, f w s, g⟩
theorem own_jp {p : Program} {e : Env} {below : List Frame} {G : State → Prop} {t u : State} (f : Steps p.tables e below t u) (k : own_Go p e below G u) : own_Go p e below G t := by
  obtain ⟨w, s, g⟩ := k
  exact ⟨w, f.trans s, g⟩
theorem own_out {p : Program} {e : Env} {below : List Frame} {t : State} {Q : Outcome → State → Prop} (k : own_Go p e below (fun u => ∃ o, u.status = .running ∧ Ended u below o ∧ Q o u) t) : ∃ s₂ o, Steps p.tables e below t s₂ ∧ s₂.status = .running ∧ Ended s₂ below o ∧ Q o s₂ := by
  obtain ⟨w, s, o, g⟩ := k
  exact ⟨w, o, s, g⟩
theorem own_nm {p : Program} {e : Env} {below : List Frame} {G0 : State → Prop} {t : State} (k : ∀ G, G = G0 → own_Go p e below G t) : own_Go p e below G0 t := k _ rfl
theorem own_tll {x y : Int64} (h : x < y) : lcmpW x y < 0 := (lw_lt x y).mpr h
theorem own_fll {x y : Int64} (h : ¬ x < y) : ¬ lcmpW x y < 0 := fun q => h ((lw_lt x y).mp q)
theorem own_tlg {x y : Int64} (h : y < x) : 0 < lcmpW x y := (lw_gt x y).mpr h
theorem own_flg {x y : Int64} (h : ¬ y < x) : ¬ 0 < lcmpW x y := fun q => h ((lw_gt x y).mp q)
theorem own_tle {x y : Int64} (h : x = y) : lcmpW x y = 0 := (lw_eq x y).mpr h
theorem own_fle {x y : Int64} (h : ¬ x = y) : ¬ lcmpW x y = 0 := fun q => h ((lw_eq x y).mp q)
section Own
variable {p : Program} {l : Launch} {e : Env} {R : Room} {s : State} {m : MethodId} {args : Array Value} {below : List Frame} {meth : Method} {c : Code} {T : State} {locs : List Loc} {cells slots : Nat} {Z : State} {h h' : Heap} {a b : Addr} {ty : FieldType} {vs : List Value} {v : Value}
theorem own_retI (X : Stand p l e R s m args below meth c T locs cells slots) (hx : p.tables.exec = Jvm.exec) {pc : Nat} {Ls : Array Slot} {z : Int32} {rest : List Value} (hret : meth.sig.returnType = some .int) (hd : decode c.code pc = .ok (.ireturn, 1)) {fs : List Frame}
    (hl : ∀ (f : JFrame) (acts : List Action), f.method = m → f.locked = none → f.entered = [] → (doReturn e (T.setTop f) acts (some (.int z))).1 = T.setFrames fs) : Steps p.tables e below (T.setTop (mkF m pc Ls (.int z :: rest))) (T.setFrames fs) :=
  retOut X hx hret rfl (Or.inl ⟨rfl, Or.inl rfl, z, rfl⟩) hd hl
theorem own_retJ (X : Stand p l e R s m args below meth c T locs cells slots) (hx : p.tables.exec = Jvm.exec) {pc : Nat} {Ls : Array Slot} {z : Int64} {rest : List Value} (hret : meth.sig.returnType = some .long) (hd : decode c.code pc = .ok (.lreturn, 1)) {fs : List Frame}
    (hl : ∀ (f : JFrame) (acts : List Action), f.method = m → f.locked = none → f.entered = [] → (doReturn e (T.setTop f) acts (some (.long z))).1 = T.setFrames fs) : Steps p.tables e below (T.setTop (mkF m pc Ls (.long z :: rest))) (T.setFrames fs) :=
  retOut X hx hret rfl (Or.inr (Or.inl ⟨rfl, rfl, z, rfl⟩)) hd hl
/-! own_L: the array at a holds just the list vs -/
def own_L (Z : State) (h : Heap) (a : Addr) (ty : FieldType) (vs : List Value) : Prop := ∃ cl : Cell, Arr Z h a cl ty ∧ cl.slots = vs.toArray
theorem own_L.lt (F : own_L Z h a ty vs) : a < h.size := by obtain ⟨cl, A, -⟩ := F; exact A.lt
theorem own_L.ext (F : own_L Z h a ty vs) (E : Ext h h') : own_L Z h' a ty vs := by obtain ⟨cl, A, q⟩ := F; exact ⟨cl, A.ext E, q⟩
theorem own_L.other {sl : Nat} (F : own_L Z h b ty vs) (W : Wr h h' a sl v) (q : b ≠ a) : own_L Z h' b ty vs := by obtain ⟨cl, A, r⟩ := F; exact ⟨cl, A.other W q, r⟩
theorem own_L.keep {ws : List Addr} (F : own_L Z h a ty vs) (K : Keep h h' ws) (q : a ∉ ws) : own_L Z h' a ty vs := by obtain ⟨cl, A, r⟩ := F; exact ⟨cl, ⟨K.2.1 a cl A.1 q, A.2⟩, r⟩
theorem own_L.new {k : ClassId} {z : Int32} (A : Arr Z h a (newA k ty z) ty) : own_L Z h a ty (List.replicate z.toNatClampNeg (defaultValue ty)) := ⟨_, A, by simp [newA]⟩
theorem own_L.same {k : Nat} (F : own_L Z h a ty vs) (W : Wr h h' a k v) : own_L Z h' a ty (vs.set k v) := by
  obtain ⟨cl, A, q⟩ := F
  exact ⟨_, A.same W, by simp [Cell.setSlot, q]⟩
theorem own_in {cl : Cell} {j : Int32} (q : cl.slots = vs.toArray) (h1 : ¬ j < 0) (h2 : j.toNatClampNeg < vs.length) : ¬ (j < 0 ∨ cl.slots.size ≤ j.toNatClampNeg) := by
  rw [q]
  rintro (r | r)
  · exact h1 r
  · simp at r; omega
theorem own_at {cl : Cell} {k : Nat} (q : cl.slots = vs.toArray) (hv : vs[k]? = some v) : cl.slots[k]? = some v := by rw [q]; simpa using hv
theorem own_lt {k : Nat} (hv : vs[k]? = some v) : k < vs.length := by
  obtain ⟨q, -⟩ := List.getElem?_eq_some_iff.mp hv
  exact q
theorem own_bld (X : Stand p l e R s m args below meth c T locs cells slots) (hx : p.tables.exec = Jvm.exec) (hZ : Z.Warmed39 s.vm) (eT : T.heap = h) (F : own_L Z h a .byte vs) {j : Int32} {i : Nat} (h1 : ¬ j < 0) (hi : j.toNatClampNeg = i) (hv : vs[i]? = some v) {g : JFrame} (hg : g.method = m) {rest : List Value} (hs : g.stack = .int j :: .ref a :: rest) (hd : decode c.code g.pc = .ok (.baload, 1)) :
    ∀ target, Steps p.tables e below (T.setTop { g with pc := g.pc + 1, stack := v :: rest }) target → Steps p.tables e below (T.setTop g) target := by
  obtain ⟨cl, A, q⟩ := F
  subst hi
  exact X.baloadBytes hx (by rw [eT]; exact A.1) (State.isArrayOf_alike hZ.alike A.2.1) A.2.2 (own_in q h1 (own_lt hv)) (own_at q hv) hg hs hd
theorem own_jld (X : Stand p l e R s m args below meth c T locs cells slots) (hx : p.tables.exec = Jvm.exec) (hZ : Z.Warmed39 s.vm) (eT : T.heap = h) (F : own_L Z h a .long vs) {j : Int32} {i : Nat} (h1 : ¬ j < 0) (hi : j.toNatClampNeg = i) (hv : vs[i]? = some v) {g : JFrame} (hg : g.method = m) {rest : List Value} (hs : g.stack = .int j :: .ref a :: rest) (hd : decode c.code g.pc = .ok (.laload, 1)) :
    ∀ target, Steps p.tables e below (T.setTop { g with pc := g.pc + 1, stack := v :: rest }) target → Steps p.tables e below (T.setTop g) target := by
  obtain ⟨cl, A, q⟩ := F
  subst hi
  exact X.laload hx (by rw [eT]; exact A.1) (State.isArrayOf_alike hZ.alike A.2.1) A.2.2 (own_in q h1 (own_lt hv)) (own_at q hv) hg hs hd
theorem own_ild (X : Stand p l e R s m args below meth c T locs cells slots) (hx : p.tables.exec = Jvm.exec) (hZ : Z.Warmed39 s.vm) (eT : T.heap = h) (F : own_L Z h a .int vs) {j : Int32} {i : Nat} (h1 : ¬ j < 0) (hi : j.toNatClampNeg = i) (hv : vs[i]? = some v) {g : JFrame} (hg : g.method = m) {rest : List Value} (hs : g.stack = .int j :: .ref a :: rest) (hd : decode c.code g.pc = .ok (.iaload, 1)) :
    ∀ target, Steps p.tables e below (T.setTop { g with pc := g.pc + 1, stack := v :: rest }) target → Steps p.tables e below (T.setTop g) target := by
  obtain ⟨cl, A, q⟩ := F
  subst hi
  exact X.iaload hx (by rw [eT]; exact A.1) (State.isArrayOf_alike hZ.alike A.2.1) A.2.2 (own_in q h1 (own_lt hv)) (own_at q hv) hg hs hd
theorem own_zld (X : Stand p l e R s m args below meth c T locs cells slots) (hx : p.tables.exec = Jvm.exec) (hZ : Z.Warmed39 s.vm) (eT : T.heap = h) (F : own_L Z h a .boolean vs) {j : Int32} {i : Nat} (h1 : ¬ j < 0) (hi : j.toNatClampNeg = i) (hv : vs[i]? = some v) {g : JFrame} (hg : g.method = m) {rest : List Value} (hs : g.stack = .int j :: .ref a :: rest) (hd : decode c.code g.pc = .ok (.baload, 1)) :
    ∀ target, Steps p.tables e below (T.setTop { g with pc := g.pc + 1, stack := v :: rest }) target → Steps p.tables e below (T.setTop g) target := by
  obtain ⟨cl, A, q⟩ := F
  subst hi
  exact X.baloadBooleans hx (by rw [eT]; exact A.1) (State.isArrayOf_alike hZ.alike A.2.1) A.2.2 (own_in q h1 (own_lt hv)) (own_at q hv) hg hs hd
theorem own_len (X : Stand p l e R s m args below meth c T locs cells slots) (hx : p.tables.exec = Jvm.exec) (hZ : Z.Warmed39 s.vm) (eT : T.heap = h) (F : own_L Z h a ty vs) {z : Int32} (hz : vs.length.toInt32 = z) {g : JFrame} (hg : g.method = m) {rest : List Value} (hs : g.stack = .ref a :: rest) (hd : decode c.code g.pc = .ok (.arraylength, 1)) :
    ∀ target, Steps p.tables e below (T.setTop { g with pc := g.pc + 1, stack := .int z :: rest }) target → Steps p.tables e below (T.setTop g) target := by
  obtain ⟨cl, A, q⟩ := F
  intro w k
  refine X.arraylength hx (by rw [eT]; exact A.1) (State.isArrayOf_alike hZ.alike A.2.1) hg hs hd w ?_
  have q2 : cl.slots.size.toInt32 = z := by rw [← hz, q]; simp
  rw [q2]; exact k
theorem own_bst (X : Stand p l e R s m args below meth c T locs cells slots) (hx : p.tables.exec = Jvm.exec) (hZ : Z.Warmed39 s.vm) (eT : T.heap = h) (F : own_L Z h a .byte vs) {j x : Int32} (i : Nat) (h1 : ¬ j < 0) (hi : j.toNatClampNeg = i) (h2 : i < vs.length) {g : JFrame} (hg : g.method = m) {rest : List Value} (hs : g.stack = .int x :: .int j :: .ref a :: rest) (hd : decode c.code g.pc = .ok (.bastore, 1)) :
    ∃ T' h', Stand p l e R s m args below meth c T' (locs ++ [⟨a, i⟩]) cells slots ∧ T'.heap = h' ∧ Wr h h' a i (.int x.toInt8.toInt32) ∧ own_L Z h' a .byte (vs.set i (.int x.toInt8.toInt32)) ∧ ∀ target, Steps p.tables e below (T'.setTop { g with pc := g.pc + 1, stack := rest }) target → Steps p.tables e below (T.setTop g) target := by
  obtain ⟨cl, A, q⟩ := F
  subst hi
  obtain ⟨T', h', X', e', W, st⟩ := stB X hx hZ eT A (own_in q h1 h2) hg hs hd
  exact ⟨T', h', X', e', W, own_L.same ⟨cl, A, q⟩ W, st⟩
theorem own_zst (X : Stand p l e R s m args below meth c T locs cells slots) (hx : p.tables.exec = Jvm.exec) (hZ : Z.Warmed39 s.vm) (eT : T.heap = h) (F : own_L Z h a .boolean vs) {j x : Int32} (i : Nat) (h1 : ¬ j < 0) (hi : j.toNatClampNeg = i) (h2 : i < vs.length) {g : JFrame} (hg : g.method = m) {rest : List Value} (hs : g.stack = .int x :: .int j :: .ref a :: rest) (hd : decode c.code g.pc = .ok (.bastore, 1)) :
    ∃ T' h', Stand p l e R s m args below meth c T' (locs ++ [⟨a, i⟩]) cells slots ∧ T'.heap = h' ∧ Wr h h' a i (.int (x &&& 1)) ∧ own_L Z h' a .boolean (vs.set i (.int (x &&& 1))) ∧ ∀ target, Steps p.tables e below (T'.setTop { g with pc := g.pc + 1, stack := rest }) target → Steps p.tables e below (T.setTop g) target := by
  obtain ⟨cl, A, q⟩ := F
  subst hi
  obtain ⟨T', h', X', e', W, st⟩ := stZ X hx hZ eT A (own_in q h1 h2) hg hs hd
  exact ⟨T', h', X', e', W, own_L.same ⟨cl, A, q⟩ W, st⟩
theorem own_jst (X : Stand p l e R s m args below meth c T locs cells slots) (hx : p.tables.exec = Jvm.exec) (hZ : Z.Warmed39 s.vm) (eT : T.heap = h) (F : own_L Z h a .long vs) {j : Int32} {x : Int64} (i : Nat) (h1 : ¬ j < 0) (hi : j.toNatClampNeg = i) (h2 : i < vs.length) {g : JFrame} (hg : g.method = m) {rest : List Value} (hs : g.stack = .long x :: .int j :: .ref a :: rest) (hd : decode c.code g.pc = .ok (.lastore, 1)) :
    ∃ T' h', Stand p l e R s m args below meth c T' (locs ++ [⟨a, i⟩]) cells slots ∧ T'.heap = h' ∧ Wr h h' a i (.long x) ∧ own_L Z h' a .long (vs.set i (.long x)) ∧ ∀ target, Steps p.tables e below (T'.setTop { g with pc := g.pc + 1, stack := rest }) target → Steps p.tables e below (T.setTop g) target := by
  obtain ⟨cl, A, q⟩ := F
  subst hi
  obtain ⟨T', h', X', e', W, st⟩ := stJ X hx hZ eT A (own_in q h1 h2) hg hs hd
  exact ⟨T', h', X', e', W, own_L.same ⟨cl, A, q⟩ W, st⟩
theorem own_ist (X : Stand p l e R s m args below meth c T locs cells slots) (hx : p.tables.exec = Jvm.exec) (hZ : Z.Warmed39 s.vm) (eT : T.heap = h) (F : own_L Z h a .int vs) {j x : Int32} (i : Nat) (h1 : ¬ j < 0) (hi : j.toNatClampNeg = i) (h2 : i < vs.length) {g : JFrame} (hg : g.method = m) {rest : List Value} (hs : g.stack = .int x :: .int j :: .ref a :: rest) (hd : decode c.code g.pc = .ok (.iastore, 1)) :
    ∃ T' h', Stand p l e R s m args below meth c T' (locs ++ [⟨a, i⟩]) cells slots ∧ T'.heap = h' ∧ Wr h h' a i (.int x) ∧ own_L Z h' a .int (vs.set i (.int x)) ∧ ∀ target, Steps p.tables e below (T'.setTop { g with pc := g.pc + 1, stack := rest }) target → Steps p.tables e below (T.setTop g) target := by
  obtain ⟨cl, A, q⟩ := F
  subst hi
  obtain ⟨T', h', X', e', W, st⟩ := stI X hx hZ eT A (own_in q h1 h2) hg hs hd
  exact ⟨T', h', X', e', W, own_L.same ⟨cl, A, q⟩ W, st⟩
theorem own_clone (X : Stand p l e R s m args below meth c T locs cells slots) (hx : p.tables.exec = Jvm.exec) (hZ : Z.Warmed39 s.vm) {a0 : Array Value} {own ad : String} {index : Nat} (hown : s.vm.findClass own = some m.cls)
    (w1 : (Cond.methodLink own index ⟨ad, "clone", "()Ljava/lang/Object;"⟩).before a0 Z = true) (w2 : (Cond.sameMethod ad "java/lang/Object" "clone" "()Ljava/lang/Object;").before a0 Z = true) (w3 : (Cond.native ⟨"java/lang/Object", "clone", "()Ljava/lang/Object;"⟩).before a0 Z = true)
    (w4 : (Cond.instanceMethod ⟨"java/lang/Object", "clone", "()Ljava/lang/Object;"⟩).before a0 Z = true) (w5 : (Cond.selects ad ⟨ad, "clone", "()Ljava/lang/Object;"⟩ ⟨"java/lang/Object", "clone", "()Ljava/lang/Object;"⟩).before a0 Z = true) (w6 : (Cond.castable ad "java/lang/Cloneable").before a0 Z = true)
    (eT : T.heap = h) (F : own_L Z h a ty vs) (E : Exa Z h a ad) (hfit : ∀ v ∈ vs, fits ty v = true) {g : JFrame} (hg : g.method = m) (hsize : g.locals.size = c.maxLocals) {rest : List Value} (hs : g.stack = .ref a :: rest) (hd : decode c.code g.pc = .ok (.invokevirtual index, 3))
    (hf : 1 ≤ R.frames) {W cap : Nat} (hW : 2 * g.monitorRoom + (rest.map fun v => v.category).sum ≤ W) (hl : W + 14 ≤ R.locals) (hcap : vs.length ≤ cap) (hc : cells + 1 ≤ R.cells) (hsl : slots + cap ≤ R.slots) :
    ∃ T' h', Stand p l e R s m args below meth c T' locs (cells + 1) (slots + cap) ∧ T'.heap = h' ∧ Ext h h' ∧ own_L Z h' h.size ty vs ∧ Exa Z h' h.size ad ∧
      ∀ target, Steps p.tables e below (T'.setTop { g with pc := g.pc + 3, stack := .ref h.size :: rest }) target → Steps p.tables e below (T.setTop g) target := by
  obtain ⟨cl, A, q⟩ := F
  have FC : FitC Z cl := fitC_of A fun i hi v hv => hfit v (by
    rw [q] at hv
    exact List.mem_of_getElem? (by simpa using hv))
  obtain ⟨T', h', X', e', ex, A', E', st⟩ := cloneA X hx hZ hown w1 w2 w3 w4 w5 w6 eT A E FC hg hsize hs hd hf hW hl (by rw [q]; simpa using hcap) hc hsl
  exact ⟨T', h', X', e', ex, ⟨cloneOf cl, A', q⟩, E', st⟩
end Own
theorem pn_0 : plainName "com/example/winslice/winslice/ring/Cells" = true := by first | (simp [plainName, overriddenIn]; done) | decide +kernel
theorem d1_0 : decode prog_13_method_4_code 0 = .ok (.lload_n 0, 1) := by decide +kernel
theorem d1_1 : decode prog_13_method_4_code 1 = .ok (.lload_n 0, 1) := by decide +kernel
theorem d1_2 : decode prog_13_method_4_code 2 = .ok (.l2i, 1) := by decide +kernel
theorem d1_3 : decode prog_13_method_4_code 3 = .ok (.i2l, 1) := by decide +kernel
theorem d1_4 : decode prog_13_method_4_code 4 = .ok (.lcmp, 1) := by decide +kernel
theorem d1_5 : decode prog_13_method_4_code 5 = .ok (.ifCond .ne 7, 3) := by decide +kernel
theorem d1_8 : decode prog_13_method_4_code 8 = .ok (.iconst 1, 1) := by decide +kernel
theorem d1_9 : decode prog_13_method_4_code 9 = .ok (.goto 4, 3) := by decide +kernel
theorem d1_12 : decode prog_13_method_4_code 12 = .ok (.iconst 0, 1) := by decide +kernel
theorem d1_13 : decode prog_13_method_4_code 13 = .ok (.ireturn, 1) := by decide +kernel
theorem ef_rm1 (m : MethodId) (u : Int64) : entryFrame m #[(.long u)] 2 = mkF m 0 #[.val (.long u), .second] [] := by first | rfl | (simp [entryFrame, mkF, argsToLocals, Value.category]; done)
def own_f1 (u : Int64) : Int32 := (if u = ((u.toInt32).toInt64) then (1 : Int32) else (0 : Int32))
def Q1 (Z : State) (u : Int64) (h0 : Heap) (n0 : Nat) (rv : Option Value) (hq : Heap) (Lq : List Loc) : Prop := rv = some (.int (own_f1 u)) ∧ Fr n0 Lq ∧ hq = h0
set_option maxRecDepth 65536 in
set_option maxHeartbeats 40000000 in
theorem rm1 (l : Launch) (Z : State) (a0 : Array Value) (hw : ∀ d ∈ tables_1, d.before a0 Z = true) (ws : List Jvm.Cond) (u : Int64) (h0 : Heap) (n0 : Nat) (Z0 : n0 ≤ h0.size) :
    MetFree l (⟨"com/example/winslice/winslice/ring/Cells", "fits", "(J)Z"⟩ : MethodName) (head1 (Jvm.Cond.code (⟨"com/example/winslice/winslice/ring/Cells", "fits", "(J)Z"⟩ : MethodName) prog_13_method_4_code 2 (some .boolean) :: ws) ({ frames := 0, cells := 0, slots := 0, locals := 0 } : Room)) (fun za U => za = #[(.long u)] ∧ Z.Warmed39 U.vm ∧ U.heap = h0) (fun _ _ _ _ _ => True) (fun _ U o U' => ∃ rv Lq, o = .returned rv ∧ Q1 Z u h0 n0 rv U'.heap Lq ∧ FrameEnd U o U' Lq ({ frames := 0, cells := 0, slots := 0, locals := 0 } : Room).cells ({ frames := 0, cells := 0, slots := 0, locals := 0 } : Room).slots) := by
  refine MetFree.of_bodySF (plainFor_of_name pn_0) hisR ?_
  intro p e s m args below meth c s₁ Bd hml0 hP hK
  obtain ⟨rfl, hZ, hh⟩ := hP
  have hx := Bd.exec
  have hby := Bd.bytes
  have hml : c.maxLocals = 2 := hml0
  have hown : s.vm.findClass "com/example/winslice/winslice/ring/Cells" = some m.cls := findClass_of_methodNamed Bd.named
  have hnm := (name_of_methodNamed Bd.named Bd.method).1
  have X0 : Stand p l e ({ frames := 0, cells := 0, slots := 0, locals := 0 } : Room) s m #[(.long u)] below meth c s₁ [] 0 0 := Stand.of_body Bd
  have e0 : s₁.heap = h0 := by rw [← hh, Bd.state]; rfl
  have N0 := Fr.nil n0
  refine own_out (own_nm fun G hG => own_st (fun zt zk => castTop (ef_rm1 m u) zk) ?_)
  show own_Go p e below G (s₁.setTop (mkF m 0 #[.val (.long u), .second] []))
  refine own_st (fun zw zk => XS.lloadN X0.here hx rfl (hb hby d1_0) rfl zk) ?_
  refine own_st (fun zw zk => XS.lloadN X0.here hx rfl (hb hby d1_1) rfl zk) ?_
  refine own_st (fun zw zk => XS.l2i X0.here hx rfl (hb hby d1_2) rfl zk) ?_
  refine own_st (fun zw zk => XS.i2l X0.here hx rfl (hb hby d1_3) rfl zk) ?_
  refine own_st (fun zw zk => XS.lcmp X0.here hx rfl (hb hby d1_4) rfl zk) ?_
  by_cases hc5 : u = ((u.toInt32).toInt64)
  · refine own_st (fun zw zk => XS.ifNo X0.here hx rfl (hb hby d1_5) rfl ((if0 _ _).trans (teq (own_tle hc5)).2) zk) ?_
    refine own_st (fun zw zk => XS.iconst X0.here hx rfl (hb hby d1_8) zk) ?_
    refine own_st (fun zw zk => XS.goto X0.here hx rfl (pc0 := 9) (pc' := 13) rfl (hb hby d1_9) (by decide) (by decide) zk) ?_
    show own_Go p e below G (s₁.setTop (mkF m 13 #[.val (.long u), .second] [(.int (1 : Int32))]))
    subst hG
    obtain ⟨fs, hr, hrun, hended, hW, hsame⟩ := X0.leave (v := some (.int (1 : Int32))) (fun h => by rw [Bd.returns] at h; cases h)
    refine ⟨_, retN X0 hx (t := .boolean) Bd.returns (by simp) (hb hby d1_13) hr, _, hrun, hended, _, _, rfl, ?_, ⟨_, rfl⟩, hW, hsame.mono (by decide) (by decide)⟩
    show Q1 Z u h0 n0 _ s₁.heap _
    rw [e0]
    exact ⟨by unfold own_f1; rw [if_pos hc5], N0, rfl⟩
  · refine own_st (fun zw zk => XS.ifYes X0.here hx rfl (pc0 := 5) (pc' := 12) rfl (hb hby d1_5) rfl ((if0 _ _).trans (feq (own_fle hc5)).2) (by decide) (by decide) zk) ?_
    refine own_st (fun zw zk => XS.iconst X0.here hx rfl (hb hby d1_12) zk) ?_
    subst hG
    obtain ⟨fs, hr, hrun, hended, hW, hsame⟩ := X0.leave (v := some (.int (0 : Int32))) (fun h => by rw [Bd.returns] at h; cases h)
    refine ⟨_, retN X0 hx (t := .boolean) Bd.returns (by simp) (hb hby d1_13) hr, _, hrun, hended, _, _, rfl, ?_, ⟨_, rfl⟩, hW, hsame.mono (by decide) (by decide)⟩
    show Q1 Z u h0 n0 _ s₁.heap _
    rw [e0]
    exact ⟨by unfold own_f1; rw [if_neg hc5], N0, rfl⟩
theorem own_law (c : Int64) : own_f1 c = (if c < (-2147483648 : Int64) then 0 else if (2147483647 : Int64) < c then 0 else 1) := by
  have h1 := c_l2i c
  have h2 := c_i2l c.toInt32
  have h3 := rng32 c.toInt32
  have h4 := rng64 c
  have z1 : (-2147483648 : Int64).toInt = -2147483648 := by decide
  have z2 : (2147483647 : Int64).toInt = 2147483647 := by decide
  unfold own_f1
  simp only [Int64.lt_iff_toInt_lt, ← Int64.toInt_inj, h2, z1, z2]
  split <;> split <;> (try split) <;> first | rfl | (exfalso; omega)
theorem pd_0 : parseMethodDescriptor "(J)Z" = some ⟨[.long], some .boolean⟩ := by decide +kernel
theorem pn_1 : plainName "com/example/winslice/winslice/ring/CellsFitsPinLaw" = true := by first | (simp [plainName, overriddenIn]; done) | decide +kernel
theorem ef_rm0 (m : MethodId) (q0 : Int64) (p1 : Int32) : entryFrame m #[(.long q0), (.int p1)] maxLocals = mkF m 0 #[.val (.long q0), .second, .val (.int p1), .unset, .unset, .unset, .unset, .unset, .unset] [] := by first | rfl | (simp [entryFrame, mkF, argsToLocals, Value.category, maxLocals]; done)
def Q0 (Z : State) (q0 : Int64) (p1 : Int32) (h0 : Heap) (n0 : Nat) (rv : Option Value) (hq : Heap) (Lq : List Loc) : Prop := rv = some (.int 1) ∧ Fr n0 Lq
set_option maxRecDepth 65536 in
set_option maxHeartbeats 40000000 in
theorem rm0 (l : Launch) (Z : State) (a0 : Array Value) (hw : ∀ d ∈ tables_1, d.before a0 Z = true) (ws : List Jvm.Cond) (q0 : Int64) (p1 : Int32) (h0 : Heap) (n0 : Nat) (Z0 : n0 ≤ h0.size) :
    MetFree l x (head1 (Jvm.Cond.code x code maxLocals ret :: ws) room_1) (fun za U => za = #[(.long q0), (.int p1)] ∧ Z.Warmed39 U.vm ∧ U.heap = h0) (fun _ _ _ _ _ => True) (fun _ U o U' => ∃ rv Lq, o = .returned rv ∧ Q0 Z q0 p1 h0 n0 rv U'.heap Lq ∧ FrameEnd U o U' Lq room_1.cells room_1.slots) := by
  refine MetFree.of_bodySF (plainFor_of_name pn_1) hisR ?_
  intro p e s m args below meth c s₁ Bd hml0 hP hK
  obtain ⟨rfl, hZ, hh⟩ := hP
  have hx := Bd.exec
  have hby := Bd.bytes
  have hml : c.maxLocals = 9 := hml0
  have hown : s.vm.findClass "com/example/winslice/winslice/ring/CellsFitsPinLaw" = some m.cls := findClass_of_methodNamed Bd.named
  have hnm := (name_of_methodNamed Bd.named Bd.method).1
  have X0 : Stand p l e room_1 s m #[(.long q0), (.int p1)] below meth c s₁ [] 0 0 := Stand.of_body Bd
  have e0 : s₁.heap = h0 := by rw [← hh, Bd.state]; rfl
  have N0 := Fr.nil n0
  refine own_out (own_nm fun G hG => own_st (fun zt zk => castTop (ef_rm0 m q0 p1) zk) ?_)
  show own_Go p e below G (s₁.setTop (mkF m 0 #[.val (.long q0), .second, .val (.int p1), .unset, .unset, .unset, .unset, .unset, .unset] []))
  refine own_st (fun zw zk => XS.iloadN X0.here hx rfl (hb hby at_0) rfl zk) ?_
  refine own_st (fun zw zk => XS.iconst X0.here hx rfl (hb hby at_1) zk) ?_
  refine own_st (fun zw zk => XS.iand X0.here hx rfl (hb hby at_2) rfl zk) ?_
  refine own_st (fun zw zk => XS.istoreN X0.here hx rfl (hb hby at_3) rfl rfl zk) ?_
  show own_Go p e below G (s₁.setTop (mkF m 4 #[.val (.long q0), .second, .val (.int p1), .val (.int (p1 &&& (3 : Int32))), .unset, .unset, .unset, .unset, .unset] []))
  refine own_st (fun zw zk => XS.iloadN X0.here hx rfl (hb hby at_4) rfl zk) ?_
  refine own_st (fun zw zk => XS.iconst X0.here hx rfl (hb hby at_5) zk) ?_
  refine own_st (fun zw zk => XS.ishr X0.here hx rfl (hb hby at_6) rfl zk) ?_
  refine own_st (fun zw zk => XS.iconst X0.here hx rfl (hb hby at_7) zk) ?_
  refine own_st (fun zw zk => iremM X0 hx rfl (hb hby at_8) rfl (by decide) zk) ?_
  refine own_st (fun zw zk => XS.i2l X0.here hx rfl (hb hby at_9) rfl zk) ?_
  refine own_st (fun zw zk => XS.lstore X0.here hx rfl (hb hby at_10) rfl rfl zk) ?_
  have J58_1 : ∀ (c6 : Int64), own_Go p e below G (s₁.setTop (mkF m 58 #[.val (.long q0), .second, .val (.int p1), .val (.int (p1 &&& (3 : Int32))), .val (.long (((p1 >>> ((2 : Int32) &&& 31)) % (3 : Int32)).toInt64)), .second, .val (.long c6), .second, .unset] [])) := by
    intro c6
    show own_Go p e below G (s₁.setTop (mkF m 58 #[.val (.long q0), .second, .val (.int p1), .val (.int (p1 &&& (3 : Int32))), .val (.long (((p1 >>> ((2 : Int32) &&& 31)) % (3 : Int32)).toInt64)), .second, .val (.long c6), .second, .unset] []))
    refine own_st (fun zw zk => XS.lload X0.here hx rfl (hb hby at_58) rfl zk) ?_
    refine own_st (fun zw zk => X0.ldc2Long hx hown (mvT hZ (hw _ (List.mem_of_getElem? (i := 0) rfl))) (g := (mkF m 60 #[.val (.long q0), .second, .val (.int p1), .val (.int (p1 &&& (3 : Int32))), .val (.long (((p1 >>> ((2 : Int32) &&& 31)) % (3 : Int32)).toInt64)), .second, .val (.long c6), .second, .unset] [(.long c6)])) rfl (hb hby at_60) _ zk) ?_
    refine own_st (fun zw zk => XS.lcmp X0.here hx rfl (hb hby at_63) rfl zk) ?_
    by_cases hc64 : c6 < (-2147483648 : Int64)
    · refine own_st (fun zw zk => XS.ifYes X0.here hx rfl (pc0 := 64) (pc' := 80) rfl (hb hby at_64) rfl ((if0 _ _).trans (tlt (own_tll hc64)).1) (by decide) (by decide) zk) ?_
      refine own_st (fun zw zk => XS.iconst X0.here hx rfl (hb hby at_80) zk) ?_
      refine own_st (fun zw zk => XS.istore X0.here hx rfl (hb hby at_81) rfl rfl zk) ?_
      show own_Go p e below G (s₁.setTop (mkF m 83 #[.val (.long q0), .second, .val (.int p1), .val (.int (p1 &&& (3 : Int32))), .val (.long (((p1 >>> ((2 : Int32) &&& 31)) % (3 : Int32)).toInt64)), .second, .val (.long c6), .second, .val (.int (0 : Int32))] []))
      refine own_st (fun zw zk => XS.lload X0.here hx rfl (hb hby at_83) rfl zk) ?_
      obtain ⟨_, _, ⟨T2, L2, k2, n2⟩, -, X2, ⟨Lc2, hQ2, l2, y2, z2⟩, st2⟩ := Jvm.LawKit.callS X0 hx (y := (⟨"com/example/winslice/winslice/ring/Cells", "fits", "(J)Z"⟩ : MethodName)) hown (mvT hZ (hw _ (List.mem_of_getElem? (i := 2) rfl))) (mvT hZ (hw _ (List.mem_of_getElem? (i := 3) rfl))) (mvT hZ (hw _ (List.mem_of_getElem? (i := 4) rfl))) (mvT hZ (hw _ (List.mem_of_getElem? (i := 5) rfl))) (by decide) (backOf (W := 0) (rm1 l Z a0 hw [] c6 h0 n0 Z0) hZ (hw _ (List.mem_of_getElem? (i := 5) rfl)) (hw _ (List.mem_of_getElem? (i := 4) rfl)) (by decide) (by decide)) (g := (mkF m 85 #[.val (.long q0), .second, .val (.int p1), .val (.int (p1 &&& (3 : Int32))), .val (.long (((p1 >>> ((2 : Int32) &&& 31)) % (3 : Int32)).toInt64)), .second, .val (.long c6), .second, .val (.int (0 : Int32))] [(.long c6)])) rfl (by rw [hml]; rfl) (argsL := [(.long c6)]) (rest := []) (lenOf pd_0 rfl) rfl (by show 2 * 0 + _ ≤ _; exact Nat.le_of_eq rfl) (hb hby at_85) (fun _ _ => ⟨rfl, e0, (by decide : 0 + 0 ≤ _), (by decide : 0 + 0 ≤ _)⟩)
      dsimp only [Pt.U, Pt.locs, Pt.cells, Pt.slots] at X2 l2 y2 z2 st2 hQ2
      subst l2 y2 z2
      obtain ⟨rfl, N2q, e2⟩ := hQ2
      have N2 := Fr.app N0 N2q
      refine own_st (fun zw zk => st2 zw zk) ?_
      refine own_st (fun zw zk => XS.iload X2.here hx rfl (hb hby at_88) rfl zk) ?_
      have hc90 : (own_f1 c6) = (0 : Int32) := (own_law c6).trans (by rw [if_pos hc64])
      refine own_st (fun zw zk => XS.icmpNo X2.here hx rfl (hb hby at_90) rfl (teq hc90).2 zk) ?_
      refine own_st (fun zw zk => XS.iconst X2.here hx rfl (hb hby at_93) zk) ?_
      refine own_st (fun zw zk => XS.goto X2.here hx rfl (pc0 := 94) (pc' := 98) rfl (hb hby at_94) (by decide) (by decide) zk) ?_
      show own_Go p e below G (T2.setTop (mkF m 98 #[.val (.long q0), .second, .val (.int p1), .val (.int (p1 &&& (3 : Int32))), .val (.long (((p1 >>> ((2 : Int32) &&& 31)) % (3 : Int32)).toInt64)), .second, .val (.long c6), .second, .val (.int (0 : Int32))] [(.int (1 : Int32))]))
      subst hG
      obtain ⟨fs, hr, hrun, hended, hW, hsame⟩ := X2.leave (v := some (.int (1 : Int32))) (fun h => by rw [Bd.returns] at h; cases h)
      refine ⟨_, retN X2 hx (t := .boolean) Bd.returns (by simp) (hb hby at_98) hr, _, hrun, hended, _, _, rfl, ?_, ⟨_, rfl⟩, hW, hsame.mono (by decide) (by decide)⟩
      show Q0 Z q0 p1 h0 n0 _ T2.heap _
      rw [e2]
      exact ⟨rfl, N2⟩
    · refine own_st (fun zw zk => XS.ifNo X0.here hx rfl (hb hby at_64) rfl ((if0 _ _).trans (flt (own_fll hc64)).1) zk) ?_
      refine own_st (fun zw zk => XS.lload X0.here hx rfl (hb hby at_67) rfl zk) ?_
      refine own_st (fun zw zk => X0.ldc2Long hx hown (mvT hZ (hw _ (List.mem_of_getElem? (i := 1) rfl))) (g := (mkF m 69 #[.val (.long q0), .second, .val (.int p1), .val (.int (p1 &&& (3 : Int32))), .val (.long (((p1 >>> ((2 : Int32) &&& 31)) % (3 : Int32)).toInt64)), .second, .val (.long c6), .second, .unset] [(.long c6)])) rfl (hb hby at_69) _ zk) ?_
      refine own_st (fun zw zk => XS.lcmp X0.here hx rfl (hb hby at_72) rfl zk) ?_
      by_cases hc73 : (2147483647 : Int64) < c6
      · refine own_st (fun zw zk => XS.ifYes X0.here hx rfl (pc0 := 73) (pc' := 80) rfl (hb hby at_73) rfl ((if0 _ _).trans (tlt (own_tlg hc73)).2.2.1) (by decide) (by decide) zk) ?_
        show own_Go p e below G (s₁.setTop (mkF m 80 #[.val (.long q0), .second, .val (.int p1), .val (.int (p1 &&& (3 : Int32))), .val (.long (((p1 >>> ((2 : Int32) &&& 31)) % (3 : Int32)).toInt64)), .second, .val (.long c6), .second, .unset] []))
        refine own_st (fun zw zk => XS.iconst X0.here hx rfl (hb hby at_80) zk) ?_
        refine own_st (fun zw zk => XS.istore X0.here hx rfl (hb hby at_81) rfl rfl zk) ?_
        show own_Go p e below G (s₁.setTop (mkF m 83 #[.val (.long q0), .second, .val (.int p1), .val (.int (p1 &&& (3 : Int32))), .val (.long (((p1 >>> ((2 : Int32) &&& 31)) % (3 : Int32)).toInt64)), .second, .val (.long c6), .second, .val (.int (0 : Int32))] []))
        refine own_st (fun zw zk => XS.lload X0.here hx rfl (hb hby at_83) rfl zk) ?_
        obtain ⟨_, _, ⟨T3, L3, k3, n3⟩, -, X3, ⟨Lc3, hQ3, l3, y3, z3⟩, st3⟩ := Jvm.LawKit.callS X0 hx (y := (⟨"com/example/winslice/winslice/ring/Cells", "fits", "(J)Z"⟩ : MethodName)) hown (mvT hZ (hw _ (List.mem_of_getElem? (i := 2) rfl))) (mvT hZ (hw _ (List.mem_of_getElem? (i := 3) rfl))) (mvT hZ (hw _ (List.mem_of_getElem? (i := 4) rfl))) (mvT hZ (hw _ (List.mem_of_getElem? (i := 5) rfl))) (by decide) (backOf (W := 0) (rm1 l Z a0 hw [] c6 h0 n0 Z0) hZ (hw _ (List.mem_of_getElem? (i := 5) rfl)) (hw _ (List.mem_of_getElem? (i := 4) rfl)) (by decide) (by decide)) (g := (mkF m 85 #[.val (.long q0), .second, .val (.int p1), .val (.int (p1 &&& (3 : Int32))), .val (.long (((p1 >>> ((2 : Int32) &&& 31)) % (3 : Int32)).toInt64)), .second, .val (.long c6), .second, .val (.int (0 : Int32))] [(.long c6)])) rfl (by rw [hml]; rfl) (argsL := [(.long c6)]) (rest := []) (lenOf pd_0 rfl) rfl (by show 2 * 0 + _ ≤ _; exact Nat.le_of_eq rfl) (hb hby at_85) (fun _ _ => ⟨rfl, e0, (by decide : 0 + 0 ≤ _), (by decide : 0 + 0 ≤ _)⟩)
        dsimp only [Pt.U, Pt.locs, Pt.cells, Pt.slots] at X3 l3 y3 z3 st3 hQ3
        subst l3 y3 z3
        obtain ⟨rfl, N3q, e3⟩ := hQ3
        have N3 := Fr.app N0 N3q
        refine own_st (fun zw zk => st3 zw zk) ?_
        refine own_st (fun zw zk => XS.iload X3.here hx rfl (hb hby at_88) rfl zk) ?_
        have hc90 : (own_f1 c6) = (0 : Int32) := (own_law c6).trans (by rw [if_neg hc64, if_pos hc73])
        refine own_st (fun zw zk => XS.icmpNo X3.here hx rfl (hb hby at_90) rfl (teq hc90).2 zk) ?_
        refine own_st (fun zw zk => XS.iconst X3.here hx rfl (hb hby at_93) zk) ?_
        refine own_st (fun zw zk => XS.goto X3.here hx rfl (pc0 := 94) (pc' := 98) rfl (hb hby at_94) (by decide) (by decide) zk) ?_
        show own_Go p e below G (T3.setTop (mkF m 98 #[.val (.long q0), .second, .val (.int p1), .val (.int (p1 &&& (3 : Int32))), .val (.long (((p1 >>> ((2 : Int32) &&& 31)) % (3 : Int32)).toInt64)), .second, .val (.long c6), .second, .val (.int (0 : Int32))] [(.int (1 : Int32))]))
        subst hG
        obtain ⟨fs, hr, hrun, hended, hW, hsame⟩ := X3.leave (v := some (.int (1 : Int32))) (fun h => by rw [Bd.returns] at h; cases h)
        refine ⟨_, retN X3 hx (t := .boolean) Bd.returns (by simp) (hb hby at_98) hr, _, hrun, hended, _, _, rfl, ?_, ⟨_, rfl⟩, hW, hsame.mono (by decide) (by decide)⟩
        show Q0 Z q0 p1 h0 n0 _ T3.heap _
        rw [e3]
        exact ⟨rfl, N3⟩
      · refine own_st (fun zw zk => XS.ifNo X0.here hx rfl (hb hby at_73) rfl ((if0 _ _).trans (flt (own_flg hc73)).2.2.1) zk) ?_
        show own_Go p e below G (s₁.setTop (mkF m 76 #[.val (.long q0), .second, .val (.int p1), .val (.int (p1 &&& (3 : Int32))), .val (.long (((p1 >>> ((2 : Int32) &&& 31)) % (3 : Int32)).toInt64)), .second, .val (.long c6), .second, .unset] []))
        refine own_st (fun zw zk => XS.iconst X0.here hx rfl (hb hby at_76) zk) ?_
        refine own_st (fun zw zk => XS.goto X0.here hx rfl (pc0 := 77) (pc' := 81) rfl (hb hby at_77) (by decide) (by decide) zk) ?_
        show own_Go p e below G (s₁.setTop (mkF m 81 #[.val (.long q0), .second, .val (.int p1), .val (.int (p1 &&& (3 : Int32))), .val (.long (((p1 >>> ((2 : Int32) &&& 31)) % (3 : Int32)).toInt64)), .second, .val (.long c6), .second, .unset] [(.int (1 : Int32))]))
        refine own_st (fun zw zk => XS.istore X0.here hx rfl (hb hby at_81) rfl rfl zk) ?_
        show own_Go p e below G (s₁.setTop (mkF m 83 #[.val (.long q0), .second, .val (.int p1), .val (.int (p1 &&& (3 : Int32))), .val (.long (((p1 >>> ((2 : Int32) &&& 31)) % (3 : Int32)).toInt64)), .second, .val (.long c6), .second, .val (.int (1 : Int32))] []))
        refine own_st (fun zw zk => XS.lload X0.here hx rfl (hb hby at_83) rfl zk) ?_
        obtain ⟨_, _, ⟨T4, L4, k4, n4⟩, -, X4, ⟨Lc4, hQ4, l4, y4, z4⟩, st4⟩ := Jvm.LawKit.callS X0 hx (y := (⟨"com/example/winslice/winslice/ring/Cells", "fits", "(J)Z"⟩ : MethodName)) hown (mvT hZ (hw _ (List.mem_of_getElem? (i := 2) rfl))) (mvT hZ (hw _ (List.mem_of_getElem? (i := 3) rfl))) (mvT hZ (hw _ (List.mem_of_getElem? (i := 4) rfl))) (mvT hZ (hw _ (List.mem_of_getElem? (i := 5) rfl))) (by decide) (backOf (W := 0) (rm1 l Z a0 hw [] c6 h0 n0 Z0) hZ (hw _ (List.mem_of_getElem? (i := 5) rfl)) (hw _ (List.mem_of_getElem? (i := 4) rfl)) (by decide) (by decide)) (g := (mkF m 85 #[.val (.long q0), .second, .val (.int p1), .val (.int (p1 &&& (3 : Int32))), .val (.long (((p1 >>> ((2 : Int32) &&& 31)) % (3 : Int32)).toInt64)), .second, .val (.long c6), .second, .val (.int (1 : Int32))] [(.long c6)])) rfl (by rw [hml]; rfl) (argsL := [(.long c6)]) (rest := []) (lenOf pd_0 rfl) rfl (by show 2 * 0 + _ ≤ _; exact Nat.le_of_eq rfl) (hb hby at_85) (fun _ _ => ⟨rfl, e0, (by decide : 0 + 0 ≤ _), (by decide : 0 + 0 ≤ _)⟩)
        dsimp only [Pt.U, Pt.locs, Pt.cells, Pt.slots] at X4 l4 y4 z4 st4 hQ4
        subst l4 y4 z4
        obtain ⟨rfl, N4q, e4⟩ := hQ4
        have N4 := Fr.app N0 N4q
        refine own_st (fun zw zk => st4 zw zk) ?_
        refine own_st (fun zw zk => XS.iload X4.here hx rfl (hb hby at_88) rfl zk) ?_
        have hc90 : (own_f1 c6) = (1 : Int32) := (own_law c6).trans (by rw [if_neg hc64, if_neg hc73])
        refine own_st (fun zw zk => XS.icmpNo X4.here hx rfl (hb hby at_90) rfl (teq hc90).2 zk) ?_
        refine own_st (fun zw zk => XS.iconst X4.here hx rfl (hb hby at_93) zk) ?_
        refine own_st (fun zw zk => XS.goto X4.here hx rfl (pc0 := 94) (pc' := 98) rfl (hb hby at_94) (by decide) (by decide) zk) ?_
        show own_Go p e below G (T4.setTop (mkF m 98 #[.val (.long q0), .second, .val (.int p1), .val (.int (p1 &&& (3 : Int32))), .val (.long (((p1 >>> ((2 : Int32) &&& 31)) % (3 : Int32)).toInt64)), .second, .val (.long c6), .second, .val (.int (1 : Int32))] [(.int (1 : Int32))]))
        subst hG
        obtain ⟨fs, hr, hrun, hended, hW, hsame⟩ := X4.leave (v := some (.int (1 : Int32))) (fun h => by rw [Bd.returns] at h; cases h)
        refine ⟨_, retN X4 hx (t := .boolean) Bd.returns (by simp) (hb hby at_98) hr, _, hrun, hended, _, _, rfl, ?_, ⟨_, rfl⟩, hW, hsame.mono (by decide) (by decide)⟩
        show Q0 Z q0 p1 h0 n0 _ T4.heap _
        rw [e4]
        exact ⟨rfl, N4⟩
  show own_Go p e below G (s₁.setTop (mkF m 12 #[.val (.long q0), .second, .val (.int p1), .val (.int (p1 &&& (3 : Int32))), .val (.long (((p1 >>> ((2 : Int32) &&& 31)) % (3 : Int32)).toInt64)), .second, .unset, .unset, .unset] []))
  refine own_st (fun zw zk => XS.iloadN X0.here hx rfl (hb hby at_12) rfl zk) ?_
  by_cases hc13 : (p1 &&& (3 : Int32)) = (0 : Int32)
  · refine own_st (fun zw zk => XS.ifNo X0.here hx rfl (hb hby at_13) rfl ((if0 _ _).trans (teq hc13).2) zk) ?_
    refine own_st (fun zw zk => XS.lloadN X0.here hx rfl (hb hby at_16) rfl zk) ?_
    refine own_st (fun zw zk => XS.lstore X0.here hx rfl (hb hby at_17) rfl rfl zk) ?_
    show own_Go p e below G (s₁.setTop (mkF m 19 #[.val (.long q0), .second, .val (.int p1), .val (.int (p1 &&& (3 : Int32))), .val (.long (((p1 >>> ((2 : Int32) &&& 31)) % (3 : Int32)).toInt64)), .second, .val (.long q0), .second, .unset] []))
    refine own_st (fun zw zk => XS.goto X0.here hx rfl (pc0 := 19) (pc' := 58) rfl (hb hby at_19) (by decide) (by decide) zk) ?_
    show own_Go p e below G (s₁.setTop (mkF m 58 #[.val (.long q0), .second, .val (.int p1), .val (.int (p1 &&& (3 : Int32))), .val (.long (((p1 >>> ((2 : Int32) &&& 31)) % (3 : Int32)).toInt64)), .second, .val (.long q0), .second, .unset] []))
    exact J58_1 q0
  · refine own_st (fun zw zk => XS.ifYes X0.here hx rfl (pc0 := 13) (pc' := 22) rfl (hb hby at_13) rfl ((if0 _ _).trans (feq hc13).2) (by decide) (by decide) zk) ?_
    refine own_st (fun zw zk => XS.iloadN X0.here hx rfl (hb hby at_22) rfl zk) ?_
    refine own_st (fun zw zk => XS.iconst X0.here hx rfl (hb hby at_23) zk) ?_
    by_cases hc24 : (p1 &&& (3 : Int32)) = (1 : Int32)
    · refine own_st (fun zw zk => XS.icmpNo X0.here hx rfl (hb hby at_24) rfl (teq hc24).2 zk) ?_
      refine own_st (fun zw zk => X0.ldc2Long hx hown (mvT hZ (hw _ (List.mem_of_getElem? (i := 1) rfl))) (g := (mkF m 27 #[.val (.long q0), .second, .val (.int p1), .val (.int (p1 &&& (3 : Int32))), .val (.long (((p1 >>> ((2 : Int32) &&& 31)) % (3 : Int32)).toInt64)), .second, .unset, .unset, .unset] [])) rfl (hb hby at_27) _ zk) ?_
      refine own_st (fun zw zk => XS.lload X0.here hx rfl (hb hby at_30) rfl zk) ?_
      refine own_st (fun zw zk => XS.ladd X0.here hx rfl (hb hby at_32) rfl zk) ?_
      show own_Go p e below G (s₁.setTop (mkF m 33 #[.val (.long q0), .second, .val (.int p1), .val (.int (p1 &&& (3 : Int32))), .val (.long (((p1 >>> ((2 : Int32) &&& 31)) % (3 : Int32)).toInt64)), .second, .unset, .unset, .unset] [(.long ((2147483647 : Int64) + (((p1 >>> ((2 : Int32) &&& 31)) % (3 : Int32)).toInt64)))]))
      refine own_st (fun zw zk => XS.lstore X0.here hx rfl (hb hby at_33) rfl rfl zk) ?_
      show own_Go p e below G (s₁.setTop (mkF m 35 #[.val (.long q0), .second, .val (.int p1), .val (.int (p1 &&& (3 : Int32))), .val (.long (((p1 >>> ((2 : Int32) &&& 31)) % (3 : Int32)).toInt64)), .second, .val (.long ((2147483647 : Int64) + (((p1 >>> ((2 : Int32) &&& 31)) % (3 : Int32)).toInt64))), .second, .unset] []))
      refine own_st (fun zw zk => XS.goto X0.here hx rfl (pc0 := 35) (pc' := 58) rfl (hb hby at_35) (by decide) (by decide) zk) ?_
      show own_Go p e below G (s₁.setTop (mkF m 58 #[.val (.long q0), .second, .val (.int p1), .val (.int (p1 &&& (3 : Int32))), .val (.long (((p1 >>> ((2 : Int32) &&& 31)) % (3 : Int32)).toInt64)), .second, .val (.long ((2147483647 : Int64) + (((p1 >>> ((2 : Int32) &&& 31)) % (3 : Int32)).toInt64))), .second, .unset] []))
      exact J58_1 ((2147483647 : Int64) + (((p1 >>> ((2 : Int32) &&& 31)) % (3 : Int32)).toInt64))
    · refine own_st (fun zw zk => XS.icmpYes X0.here hx rfl (pc0 := 24) (pc' := 38) rfl (hb hby at_24) rfl (feq hc24).2 (by decide) (by decide) zk) ?_
      refine own_st (fun zw zk => XS.iloadN X0.here hx rfl (hb hby at_38) rfl zk) ?_
      refine own_st (fun zw zk => XS.iconst X0.here hx rfl (hb hby at_39) zk) ?_
      by_cases hc40 : (p1 &&& (3 : Int32)) = (2 : Int32)
      · refine own_st (fun zw zk => XS.icmpNo X0.here hx rfl (hb hby at_40) rfl (teq hc40).2 zk) ?_
        show own_Go p e below G (s₁.setTop (mkF m 43 #[.val (.long q0), .second, .val (.int p1), .val (.int (p1 &&& (3 : Int32))), .val (.long (((p1 >>> ((2 : Int32) &&& 31)) % (3 : Int32)).toInt64)), .second, .unset, .unset, .unset] []))
        refine own_st (fun zw zk => X0.ldc2Long hx hown (mvT hZ (hw _ (List.mem_of_getElem? (i := 0) rfl))) (g := (mkF m 43 #[.val (.long q0), .second, .val (.int p1), .val (.int (p1 &&& (3 : Int32))), .val (.long (((p1 >>> ((2 : Int32) &&& 31)) % (3 : Int32)).toInt64)), .second, .unset, .unset, .unset] [])) rfl (hb hby at_43) _ zk) ?_
        refine own_st (fun zw zk => XS.lload X0.here hx rfl (hb hby at_46) rfl zk) ?_
        refine own_st (fun zw zk => XS.ladd X0.here hx rfl (hb hby at_48) rfl zk) ?_
        refine own_st (fun zw zk => XS.lstore X0.here hx rfl (hb hby at_49) rfl rfl zk) ?_
        show own_Go p e below G (s₁.setTop (mkF m 51 #[.val (.long q0), .second, .val (.int p1), .val (.int (p1 &&& (3 : Int32))), .val (.long (((p1 >>> ((2 : Int32) &&& 31)) % (3 : Int32)).toInt64)), .second, .val (.long ((-2147483648 : Int64) + (((p1 >>> ((2 : Int32) &&& 31)) % (3 : Int32)).toInt64))), .second, .unset] []))
        refine own_st (fun zw zk => XS.goto X0.here hx rfl (pc0 := 51) (pc' := 58) rfl (hb hby at_51) (by decide) (by decide) zk) ?_
        show own_Go p e below G (s₁.setTop (mkF m 58 #[.val (.long q0), .second, .val (.int p1), .val (.int (p1 &&& (3 : Int32))), .val (.long (((p1 >>> ((2 : Int32) &&& 31)) % (3 : Int32)).toInt64)), .second, .val (.long ((-2147483648 : Int64) + (((p1 >>> ((2 : Int32) &&& 31)) % (3 : Int32)).toInt64))), .second, .unset] []))
        exact J58_1 ((-2147483648 : Int64) + (((p1 >>> ((2 : Int32) &&& 31)) % (3 : Int32)).toInt64))
      · refine own_st (fun zw zk => XS.icmpYes X0.here hx rfl (pc0 := 40) (pc' := 54) rfl (hb hby at_40) rfl (feq hc40).2 (by decide) (by decide) zk) ?_
        show own_Go p e below G (s₁.setTop (mkF m 54 #[.val (.long q0), .second, .val (.int p1), .val (.int (p1 &&& (3 : Int32))), .val (.long (((p1 >>> ((2 : Int32) &&& 31)) % (3 : Int32)).toInt64)), .second, .unset, .unset, .unset] []))
        refine own_st (fun zw zk => XS.iloadN X0.here hx rfl (hb hby at_54) rfl zk) ?_
        refine own_st (fun zw zk => XS.i2l X0.here hx rfl (hb hby at_55) rfl zk) ?_
        refine own_st (fun zw zk => XS.lstore X0.here hx rfl (hb hby at_56) rfl rfl zk) ?_
        show own_Go p e below G (s₁.setTop (mkF m 58 #[.val (.long q0), .second, .val (.int p1), .val (.int (p1 &&& (3 : Int32))), .val (.long (((p1 >>> ((2 : Int32) &&& 31)) % (3 : Int32)).toInt64)), .second, .val (.long (p1.toInt64)), .second, .unset] []))
        exact J58_1 (p1.toInt64)
set_option maxRecDepth 65536 in
set_option maxHeartbeats 40000000 in
theorem comes_1 {Post : Tables → Env → Array Value → State → Outcome → State → Prop} (hpost : ∀ tb e args s v u, (limb_1_1.after args s (.returned v) u = true ∧ limb_1_2.after args s (.returned v) u = true ∧ True) → FrameEnd s (.returned v) u (Jvm.fieldLocs frame_1_writes args s ++ Jvm.arrayLocs frame_1_arrays args s ++ Jvm.staticLocs frame_1_statics s) 0 0 → Post tb e args s (.returned v) u) :
    ArmFor flags0 classFile x code maxLocals ret World_1 tables_1 room_1 Calls_1 rest_1 Pre_1 Post := by
  intro l hfl _ _ p e ha hc hk s m args below hf hA hF happ hP
  obtain ⟨hcalls, hrest, hpre⟩ := hP
  obtain ⟨-, -, -, hnamed, -, -, -, hat⟩ := (Spec.applies_iff hf).mp happ
  obtain ⟨hg, hn⟩ := and_e (Cond.before_iff.mp (show (Jvm.Cond.and given_1 narrow_1).before args s = true from hpre))
  obtain ⟨g1, g2⟩ := and_e hg
  obtain ⟨g3, g4⟩ := and_e g2
  obtain ⟨w0, w1, rfl⟩ : ∃ w0 w1 : Value, args = #[w0, w1] := by
    have hs : args.size = 2 := by simpa [Cond.value, given_1] using g1
    obtain ⟨L⟩ := args
    match L, hs with
    | [w0, w1], _ => exact ⟨w0, w1, rfl⟩
  have hw := fun d (hd : d ∈ tables_1) => atoms_spec (ws := Jvm.Cond.code x code maxLocals ret :: tables_1) hat d (List.mem_cons_of_mem _ hd)
  obtain ⟨i0, ei0⟩ := isL_v g3
  obtain rfl : w0 = (.long i0) := Option.some.inj ei0
  obtain ⟨i1, ei1⟩ := is_v g4
  obtain rfl : w1 = (.int i1) := Option.some.inj ei1
  obtain ⟨n, o, h1, h2, h3, _, L, rfl, ⟨rfl, N⟩, hq⟩ := rm0 l s _ hw tables_1 i0 i1 s.heap s.heap.size (Nat.le_refl _) p e ha hc hk s m _ below hf ((Spec.applies_iff_loose hf).mp happ).1 ⟨rfl, State.Warmed39.refl s, rfl⟩ trivial
  refine ⟨n, _, h1, h2, h3, hpost _ _ _ _ _ _ ⟨Cond.after_iff.mpr rfl, Cond.after_iff.mpr (eq_i res_at (Term.int_eval (1)) rfl), trivial⟩ ⟨hq.1, hq.2.1, (hq.2.2.sift fun y hy => Or.inr (N y hy)).mono (by decide) (by decide)⟩⟩
theorem main_1_1 : Claimed_1_1 := comes_1 fun _ _ _ _ _ _ h hF => ⟨h.1, hF⟩
theorem main_1_2 : Claimed_1_2 := comes_1 fun _ _ _ _ _ _ h hF => ⟨h.2.1, hF⟩
end Jvm.Pilot.@@N@@
namespace Jvm.Pilot.@@N@@
open Jvm Jvm.ClassFile Sem Op Lib Jvm.Free Jvm.Stand Jvm.Pilot.@@N@@.Jvm.D
/-! MADE BY PROGRAM (witnessworld.py) out of the Statement's table words and the real class files: 7 classes; the members and pool entries that the words name. The judged class is class 1, her method 1. -/
namespace start1
open Jvm.ClassFile
def u (s : String) : CpInfo := .utf8 (stringToUtf16 s)
/-- a pool by its gaps: so many unusable entries, then the entry; so many at the end -/
def gap : Nat → List CpInfo → List CpInfo
  | 0, r => r
  | n + 1, r => .unusable :: gap n r
def poolList (es : List (Nat × CpInfo)) (last : Nat) : List CpInfo := es.foldr (fun e r => gap e.1 (e.2 :: r)) (gap last [])
def pool (es : List (Nat × CpInfo)) (last : Nat) : Array CpInfo := ⟨poolList es last⟩
def fileOf (pool : Array CpInfo) (this : Nat) (attrs : Array Attribute := #[]) (ms : Array MethodInfo := #[]) (fl : Nat := 33) (sup : Nat := 0) (ifs : Array Nat := #[]) (fds : Array FieldInfo := #[]) : ClassFile where
  minorVersion := 0
  majorVersion := 65
  constantPool := pool
  accessFlags := fl
  thisClass := this
  superClass := sup
  interfaces := ifs
  fields := fds
  methods := ms
  attributes := attrs
def plain (name : String) (sup : Option ClassId) : Class where
  name := name
  kind := .ordinary
  loader := none
  accessFlags := 33
  super := sup
  interfaces := #[]
  cf := none
  fields := #[]
  methods := #[]
  instanceTypes := #[]
  staticTypes := #[]
  resolved := #[]
  callSites := []
  init := .initialized
  statics := none
  mirror := none

def pool0 : Array CpInfo := pool [(5, u "<init>"), (0, u "()V"), (1, .class_ 10), (1, u "java/lang/Object")] 113

def k0m0 : Method := { name := "<init>", desc := "()V", sig := { parameters := [], returnType := none }, accessFlags := 1, code := none }
/-- java/lang/Object -/
def k0 : Class := { plain "java/lang/Object" none with
  accessFlags := 33
  interfaces := #[]
  cf := some (fileOf pool0 8 #[] #[{ accessFlags := 1, nameIndex := 5, descriptorIndex := 6, attributes := #[] }] 33 0 #[] #[])
  fields := #[]
  methods := #[k0m0]
  instanceTypes := #[]
  staticTypes := #[]
  resolved := Array.replicate 124 none
  statics := none }

def pool1 : Array CpInfo := pool [(2, .class_ 4), (1, u "java/lang/Object"), (0, u "<init>"), (0, u "()V"), (2, .long 2147483647), (1, .long 18446744071562067968), (1, .methodref 14 15), (0, .class_ 16), (0, .nameAndType 17 18), (0, u "com/example/winslice/winslice/ring/Cells"), (0, u "fits"), (0, u "(J)Z"), (0, .class_ 20), (0, u "com/example/winslice/winslice/ring/CellsFitsPinLaw"), (2, u "law"), (0, u "(JI)Z")] 3

def k1m0 : Method := { name := "<init>", desc := "()V", sig := { parameters := [], returnType := none }, accessFlags := 1, code := none }
def k1c1 : Code := { maxStack := 4, maxLocals := 9, code := code, exceptionTable := #[], attributes := #[] }
def k1m1 : Method := { name := "law", desc := "(JI)Z", sig := { parameters := [.long, .int], returnType := some .boolean }, accessFlags := 9, code := some k1c1 }
/-- com/example/winslice/winslice/ring/CellsFitsPinLaw -/
def k1 : Class := { plain "com/example/winslice/winslice/ring/CellsFitsPinLaw" (some 0) with
  accessFlags := 49
  interfaces := #[]
  cf := some (fileOf pool1 19 #[] #[{ accessFlags := 1, nameIndex := 5, descriptorIndex := 6, attributes := #[] }, { accessFlags := 9, nameIndex := 23, descriptorIndex := 24, attributes := #[] }] 49 2 #[] #[])
  fields := #[]
  methods := #[k1m0, k1m1]
  instanceTypes := #[]
  staticTypes := #[]
  resolved := Array.replicate 28 none
  statics := none }

def pool2 : Array CpInfo := pool [(2, .class_ 4), (1, u "java/lang/Object"), (3, .class_ 10), (1, u "com/example/winslice/winslice/ring/Cells"), (0, u "size"), (0, u "I"), (2, u "slots"), (0, u "[J"), (13, u "PROBE"), (0, u "Ljava/lang/ThreadLocal;"), (10, u "MOST"), (2, u "SLOT"), (0, u "Ljava/lang/invoke/VarHandle;"), (22, u "releases"), (19, u "SEEDS"), (0, u "Ljava/util/concurrent/atomic/AtomicInteger;"), (34, u "SPACING"), (2, u "COUNT_BITS"), (0, u "J"), (0, u "FROZEN"), (0, u "STAMP_SHIFT"), (1, u "GOLDEN"), (7, u "fits"), (0, u "(J)Z")] 38

def k2c0 : Code := { maxStack := 4, maxLocals := 2, code := prog_13_method_4_code, exceptionTable := #[], attributes := #[] }
def k2m0 : Method := { name := "fits", desc := "(J)Z", sig := { parameters := [.long], returnType := some .boolean }, accessFlags := 8, code := some k2c0 }
/-- com/example/winslice/winslice/ring/Cells -/
def k2 : Class := { plain "com/example/winslice/winslice/ring/Cells" (some 0) with
  accessFlags := 32
  interfaces := #[]
  cf := some (fileOf pool2 8 #[] #[{ accessFlags := 8, nameIndex := 141, descriptorIndex := 142, attributes := #[] }] 32 2 #[] #[{ accessFlags := 26, nameIndex := 45, descriptorIndex := 46, attributes := #[] }, { accessFlags := 26, nameIndex := 125, descriptorIndex := 12, attributes := #[] }, { accessFlags := 26, nameIndex := 128, descriptorIndex := 129, attributes := #[] }, { accessFlags := 26, nameIndex := 130, descriptorIndex := 129, attributes := #[] }, { accessFlags := 26, nameIndex := 131, descriptorIndex := 12, attributes := #[] }, { accessFlags := 26, nameIndex := 42, descriptorIndex := 12, attributes := #[] }, { accessFlags := 26, nameIndex := 133, descriptorIndex := 12, attributes := #[] }, { accessFlags := 26, nameIndex := 89, descriptorIndex := 90, attributes := #[] }, { accessFlags := 26, nameIndex := 30, descriptorIndex := 31, attributes := #[] }, { accessFlags := 18, nameIndex := 11, descriptorIndex := 12, attributes := #[] }, { accessFlags := 18, nameIndex := 15, descriptorIndex := 16, attributes := #[] }, { accessFlags := 2, nameIndex := 69, descriptorIndex := 12, attributes := #[] }])
  fields := #[{ name := "SLOT", type := (.object "java/lang/invoke/VarHandle"), accessFlags := 26, slot := 0, constantValue := 0 }, { name := "SPACING", type := .int, accessFlags := 26, slot := 1, constantValue := 0 }, { name := "COUNT_BITS", type := .long, accessFlags := 26, slot := 2, constantValue := 0 }, { name := "FROZEN", type := .long, accessFlags := 26, slot := 3, constantValue := 0 }, { name := "STAMP_SHIFT", type := .int, accessFlags := 26, slot := 4, constantValue := 0 }, { name := "MOST", type := .int, accessFlags := 26, slot := 5, constantValue := 0 }, { name := "GOLDEN", type := .int, accessFlags := 26, slot := 6, constantValue := 0 }, { name := "SEEDS", type := (.object "java/util/concurrent/atomic/AtomicInteger"), accessFlags := 26, slot := 7, constantValue := 0 }, { name := "PROBE", type := (.object "java/lang/ThreadLocal"), accessFlags := 26, slot := 8, constantValue := 0 }, { name := "size", type := .int, accessFlags := 18, slot := 0, constantValue := 0 }, { name := "slots", type := (.array .long), accessFlags := 18, slot := 1, constantValue := 0 }, { name := "releases", type := .int, accessFlags := 2, slot := 2, constantValue := 0 }]
  methods := #[k2m0]
  instanceTypes := #[.int, (.array .long), .int]
  staticTypes := #[(.object "java/lang/invoke/VarHandle"), .int, .long, .long, .int, .int, .int, (.object "java/util/concurrent/atomic/AtomicInteger"), (.object "java/lang/ThreadLocal")]
  resolved := Array.replicate 181 none
  statics := none }

def pool3 : Array CpInfo := pool [(1, u "java/lang/Cloneable"), (0, .class_ 1), (0, u "java/lang/Object"), (0, .class_ 3)] 3

/-- java/lang/Cloneable -/
def k3 : Class := { plain "java/lang/Cloneable" (some 0) with
  accessFlags := 1537
  interfaces := #[]
  cf := some (fileOf pool3 2 #[] #[] 1537 4 #[] #[])
  fields := #[]
  methods := #[]
  instanceTypes := #[]
  staticTypes := #[]
  resolved := Array.replicate 8 none
  statics := none }

def pool4 : Array CpInfo := pool [(1, u "java/io/Serializable"), (0, .class_ 1), (0, u "java/lang/Object"), (0, .class_ 3)] 3

/-- java/io/Serializable -/
def k4 : Class := { plain "java/io/Serializable" (some 0) with
  accessFlags := 1537
  interfaces := #[]
  cf := some (fileOf pool4 2 #[] #[] 1537 4 #[] #[])
  fields := #[]
  methods := #[]
  instanceTypes := #[]
  staticTypes := #[]
  resolved := Array.replicate 8 none
  statics := none }

/-- the primitive byte -/
def k5 : Class := { plain "byte" none with kind := .primitive 'B', accessFlags := 0x411 }
/-- [B -/
def k6 : Class := { plain "[B" (some 0) with kind := .array 5 .byte, interfaces := #[3, 4], accessFlags := 1041 }

def heap : Heap := #[]
def classes : Array Class := #[k0, k1, k2, k3, k4, k5, k6]
def interned : List (Array UInt16 × Addr) := []
def slotsUsed : Nat := 0
def theMethod : MethodId := ⟨1, 1⟩
def args0 : Array Value := #[.long 5, .int 6]
def aboutOver (below : List Frame) : State where
  vm := { classes := classes, interned := interned.toArray }
  heap := heap
  slotsUsed := slotsUsed
  threads := #[{ frames := .invoking theMethod args0 :: below }]
def below0 : List Frame := [.native { method := ⟨0, 0⟩, args := #[] }]
def about1 : State := aboutOver below0
def p0 : Program := .bare "" "" ""
def e0 : Env := launch0.env 0 0 0
theorem w_frames : about1.frames = Frame.invoking theMethod args0 :: below0 := rfl
set_option maxRecDepth 65536 in
theorem w_args : argsFit about1.vm theMethod args0 = true := by decide +kernel
set_option maxRecDepth 65536 in
theorem w_heap : heapFits about1 = true := by decide +kernel
set_option maxRecDepth 65536 in
theorem w_runnable : about1.curStatus? = some .runnable := by decide +kernel
set_option maxRecDepth 65536 in
theorem w_alone : about1.alone = true := by decide +kernel
set_option maxRecDepth 65536 in
theorem w_named : about1.methodNamed? x = some theMethod := by decide +kernel
set_option maxRecDepth 65536 in
theorem w_hears : about1.hears theMethod below0 = true := by decide +kernel
set_option maxRecDepth 65536 in
theorem w_ripe : about1.ripe theMethod args0 below0 = true := by decide +kernel
theorem w_running : about1.status = .running := rfl
set_option maxRecDepth 65536 in
theorem w_room : about1.hasRoom e0.platform room_1 = true :=
  launch0.hasRoom_least _ room_1 (by decide +kernel) (by decide +kernel) (by decide +kernel) (by decide +kernel) (by decide +kernel) (by decide +kernel)
theorem allAtoms_all (ts : List Jvm.Cond) (a : Array Jvm.Value) (st : Jvm.State) : (allAtoms ts).before a st = ts.all (fun c => c.before a st) := by
  induction ts with
  | nil => rfl
  | cons c t ih =>
    show (Jvm.Cond.and c (allAtoms t)).before a st = _
    rw [Jvm.Cond.before_and, ih, List.all_cons]
def words1 : List Jvm.Cond := Jvm.Cond.code x code maxLocals ret :: tables_1
/-- a 'code' word, met by the world's own term for the bytes: nothing is compared byte by byte -/
theorem code_word {y : MethodName} {bytes : ByteArray} {mx : Nat} {rt : Option FieldType} {a : Array Value} {s : State} {m : MethodId} {meth : Method} {c : Code} (h1 : s.methodNamed? y = some m) (h2 : s.vm.method? m = some meth) (h3 : meth.code = some c) (h4 : c.code = bytes)
    (h5 : (c.maxLocals == mx && c.exceptionTable.isEmpty && decide (c.maxStack ≤ mostOperands) && decide (meth.sig.returnType = rt) && !meth.locks && decide (parseMethodDescriptor y.desc = some meth.sig)) = true) : (Jvm.Cond.code y bytes mx rt).before a s = true := by
  simp only [Bool.and_eq_true, beq_iff_eq, Bool.not_eq_true', decide_eq_true_eq] at h5
  obtain ⟨⟨⟨⟨⟨g1, g2⟩, g3⟩, g4⟩, g5⟩, g6⟩ := h5
  simp [Cond.before, Cond.holds, Cond.value, h1, h2, h3, h4, g1, g2, g3, g4, g5, g6]
def isCode : Jvm.Cond → Bool
  | .code _ _ _ _ => true
  | _ => false
theorem all_split {L : List Jvm.Cond} {P : Jvm.Cond → Bool} (h1 : L.all (fun c => isCode c || P c) = true) (h2 : ∀ c ∈ L.filter isCode, P c = true) : L.all P = true := by
  refine List.all_eq_true.mpr fun c hc => ?_
  have h := List.all_eq_true.mp h1 c hc
  rcases Bool.eq_false_or_eq_true (isCode c) with hi | hi
  · exact h2 c (List.mem_filter.mpr ⟨hc, hi⟩)
  · simpa [hi] using h
set_option maxRecDepth 65536 in
theorem w_c0 : (Jvm.Cond.code x code maxLocals ret).before args0 about1 = true := code_word (m := ⟨1, 1⟩) (meth := k1m1) (c := k1c1) (by decide +kernel) rfl rfl rfl (by decide +kernel)
set_option maxRecDepth 65536 in
theorem w_c1 : (Jvm.Cond.code ({ cls := "com/example/winslice/winslice/ring/Cells", name := "fits", desc := "(J)Z" } : Jvm.MethodName) prog_13_method_4_code (2 : Nat) (Option.some Jvm.ClassFile.FieldType.boolean)).before args0 about1 = true := code_word (m := ⟨2, 0⟩) (meth := k2m0) (c := k2c0) (by decide +kernel) rfl rfl rfl (by decide +kernel)
def codes1 : List Jvm.Cond := [Jvm.Cond.code x code maxLocals ret, Jvm.Cond.code ({ cls := "com/example/winslice/winslice/ring/Cells", name := "fits", desc := "(J)Z" } : Jvm.MethodName) prog_13_method_4_code (2 : Nat) (Option.some Jvm.ClassFile.FieldType.boolean)]
set_option maxRecDepth 65536 in
theorem codes_eq : words1.filter isCode = codes1 := rfl
theorem w_codes : ∀ c ∈ words1.filter isCode, c.before args0 about1 = true := by
  rw [codes_eq]
  intro c hc
  simp only [codes1, List.mem_cons, List.not_mem_nil, or_false] at hc
  rcases hc with rfl | rfl
  · exact w_c0
  · exact w_c1
set_option maxRecDepth 65536 in
theorem w_t1 : words1.all (fun c => isCode c || c.before args0 about1) = true := by decide +kernel
theorem w_tables : (allAtoms (Jvm.Cond.code x code maxLocals ret :: tables_1)).before args0 about1 = true := by
  rw [allAtoms_all]
  show words1.all (fun c => c.before args0 about1) = true
  refine all_split ?_ w_codes
  rw [w_t1]
set_option maxRecDepth 65536 in
theorem w_case : (Jvm.Cond.and given_1 narrow_1).before args0 about1 = true := by decide +kernel
theorem w_applies : (headSpec (Jvm.Cond.code x code maxLocals ret :: tables_1) room_1).applies x e0.platform about1 = true :=
  (Spec.applies_iff w_frames).mpr ⟨w_running, w_runnable, w_alone, w_named, w_hears, w_ripe, w_room, w_tables⟩
theorem atStart : AtStart classFile x code maxLocals ret World_1 tables_1 room_1 Calls_1 rest_1 Pre_1 launch0 p0 e0 about1 theMethod args0 below0 :=
  ⟨lists_1, trivial, launch0.admits_env _ _ _, launch0.least_env, fairChoices_fair.cas, fairChoices_fair.clock, w_frames, w_args, w_heap, w_applies, trivial, trivial, w_case⟩
end start1
theorem witness_1 : WitnessClaimed_1 := ⟨start1.p0, start1.e0, start1.about1, start1.theMethod, start1.args0, start1.below0, start1.atStart⟩
end Jvm.Pilot.@@N@@
