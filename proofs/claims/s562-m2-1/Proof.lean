import JvmDerived
import JvmDerived.Pilot.@@N@@Statement
import JvmDerived.Pilot.@@N@@Code
set_option linter.unusedVariables false
set_option linter.unusedSimpArgs false
namespace Jvm.Pilot.@@N@@
open Jvm Jvm.ClassFile Sem Op Lib Jvm.Free Jvm.Stand Jvm.LawKit Jvm.RoadKit Bundle Jvm.Pilot.@@N@@.Jvm.D
/-! own_Go: from t the run comes to a state where G holds. A walk is written backwards from the goal, so that a case split may stand anywhere. -/
def own_Go (p : Program) (e : Env) (below : List Frame) (G : State → Prop) (t : State) : Prop := ∃ u, Steps p.tables e below t u ∧ G u
theorem own_st {p : Program} {e : Env} {below : List Frame} {G : State → Prop} {t u : State} (f : ∀ w, Steps p.tables e below u w → Steps p.tables e below t w) (k : own_Go p e below G u) : own_Go p e below G t := by
  obtain ⟨w, s, g⟩ := k
  exact ⟨w, f w s, g⟩
theorem own_jp {p : Program} {e : Env} {below : List Frame} {G : State → Prop} {t u : State} (f : Steps p.tables e below t u) (k : own_Go p e below G u) : own_Go p e below G t := by
  obtain ⟨w, s, g⟩ := k
  exact ⟨w, f.trans s, g⟩
theorem own_out {p : Program} {e : Env} {below : List Frame} {t : State} {Q : Outcome → State → Prop} (k : own_Go p e below (fun u => ∃ o, u.status = .running ∧ Ended u below o ∧ Q o u) t) : ∃ s₂ o, Steps p.tables e below t s₂ ∧ s₂.status = .running ∧ Ended s₂ below o ∧ Q o s₂ := by
  obtain ⟨w, s, o, g⟩ := k
  exact ⟨w, o, s, g⟩
theorem own_nm {p : Program} {e : Env} {below : List Frame} {G0 : State → Prop} {t : State} (k : ∀ G, G = G0 → own_Go p e below G t) : own_Go p e below G0 t := k _ rfl
theorem own_tll {x y : Int64} (h : x < y) : lcmpW x y < 0 := (lw_lt x y).mpr h
theorem own_fll {x y : Int64} (h : ¬ x < y) : ¬ lcmpW x y < 0 := fun q => h ((lw_lt x y).mp q)
theorem own_tlg {x y : Int64} (h : y < x) : 0 < lcmpW x y := (lw_gt x y).mpr h
theorem own_flg {x y : Int64} (h : ¬ y < x) : ¬ 0 < lcmpW x y := fun q => h ((lw_gt x y).mp q)
theorem own_tle {x y : Int64} (h : x = y) : lcmpW x y = 0 := (lw_eq x y).mpr h
theorem own_fle {x y : Int64} (h : ¬ x = y) : ¬ lcmpW x y = 0 := fun q => h ((lw_eq x y).mp q)
section Own
variable {p : Program} {l : Launch} {e : Env} {R : Room} {s : State} {m : MethodId} {args : Array Value} {below : List Frame} {meth : Method} {c : Code} {T : State} {locs : List Loc} {cells slots : Nat} {Z : State} {h h' : Heap} {a b : Addr} {ty : FieldType} {vs : List Value} {v : Value}
theorem own_retI (X : Stand p l e R s m args below meth c T locs cells slots) (hx : p.tables.exec = Jvm.exec) {pc : Nat} {Ls : Array Slot} {z : Int32} {rest : List Value} (hret : meth.sig.returnType = some .int) (hd : decode c.code pc = .ok (.ireturn, 1)) {fs : List Frame}
    (hl : ∀ (f : JFrame) (acts : List Action), f.method = m → f.locked = none → f.entered = [] → (doReturn e (T.setTop f) acts (some (.int z))).1 = T.setFrames fs) : Steps p.tables e below (T.setTop (mkF m pc Ls (.int z :: rest))) (T.setFrames fs) :=
  retOut X hx hret rfl (Or.inl ⟨rfl, Or.inl rfl, z, rfl⟩) hd hl
theorem own_retJ (X : Stand p l e R s m args below meth c T locs cells slots) (hx : p.tables.exec = Jvm.exec) {pc : Nat} {Ls : Array Slot} {z : Int64} {rest : List Value} (hret : meth.sig.returnType = some .long) (hd : decode c.code pc = .ok (.lreturn, 1)) {fs : List Frame}
    (hl : ∀ (f : JFrame) (acts : List Action), f.method = m → f.locked = none → f.entered = [] → (doReturn e (T.setTop f) acts (some (.long z))).1 = T.setFrames fs) : Steps p.tables e below (T.setTop (mkF m pc Ls (.long z :: rest))) (T.setFrames fs) :=
  retOut X hx hret rfl (Or.inr (Or.inl ⟨rfl, rfl, z, rfl⟩)) hd hl
/-! own_L: the array at a holds just the list vs -/
def own_L (Z : State) (h : Heap) (a : Addr) (ty : FieldType) (vs : List Value) : Prop := ∃ cl : Cell, Arr Z h a cl ty ∧ cl.slots = vs.toArray
theorem own_L.lt (F : own_L Z h a ty vs) : a < h.size := by obtain ⟨cl, A, -⟩ := F; exact A.lt
theorem own_L.ext (F : own_L Z h a ty vs) (E : Ext h h') : own_L Z h' a ty vs := by obtain ⟨cl, A, q⟩ := F; exact ⟨cl, A.ext E, q⟩
theorem own_L.other {sl : Nat} (F : own_L Z h b ty vs) (W : Wr h h' a sl v) (q : b ≠ a) : own_L Z h' b ty vs := by obtain ⟨cl, A, r⟩ := F; exact ⟨cl, A.other W q, r⟩
theorem own_L.keep {ws : List Addr} (F : own_L Z h a ty vs) (K : Keep h h' ws) (q : a ∉ ws) : own_L Z h' a ty vs := by obtain ⟨cl, A, r⟩ := F; exact ⟨cl, ⟨K.2.1 a cl A.1 q, A.2⟩, r⟩
theorem own_L.new {k : ClassId} {z : Int32} (A : Arr Z h a (newA k ty z) ty) : own_L Z h a ty (List.replicate z.toNatClampNeg (defaultValue ty)) := ⟨_, A, by simp [newA]⟩
theorem own_L.same {k : Nat} (F : own_L Z h a ty vs) (W : Wr h h' a k v) : own_L Z h' a ty (vs.set k v) := by
  obtain ⟨cl, A, q⟩ := F
  exact ⟨_, A.same W, by simp [Cell.setSlot, q]⟩
theorem own_in {cl : Cell} {j : Int32} (q : cl.slots = vs.toArray) (h1 : ¬ j < 0) (h2 : j.toNatClampNeg < vs.length) : ¬ (j < 0 ∨ cl.slots.size ≤ j.toNatClampNeg) := by
  rw [q]
  rintro (r | r)
  · exact h1 r
  · simp at r; omega
theorem own_at {cl : Cell} {k : Nat} (q : cl.slots = vs.toArray) (hv : vs[k]? = some v) : cl.slots[k]? = some v := by rw [q]; simpa using hv
theorem own_lt {k : Nat} (hv : vs[k]? = some v) : k < vs.length := by
  obtain ⟨q, -⟩ := List.getElem?_eq_some_iff.mp hv
  exact q
theorem own_bld (X : Stand p l e R s m args below meth c T locs cells slots) (hx : p.tables.exec = Jvm.exec) (hZ : Z.Warmed39 s.vm) (eT : T.heap = h) (F : own_L Z h a .byte vs) {j : Int32} {i : Nat} (h1 : ¬ j < 0) (hi : j.toNatClampNeg = i) (hv : vs[i]? = some v) {g : JFrame} (hg : g.method = m) {rest : List Value} (hs : g.stack = .int j :: .ref a :: rest) (hd : decode c.code g.pc = .ok (.baload, 1)) :
    ∀ target, Steps p.tables e below (T.setTop { g with pc := g.pc + 1, stack := v :: rest }) target → Steps p.tables e below (T.setTop g) target := by
  obtain ⟨cl, A, q⟩ := F
  subst hi
  exact X.baloadBytes hx (by rw [eT]; exact A.1) (State.isArrayOf_alike hZ.alike A.2.1) A.2.2 (own_in q h1 (own_lt hv)) (own_at q hv) hg hs hd
theorem own_jld (X : Stand p l e R s m args below meth c T locs cells slots) (hx : p.tables.exec = Jvm.exec) (hZ : Z.Warmed39 s.vm) (eT : T.heap = h) (F : own_L Z h a .long vs) {j : Int32} {i : Nat} (h1 : ¬ j < 0) (hi : j.toNatClampNeg = i) (hv : vs[i]? = some v) {g : JFrame} (hg : g.method = m) {rest : List Value} (hs : g.stack = .int j :: .ref a :: rest) (hd : decode c.code g.pc = .ok (.laload, 1)) :
    ∀ target, Steps p.tables e below (T.setTop { g with pc := g.pc + 1, stack := v :: rest }) target → Steps p.tables e below (T.setTop g) target := by
  obtain ⟨cl, A, q⟩ := F
  subst hi
  exact X.laload hx (by rw [eT]; exact A.1) (State.isArrayOf_alike hZ.alike A.2.1) A.2.2 (own_in q h1 (own_lt hv)) (own_at q hv) hg hs hd
theorem own_ild (X : Stand p l e R s m args below meth c T locs cells slots) (hx : p.tables.exec = Jvm.exec) (hZ : Z.Warmed39 s.vm) (eT : T.heap = h) (F : own_L Z h a .int vs) {j : Int32} {i : Nat} (h1 : ¬ j < 0) (hi : j.toNatClampNeg = i) (hv : vs[i]? = some v) {g : JFrame} (hg : g.method = m) {rest : List Value} (hs : g.stack = .int j :: .ref a :: rest) (hd : decode c.code g.pc = .ok (.iaload, 1)) :
    ∀ target, Steps p.tables e below (T.setTop { g with pc := g.pc + 1, stack := v :: rest }) target → Steps p.tables e below (T.setTop g) target := by
  obtain ⟨cl, A, q⟩ := F
  subst hi
  exact X.iaload hx (by rw [eT]; exact A.1) (State.isArrayOf_alike hZ.alike A.2.1) A.2.2 (own_in q h1 (own_lt hv)) (own_at q hv) hg hs hd
theorem own_zld (X : Stand p l e R s m args below meth c T locs cells slots) (hx : p.tables.exec = Jvm.exec) (hZ : Z.Warmed39 s.vm) (eT : T.heap = h) (F : own_L Z h a .boolean vs) {j : Int32} {i : Nat} (h1 : ¬ j < 0) (hi : j.toNatClampNeg = i) (hv : vs[i]? = some v) {g : JFrame} (hg : g.method = m) {rest : List Value} (hs : g.stack = .int j :: .ref a :: rest) (hd : decode c.code g.pc = .ok (.baload, 1)) :
    ∀ target, Steps p.tables e below (T.setTop { g with pc := g.pc + 1, stack := v :: rest }) target → Steps p.tables e below (T.setTop g) target := by
  obtain ⟨cl, A, q⟩ := F
  subst hi
  exact X.baloadBooleans hx (by rw [eT]; exact A.1) (State.isArrayOf_alike hZ.alike A.2.1) A.2.2 (own_in q h1 (own_lt hv)) (own_at q hv) hg hs hd
theorem own_len (X : Stand p l e R s m args below meth c T locs cells slots) (hx : p.tables.exec = Jvm.exec) (hZ : Z.Warmed39 s.vm) (eT : T.heap = h) (F : own_L Z h a ty vs) {z : Int32} (hz : vs.length.toInt32 = z) {g : JFrame} (hg : g.method = m) {rest : List Value} (hs : g.stack = .ref a :: rest) (hd : decode c.code g.pc = .ok (.arraylength, 1)) :
    ∀ target, Steps p.tables e below (T.setTop { g with pc := g.pc + 1, stack := .int z :: rest }) target → Steps p.tables e below (T.setTop g) target := by
  obtain ⟨cl, A, q⟩ := F
  intro w k
  refine X.arraylength hx (by rw [eT]; exact A.1) (State.isArrayOf_alike hZ.alike A.2.1) hg hs hd w ?_
  have q2 : cl.slots.size.toInt32 = z := by rw [← hz, q]; simp
  rw [q2]; exact k
theorem own_bst (X : Stand p l e R s m args below meth c T locs cells slots) (hx : p.tables.exec = Jvm.exec) (hZ : Z.Warmed39 s.vm) (eT : T.heap = h) (F : own_L Z h a .byte vs) {j x : Int32} (i : Nat) (h1 : ¬ j < 0) (hi : j.toNatClampNeg = i) (h2 : i < vs.length) {g : JFrame} (hg : g.method = m) {rest : List Value} (hs : g.stack = .int x :: .int j :: .ref a :: rest) (hd : decode c.code g.pc = .ok (.bastore, 1)) :
    ∃ T' h', Stand p l e R s m args below meth c T' (locs ++ [⟨a, i⟩]) cells slots ∧ T'.heap = h' ∧ Wr h h' a i (.int x.toInt8.toInt32) ∧ own_L Z h' a .byte (vs.set i (.int x.toInt8.toInt32)) ∧ ∀ target, Steps p.tables e below (T'.setTop { g with pc := g.pc + 1, stack := rest }) target → Steps p.tables e below (T.setTop g) target := by
  obtain ⟨cl, A, q⟩ := F
  subst hi
  obtain ⟨T', h', X', e', W, st⟩ := stB X hx hZ eT A (own_in q h1 h2) hg hs hd
  exact ⟨T', h', X', e', W, own_L.same ⟨cl, A, q⟩ W, st⟩
theorem own_zst (X : Stand p l e R s m args below meth c T locs cells slots) (hx : p.tables.exec = Jvm.exec) (hZ : Z.Warmed39 s.vm) (eT : T.heap = h) (F : own_L Z h a .boolean vs) {j x : Int32} (i : Nat) (h1 : ¬ j < 0) (hi : j.toNatClampNeg = i) (h2 : i < vs.length) {g : JFrame} (hg : g.method = m) {rest : List Value} (hs : g.stack = .int x :: .int j :: .ref a :: rest) (hd : decode c.code g.pc = .ok (.bastore, 1)) :
    ∃ T' h', Stand p l e R s m args below meth c T' (locs ++ [⟨a, i⟩]) cells slots ∧ T'.heap = h' ∧ Wr h h' a i (.int (x &&& 1)) ∧ own_L Z h' a .boolean (vs.set i (.int (x &&& 1))) ∧ ∀ target, Steps p.tables e below (T'.setTop { g with pc := g.pc + 1, stack := rest }) target → Steps p.tables e below (T.setTop g) target := by
  obtain ⟨cl, A, q⟩ := F
  subst hi
  obtain ⟨T', h', X', e', W, st⟩ := stZ X hx hZ eT A (own_in q h1 h2) hg hs hd
  exact ⟨T', h', X', e', W, own_L.same ⟨cl, A, q⟩ W, st⟩
theorem own_jst (X : Stand p l e R s m args below meth c T locs cells slots) (hx : p.tables.exec = Jvm.exec) (hZ : Z.Warmed39 s.vm) (eT : T.heap = h) (F : own_L Z h a .long vs) {j : Int32} {x : Int64} (i : Nat) (h1 : ¬ j < 0) (hi : j.toNatClampNeg = i) (h2 : i < vs.length) {g : JFrame} (hg : g.method = m) {rest : List Value} (hs : g.stack = .long x :: .int j :: .ref a :: rest) (hd : decode c.code g.pc = .ok (.lastore, 1)) :
    ∃ T' h', Stand p l e R s m args below meth c T' (locs ++ [⟨a, i⟩]) cells slots ∧ T'.heap = h' ∧ Wr h h' a i (.long x) ∧ own_L Z h' a .long (vs.set i (.long x)) ∧ ∀ target, Steps p.tables e below (T'.setTop { g with pc := g.pc + 1, stack := rest }) target → Steps p.tables e below (T.setTop g) target := by
  obtain ⟨cl, A, q⟩ := F
  subst hi
  obtain ⟨T', h', X', e', W, st⟩ := stJ X hx hZ eT A (own_in q h1 h2) hg hs hd
  exact ⟨T', h', X', e', W, own_L.same ⟨cl, A, q⟩ W, st⟩
theorem own_ist (X : Stand p l e R s m args below meth c T locs cells slots) (hx : p.tables.exec = Jvm.exec) (hZ : Z.Warmed39 s.vm) (eT : T.heap = h) (F : own_L Z h a .int vs) {j x : Int32} (i : Nat) (h1 : ¬ j < 0) (hi : j.toNatClampNeg = i) (h2 : i < vs.length) {g : JFrame} (hg : g.method = m) {rest : List Value} (hs : g.stack = .int x :: .int j :: .ref a :: rest) (hd : decode c.code g.pc = .ok (.iastore, 1)) :
    ∃ T' h', Stand p l e R s m args below meth c T' (locs ++ [⟨a, i⟩]) cells slots ∧ T'.heap = h' ∧ Wr h h' a i (.int x) ∧ own_L Z h' a .int (vs.set i (.int x)) ∧ ∀ target, Steps p.tables e below (T'.setTop { g with pc := g.pc + 1, stack := rest }) target → Steps p.tables e below (T.setTop g) target := by
  obtain ⟨cl, A, q⟩ := F
  subst hi
  obtain ⟨T', h', X', e', W, st⟩ := stI X hx hZ eT A (own_in q h1 h2) hg hs hd
  exact ⟨T', h', X', e', W, own_L.same ⟨cl, A, q⟩ W, st⟩
theorem own_clone (X : Stand p l e R s m args below meth c T locs cells slots) (hx : p.tables.exec = Jvm.exec) (hZ : Z.Warmed39 s.vm) {a0 : Array Value} {own ad : String} {index : Nat} (hown : s.vm.findClass own = some m.cls)
    (w1 : (Cond.methodLink own index ⟨ad, "clone", "()Ljava/lang/Object;"⟩).before a0 Z = true) (w2 : (Cond.sameMethod ad "java/lang/Object" "clone" "()Ljava/lang/Object;").before a0 Z = true) (w3 : (Cond.native ⟨"java/lang/Object", "clone", "()Ljava/lang/Object;"⟩).before a0 Z = true)
    (w4 : (Cond.instanceMethod ⟨"java/lang/Object", "clone", "()Ljava/lang/Object;"⟩).before a0 Z = true) (w5 : (Cond.selects ad ⟨ad, "clone", "()Ljava/lang/Object;"⟩ ⟨"java/lang/Object", "clone", "()Ljava/lang/Object;"⟩).before a0 Z = true) (w6 : (Cond.castable ad "java/lang/Cloneable").before a0 Z = true)
    (eT : T.heap = h) (F : own_L Z h a ty vs) (E : Exa Z h a ad) (hfit : ∀ v ∈ vs, fits ty v = true) {g : JFrame} (hg : g.method = m) (hsize : g.locals.size = c.maxLocals) {rest : List Value} (hs : g.stack = .ref a :: rest) (hd : decode c.code g.pc = .ok (.invokevirtual index, 3))
    (hf : 1 ≤ R.frames) {W cap : Nat} (hW : 2 * g.monitorRoom + (rest.map fun v => v.category).sum ≤ W) (hl : W + 14 ≤ R.locals) (hcap : vs.length ≤ cap) (hc : cells + 1 ≤ R.cells) (hsl : slots + cap ≤ R.slots) :
    ∃ T' h', Stand p l e R s m args below meth c T' locs (cells + 1) (slots + cap) ∧ T'.heap = h' ∧ Ext h h' ∧ own_L Z h' h.size ty vs ∧ Exa Z h' h.size ad ∧
      ∀ target, Steps p.tables e below (T'.setTop { g with pc := g.pc + 3, stack := .ref h.size :: rest }) target → Steps p.tables e below (T.setTop g) target := by
  obtain ⟨cl, A, q⟩ := F
  have FC : FitC Z cl := fitC_of A fun i hi v hv => hfit v (by
    rw [q] at hv
    exact List.mem_of_getElem? (by simpa using hv))
  obtain ⟨T', h', X', e', ex, A', E', st⟩ := cloneA X hx hZ hown w1 w2 w3 w4 w5 w6 eT A E FC hg hsize hs hd hf hW hl (by rw [q]; simpa using hcap) hc hsl
  exact ⟨T', h', X', e', ex, ⟨cloneOf cl, A', q⟩, E', st⟩
end Own
theorem d1_0 : decode jdk_29_method_70_code 0 = .ok (.lload_n 0, 1) := by decide +kernel
theorem d1_1 : decode jdk_29_method_70_code 1 = .ok (.lload_n 2, 1) := by decide +kernel
theorem d1_2 : decode jdk_29_method_70_code 2 = .ok (.lcmp, 1) := by decide +kernel
theorem d1_3 : decode jdk_29_method_70_code 3 = .ok (.ifCond .gt 7, 3) := by decide +kernel
theorem d1_6 : decode jdk_29_method_70_code 6 = .ok (.lload_n 0, 1) := by decide +kernel
theorem d1_7 : decode jdk_29_method_70_code 7 = .ok (.goto 4, 3) := by decide +kernel
theorem d1_10 : decode jdk_29_method_70_code 10 = .ok (.lload_n 2, 1) := by decide +kernel
theorem d1_11 : decode jdk_29_method_70_code 11 = .ok (.lreturn, 1) := by decide +kernel
theorem ef_rm1 (m : MethodId) (u : Int64) (v : Int64) : entryFrame m #[(.long u), (.long v)] 4 = mkF m 0 #[.val (.long u), .second, .val (.long v), .second] [] := by first | (simp [entryFrame, mkF, argsToLocals, Value.category]; done) | rfl
def own_mn (u : Int64) (v : Int64) : Int64 := (if v < u then v else u)
def Q1 (Z : State) (u : Int64) (v : Int64) (h0 : Heap) (n0 : Nat) (rv : Option Value) (hq : Heap) (Lq : List Loc) : Prop := rv = some (.long (own_mn u v)) ∧ Fr n0 Lq ∧ hq = h0
set_option maxRecDepth 65536 in
set_option maxHeartbeats 40000000 in
theorem rm1 (l : Launch) (Z : State) (a0 : Array Value) (hw : ∀ d ∈ tables_1, d.before a0 Z = true) (ws : List Jvm.Cond) (u : Int64) (v : Int64) (h0 : Heap) (n0 : Nat) (Z0 : n0 ≤ h0.size) :
    MetFree l (⟨"java/lang/Math", "min", "(JJ)J"⟩ : MethodName) (head1 (Jvm.Cond.code (⟨"java/lang/Math", "min", "(JJ)J"⟩ : MethodName) jdk_29_method_70_code 4 (some .long) :: ws) ({ frames := 0, cells := 0, slots := 0, locals := 0 } : Room)) (fun za U => za = #[(.long u), (.long v)] ∧ Z.Warmed39 U.vm ∧ U.heap = h0) (fun _ _ _ _ _ => True) (fun _ U o U' => ∃ rv Lq, o = .returned rv ∧ Q1 Z u v h0 n0 rv U'.heap Lq ∧ FrameEnd U o U' Lq ({ frames := 0, cells := 0, slots := 0, locals := 0 } : Room).cells ({ frames := 0, cells := 0, slots := 0, locals := 0 } : Room).slots) := by
  refine MetFree.of_bodySF (Jvm.Free.JP.mathPlain rfl (by decide +kernel)) hisR ?_
  intro p e s m args below meth c s₁ Bd hml0 hP hK
  obtain ⟨rfl, hZ, hh⟩ := hP
  have hx := Bd.exec
  have hby := Bd.bytes
  have hml : c.maxLocals = 4 := hml0
  have hown : s.vm.findClass "java/lang/Math" = some m.cls := findClass_of_methodNamed Bd.named
  have hnm := (name_of_methodNamed Bd.named Bd.method).1
  have X0 : Stand p l e ({ frames := 0, cells := 0, slots := 0, locals := 0 } : Room) s m #[(.long u), (.long v)] below meth c s₁ [] 0 0 := Stand.of_body Bd
  have e0 : s₁.heap = h0 := by rw [← hh, Bd.state]; rfl
  have N0 := Fr.nil n0
  refine own_out (own_nm fun G hG => own_st (fun zt zk => castTop (ef_rm1 m u v) zk) ?_)
  show own_Go p e below G (s₁.setTop (mkF m 0 #[.val (.long u), .second, .val (.long v), .second] []))
  refine own_st (fun zw zk => XS.lloadN X0.here hx rfl (hb hby d1_0) rfl zk) ?_
  refine own_st (fun zw zk => XS.lloadN X0.here hx rfl (hb hby d1_1) rfl zk) ?_
  refine own_st (fun zw zk => XS.lcmp X0.here hx rfl (hb hby d1_2) rfl zk) ?_
  by_cases hc3 : v < u
  · refine own_st (fun zw zk => XS.ifYes X0.here hx rfl (pc0 := 3) (pc' := 10) rfl (hb hby d1_3) rfl ((if0 _ _).trans (tlt (own_tlg hc3)).2.2.1) (by decide) (by decide) zk) ?_
    refine own_st (fun zw zk => XS.lloadN X0.here hx rfl (hb hby d1_10) rfl zk) ?_
    subst hG
    obtain ⟨fs, hr, hrun, hended, hW, hsame⟩ := X0.leave (v := some (.long v)) (hlocks := Bd.notSynchronized) (fun h => by rw [Bd.returns] at h; cases h)
    refine ⟨_, own_retJ X0 hx Bd.returns (hb hby d1_11) hr, _, hrun, hended, _, _, rfl, ?_, ⟨_, rfl⟩, hW, hsame.mono (by decide) (by decide)⟩
    show Q1 Z u v h0 n0 _ s₁.heap _
    rw [e0]
    exact ⟨by unfold own_mn; rw [if_pos hc3], N0, rfl⟩
  · refine own_st (fun zw zk => XS.ifNo X0.here hx rfl (hb hby d1_3) rfl ((if0 _ _).trans (flt (own_flg hc3)).2.2.1) zk) ?_
    refine own_st (fun zw zk => XS.lloadN X0.here hx rfl (hb hby d1_6) rfl zk) ?_
    refine own_st (fun zw zk => XS.goto X0.here hx rfl (pc0 := 7) (pc' := 11) rfl (hb hby d1_7) (by decide) (by decide) zk) ?_
    show own_Go p e below G (s₁.setTop (mkF m 11 #[.val (.long u), .second, .val (.long v), .second] [(.long u)]))
    subst hG
    obtain ⟨fs, hr, hrun, hended, hW, hsame⟩ := X0.leave (v := some (.long u)) (hlocks := Bd.notSynchronized) (fun h => by rw [Bd.returns] at h; cases h)
    refine ⟨_, own_retJ X0 hx Bd.returns (hb hby d1_11) hr, _, hrun, hended, _, _, rfl, ?_, ⟨_, rfl⟩, hW, hsame.mono (by decide) (by decide)⟩
    show Q1 Z u v h0 n0 _ s₁.heap _
    rw [e0]
    exact ⟨by unfold own_mn; rw [if_neg hc3], N0, rfl⟩
theorem d2_0 : decode jdk_29_method_66_code 0 = .ok (.lload_n 0, 1) := by decide +kernel
theorem d2_1 : decode jdk_29_method_66_code 1 = .ok (.lload_n 2, 1) := by decide +kernel
theorem d2_2 : decode jdk_29_method_66_code 2 = .ok (.lcmp, 1) := by decide +kernel
theorem d2_3 : decode jdk_29_method_66_code 3 = .ok (.ifCond .lt 7, 3) := by decide +kernel
theorem d2_6 : decode jdk_29_method_66_code 6 = .ok (.lload_n 0, 1) := by decide +kernel
theorem d2_7 : decode jdk_29_method_66_code 7 = .ok (.goto 4, 3) := by decide +kernel
theorem d2_10 : decode jdk_29_method_66_code 10 = .ok (.lload_n 2, 1) := by decide +kernel
theorem d2_11 : decode jdk_29_method_66_code 11 = .ok (.lreturn, 1) := by decide +kernel
theorem ef_rm2 (m : MethodId) (u : Int64) (v : Int64) : entryFrame m #[(.long u), (.long v)] 4 = mkF m 0 #[.val (.long u), .second, .val (.long v), .second] [] := by first | (simp [entryFrame, mkF, argsToLocals, Value.category]; done) | rfl
def own_mx (u : Int64) (v : Int64) : Int64 := (if u < v then v else u)
def Q2 (Z : State) (u : Int64) (v : Int64) (h0 : Heap) (n0 : Nat) (rv : Option Value) (hq : Heap) (Lq : List Loc) : Prop := rv = some (.long (own_mx u v)) ∧ Fr n0 Lq ∧ hq = h0
set_option maxRecDepth 65536 in
set_option maxHeartbeats 40000000 in
theorem rm2 (l : Launch) (Z : State) (a0 : Array Value) (hw : ∀ d ∈ tables_1, d.before a0 Z = true) (ws : List Jvm.Cond) (u : Int64) (v : Int64) (h0 : Heap) (n0 : Nat) (Z0 : n0 ≤ h0.size) :
    MetFree l (⟨"java/lang/Math", "max", "(JJ)J"⟩ : MethodName) (head1 (Jvm.Cond.code (⟨"java/lang/Math", "max", "(JJ)J"⟩ : MethodName) jdk_29_method_66_code 4 (some .long) :: ws) ({ frames := 0, cells := 0, slots := 0, locals := 0 } : Room)) (fun za U => za = #[(.long u), (.long v)] ∧ Z.Warmed39 U.vm ∧ U.heap = h0) (fun _ _ _ _ _ => True) (fun _ U o U' => ∃ rv Lq, o = .returned rv ∧ Q2 Z u v h0 n0 rv U'.heap Lq ∧ FrameEnd U o U' Lq ({ frames := 0, cells := 0, slots := 0, locals := 0 } : Room).cells ({ frames := 0, cells := 0, slots := 0, locals := 0 } : Room).slots) := by
  refine MetFree.of_bodySF (Jvm.Free.JP.mathPlain rfl (by decide +kernel)) hisR ?_
  intro p e s m args below meth c s₁ Bd hml0 hP hK
  obtain ⟨rfl, hZ, hh⟩ := hP
  have hx := Bd.exec
  have hby := Bd.bytes
  have hml : c.maxLocals = 4 := hml0
  have hown : s.vm.findClass "java/lang/Math" = some m.cls := findClass_of_methodNamed Bd.named
  have hnm := (name_of_methodNamed Bd.named Bd.method).1
  have X0 : Stand p l e ({ frames := 0, cells := 0, slots := 0, locals := 0 } : Room) s m #[(.long u), (.long v)] below meth c s₁ [] 0 0 := Stand.of_body Bd
  have e0 : s₁.heap = h0 := by rw [← hh, Bd.state]; rfl
  have N0 := Fr.nil n0
  refine own_out (own_nm fun G hG => own_st (fun zt zk => castTop (ef_rm2 m u v) zk) ?_)
  show own_Go p e below G (s₁.setTop (mkF m 0 #[.val (.long u), .second, .val (.long v), .second] []))
  refine own_st (fun zw zk => XS.lloadN X0.here hx rfl (hb hby d2_0) rfl zk) ?_
  refine own_st (fun zw zk => XS.lloadN X0.here hx rfl (hb hby d2_1) rfl zk) ?_
  refine own_st (fun zw zk => XS.lcmp X0.here hx rfl (hb hby d2_2) rfl zk) ?_
  by_cases hc3 : u < v
  · refine own_st (fun zw zk => XS.ifYes X0.here hx rfl (pc0 := 3) (pc' := 10) rfl (hb hby d2_3) rfl ((if0 _ _).trans (tlt (own_tll hc3)).1) (by decide) (by decide) zk) ?_
    refine own_st (fun zw zk => XS.lloadN X0.here hx rfl (hb hby d2_10) rfl zk) ?_
    subst hG
    obtain ⟨fs, hr, hrun, hended, hW, hsame⟩ := X0.leave (v := some (.long v)) (hlocks := Bd.notSynchronized) (fun h => by rw [Bd.returns] at h; cases h)
    refine ⟨_, own_retJ X0 hx Bd.returns (hb hby d2_11) hr, _, hrun, hended, _, _, rfl, ?_, ⟨_, rfl⟩, hW, hsame.mono (by decide) (by decide)⟩
    show Q2 Z u v h0 n0 _ s₁.heap _
    rw [e0]
    exact ⟨by unfold own_mx; rw [if_pos hc3], N0, rfl⟩
  · refine own_st (fun zw zk => XS.ifNo X0.here hx rfl (hb hby d2_3) rfl ((if0 _ _).trans (flt (own_fll hc3)).1) zk) ?_
    refine own_st (fun zw zk => XS.lloadN X0.here hx rfl (hb hby d2_6) rfl zk) ?_
    refine own_st (fun zw zk => XS.goto X0.here hx rfl (pc0 := 7) (pc' := 11) rfl (hb hby d2_7) (by decide) (by decide) zk) ?_
    show own_Go p e below G (s₁.setTop (mkF m 11 #[.val (.long u), .second, .val (.long v), .second] [(.long u)]))
    subst hG
    obtain ⟨fs, hr, hrun, hended, hW, hsame⟩ := X0.leave (v := some (.long u)) (hlocks := Bd.notSynchronized) (fun h => by rw [Bd.returns] at h; cases h)
    refine ⟨_, own_retJ X0 hx Bd.returns (hb hby d2_11) hr, _, hrun, hended, _, _, rfl, ?_, ⟨_, rfl⟩, hW, hsame.mono (by decide) (by decide)⟩
    show Q2 Z u v h0 n0 _ s₁.heap _
    rw [e0]
    exact ⟨by unfold own_mx; rw [if_neg hc3], N0, rfl⟩
theorem pn_0 : plainName "java/lang/Record" = true := by first | (simp [plainName, overriddenIn]; done) | decide +kernel
theorem d4_0 : decode jdk_30_method_1_code 0 = .ok (.aload_n 0, 1) := by decide +kernel
theorem d4_1 : decode jdk_30_method_1_code 1 = .ok (.invokespecial 1, 3) := by decide +kernel
theorem d4_4 : decode jdk_30_method_1_code 4 = .ok (.return_, 1) := by decide +kernel
theorem ef_rm4 (m : MethodId) (r : Addr) : entryFrame m #[(.ref r)] 1 = mkF m 0 #[.val (.ref r)] [] := by first | (simp [entryFrame, mkF, argsToLocals, Value.category]; done) | rfl
def Q4 (Z : State) (r : Addr) (h0 : Heap) (n0 : Nat) (rv : Option Value) (hq : Heap) (Lq : List Loc) : Prop := rv = none ∧ Fr n0 Lq ∧ hq = h0
set_option maxRecDepth 65536 in
set_option maxHeartbeats 40000000 in
theorem rm4 (l : Launch) (Z : State) (a0 : Array Value) (hw : ∀ d ∈ tables_1, d.before a0 Z = true) (ws : List Jvm.Cond) (r : Addr) (h0 : Heap) (n0 : Nat) (Z0 : n0 ≤ h0.size) :
    MetFree l (⟨"java/lang/Record", "<init>", "()V"⟩ : MethodName) (head1 (Jvm.Cond.code (⟨"java/lang/Record", "<init>", "()V"⟩ : MethodName) jdk_30_method_1_code 1 none :: ws) ({ frames := 1, cells := 0, slots := 0, locals := 12 } : Room)) (fun za U => za = #[(.ref r)] ∧ Z.Warmed39 U.vm ∧ U.heap = h0) (fun _ _ _ _ _ => True) (fun _ U o U' => ∃ rv Lq, o = .returned rv ∧ Q4 Z r h0 n0 rv U'.heap Lq ∧ FrameEnd U o U' Lq ({ frames := 1, cells := 0, slots := 0, locals := 12 } : Room).cells ({ frames := 1, cells := 0, slots := 0, locals := 12 } : Room).slots) := by
  refine MetFree.of_bodySF (plainFor_of_name pn_0) hisR ?_
  intro p e s m args below meth c s₁ Bd hml0 hP hK
  obtain ⟨rfl, hZ, hh⟩ := hP
  have hx := Bd.exec
  have hby := Bd.bytes
  have hml : c.maxLocals = 1 := hml0
  have hown : s.vm.findClass "java/lang/Record" = some m.cls := findClass_of_methodNamed Bd.named
  have hnm := (name_of_methodNamed Bd.named Bd.method).1
  have X0 : Stand p l e ({ frames := 1, cells := 0, slots := 0, locals := 12 } : Room) s m #[(.ref r)] below meth c s₁ [] 0 0 := Stand.of_body Bd
  have e0 : s₁.heap = h0 := by rw [← hh, Bd.state]; rfl
  have N0 := Fr.nil n0
  refine own_out (own_nm fun G hG => own_st (fun zt zk => castTop (ef_rm4 m r) zk) ?_)
  show own_Go p e below G (s₁.setTop (mkF m 0 #[.val (.ref r)] []))
  refine own_st (fun zw zk => XS.aloadN X0.here hx rfl (hb hby d4_0) rfl rfl zk) ?_
  obtain ⟨T1, X1, e1, st1⟩ := initO X0 hx hZ hown (hw _ (List.mem_of_getElem? (i := 18) rfl)) (hw _ (List.mem_of_getElem? (i := 19) rfl)) (hw _ (List.mem_of_getElem? (i := 20) rfl)) e0 (g := (mkF m 1 #[.val (.ref r)] [(.ref r)])) rfl (by rw [hml]; rfl) rfl (hb hby d4_1) (by decide) (W := 0) (by show 2 * 0 + _ ≤ _; exact Nat.le_of_eq rfl) (by decide)
  refine own_st (fun zw zk => st1 zw zk) ?_
  subst hG
  obtain ⟨fs, hr, hrun, hended, hW, hsame⟩ := X1.leave (v := none) (hlocks := Bd.notSynchronized) (fun _ => rfl)
  refine ⟨_, X1.returnOut hx Bd.returns (hb hby d4_4) hr, _, hrun, hended, _, _, rfl, ?_, ⟨_, rfl⟩, hW, hsame.mono (by decide) (by decide)⟩
  show Q4 Z r h0 n0 _ T1.heap _
  rw [e1]
  exact ⟨rfl, N0, rfl⟩
theorem pd_0 : parseMethodDescriptor "()V" = some ⟨[], none⟩ := by decide +kernel
theorem pn_1 : plainName "com/example/verdicts_from_fragments/verdictsfromfragments/protocol/EventType$Domain$Range" = true := by first | (simp [plainName, overriddenIn]; done) | decide +kernel
theorem d3_0 : decode prog_54_method_1_code 0 = .ok (.aload_n 0, 1) := by decide +kernel
theorem d3_1 : decode prog_54_method_1_code 1 = .ok (.invokespecial 1, 3) := by decide +kernel
theorem d3_4 : decode prog_54_method_1_code 4 = .ok (.lload_n 1, 1) := by decide +kernel
theorem d3_5 : decode prog_54_method_1_code 5 = .ok (.lload_n 3, 1) := by decide +kernel
theorem d3_6 : decode prog_54_method_1_code 6 = .ok (.lcmp, 1) := by decide +kernel
theorem d3_7 : decode prog_54_method_1_code 7 = .ok (.ifCond .le 18, 3) := by decide +kernel
theorem d3_25 : decode prog_54_method_1_code 25 = .ok (.aload_n 0, 1) := by decide +kernel
theorem d3_26 : decode prog_54_method_1_code 26 = .ok (.lload_n 1, 1) := by decide +kernel
theorem d3_27 : decode prog_54_method_1_code 27 = .ok (.putfield 16, 3) := by decide +kernel
theorem d3_30 : decode prog_54_method_1_code 30 = .ok (.aload_n 0, 1) := by decide +kernel
theorem d3_31 : decode prog_54_method_1_code 31 = .ok (.lload_n 3, 1) := by decide +kernel
theorem d3_32 : decode prog_54_method_1_code 32 = .ok (.putfield 22, 3) := by decide +kernel
theorem d3_35 : decode prog_54_method_1_code 35 = .ok (.return_, 1) := by decide +kernel
theorem ef_rm3 (m : MethodId) (d : Addr) (q1 : Int64) (q2 : Int64) : entryFrame m #[(.ref d), (.long q1), (.long q2)] 5 = mkF m 0 #[.val (.ref d), .val (.long q1), .second, .val (.long q2), .second] [] := by first | (simp [entryFrame, mkF, argsToLocals, Value.category]; done) | rfl
def Q3 (Z : State) (d : Addr) (q1 : Int64) (q2 : Int64) (h0 : Heap) (n0 : Nat) (rv : Option Value) (hq : Heap) (Lq : List Loc) : Prop := rv = none ∧ Fr n0 Lq ∧ Keep h0 hq [d] ∧ Exa Z hq d "com/example/verdicts_from_fragments/verdictsfromfragments/protocol/EventType$Domain$Range" ∧ Fld Z hq d "com/example/verdicts_from_fragments/verdictsfromfragments/protocol/EventType$Domain$Range" "low" "J" (.long q1) ∧ Fld Z hq d "com/example/verdicts_from_fragments/verdictsfromfragments/protocol/EventType$Domain$Range" "high" "J" (.long q2)
set_option maxRecDepth 65536 in
set_option maxHeartbeats 40000000 in
theorem rm3 (l : Launch) (Z : State) (a0 : Array Value) (hw : ∀ d ∈ tables_1, d.before a0 Z = true) (ws : List Jvm.Cond) (d : Addr) (q1 : Int64) (q2 : Int64) (h0 : Heap) (n0 : Nat) (Z0 : n0 ≤ h0.size) (F0_ : Exa Z h0 d "com/example/verdicts_from_fragments/verdictsfromfragments/protocol/EventType$Domain$Range") (F1_ : Fld Z h0 d "com/example/verdicts_from_fragments/verdictsfromfragments/protocol/EventType$Domain$Range" "low" "J" (.long (0 : Int64))) (F2_ : Fld Z h0 d "com/example/verdicts_from_fragments/verdictsfromfragments/protocol/EventType$Domain$Range" "high" "J" (.long (0 : Int64))) (ge_d : n0 ≤ d) (hle : ¬ (q2 < q1)) :
    MetFree l (⟨"com/example/verdicts_from_fragments/verdictsfromfragments/protocol/EventType$Domain$Range", "<init>", "(JJ)V"⟩ : MethodName) (head1 (Jvm.Cond.code (⟨"com/example/verdicts_from_fragments/verdictsfromfragments/protocol/EventType$Domain$Range", "<init>", "(JJ)V"⟩ : MethodName) prog_54_method_1_code 5 none :: ws) ({ frames := 2, cells := 0, slots := 0, locals := 24 } : Room)) (fun za U => za = #[(.ref d), (.long q1), (.long q2)] ∧ Z.Warmed39 U.vm ∧ U.heap = h0) (fun _ _ _ _ _ => True) (fun _ U o U' => ∃ rv Lq, o = .returned rv ∧ Q3 Z d q1 q2 h0 n0 rv U'.heap Lq ∧ FrameEnd U o U' Lq ({ frames := 2, cells := 0, slots := 0, locals := 24 } : Room).cells ({ frames := 2, cells := 0, slots := 0, locals := 24 } : Room).slots) := by
  refine MetFree.of_bodySF (plainFor_of_name pn_1) hisR ?_
  intro p e s m args below meth c s₁ Bd hml0 hP hK
  obtain ⟨rfl, hZ, hh⟩ := hP
  have hx := Bd.exec
  have hby := Bd.bytes
  have hml : c.maxLocals = 5 := hml0
  have hown : s.vm.findClass "com/example/verdicts_from_fragments/verdictsfromfragments/protocol/EventType$Domain$Range" = some m.cls := findClass_of_methodNamed Bd.named
  have hnm := (name_of_methodNamed Bd.named Bd.method).1
  have X0 : Stand p l e ({ frames := 2, cells := 0, slots := 0, locals := 24 } : Room) s m #[(.ref d), (.long q1), (.long q2)] below meth c s₁ [] 0 0 := Stand.of_body Bd
  have e0 : s₁.heap = h0 := by rw [← hh, Bd.state]; rfl
  have N0 := Fr.nil n0
  refine own_out (own_nm fun G hG => own_st (fun zt zk => castTop (ef_rm3 m d q1 q2) zk) ?_)
  show own_Go p e below G (s₁.setTop (mkF m 0 #[.val (.ref d), .val (.long q1), .second, .val (.long q2), .second] []))
  refine own_st (fun zw zk => XS.aloadN X0.here hx rfl (hb hby d3_0) rfl rfl zk) ?_
  obtain ⟨_, _, ⟨T2, L2, k2, n2⟩, -, X2, ⟨Lc2, hQ2, l2, y2, z2⟩, st2⟩ := X0.specialBack hx (y := (⟨"java/lang/Record", "<init>", "()V"⟩ : MethodName)) rfl hown (mvT hZ (hw _ (List.mem_of_getElem? (i := 13) rfl))) (mvT hZ (hw _ (List.mem_of_getElem? (i := 14) rfl))) (mvT hZ (hw _ (List.mem_of_getElem? (i := 17) rfl))) (by decide) (backOf (W := 0) (rm4 l Z a0 hw [] d h0 n0 Z0) hZ (hw _ (List.mem_of_getElem? (i := 17) rfl)) (hw _ (List.mem_of_getElem? (i := 16) rfl)) (by decide) (by decide)) (g := (mkF m 1 #[.val (.ref d), .val (.long q1), .second, .val (.long q2), .second] [(.ref d)])) rfl (by rw [hml]; rfl) (Steps.refl _) (a := d) (argsL := []) (rest := []) (lenOf pd_0 rfl) rfl (by show 2 * 0 + _ ≤ _; exact Nat.le_of_eq rfl) (hb hby d3_1) (fun _ _ => ⟨rfl, e0, (by decide : 0 + 0 ≤ _), (by decide : 0 + 0 ≤ _)⟩)
  dsimp only [Pt.U, Pt.locs, Pt.cells, Pt.slots] at X2 l2 y2 z2 st2 hQ2
  subst l2 y2 z2
  obtain ⟨rfl, N2q, e2⟩ := hQ2
  have N2 := Fr.app N0 N2q
  refine own_jp st2 ?_
  refine own_st (fun zw zk => XS.lloadN X2.here hx rfl (hb hby d3_4) rfl zk) ?_
  refine own_st (fun zw zk => XS.lloadN X2.here hx rfl (hb hby d3_5) rfl zk) ?_
  refine own_st (fun zw zk => XS.lcmp X2.here hx rfl (hb hby d3_6) rfl zk) ?_
  have hc7 : ¬ (q2 < q1) := hle
  refine own_st (fun zw zk => XS.ifYes X2.here hx rfl (pc0 := 7) (pc' := 25) rfl (hb hby d3_7) rfl ((if0 _ _).trans (flt (own_flg hc7)).2.2.2) (by decide) (by decide) zk) ?_
  refine own_st (fun zw zk => XS.aloadN X2.here hx rfl (hb hby d3_25) rfl rfl zk) ?_
  refine own_st (fun zw zk => XS.lloadN X2.here hx rfl (hb hby d3_26) rfl zk) ?_
  show own_Go p e below G (T2.setTop (mkF m 27 #[.val (.ref d), .val (.long q1), .second, .val (.long q2), .second] [(.long q1), (.ref d)]))
  obtain ⟨T3, h3, X3, e3, W3, st3⟩ := putF X2 hx hZ hown (host := "") (Or.inl (hw _ (List.mem_of_getElem? (i := 21) rfl))) Via.refl e2 F1_ F0_ (Or.inr ⟨(hw _ (List.mem_of_getElem? (i := 22) rfl)), rfl, hnm⟩) (hw _ (List.mem_of_getElem? (i := 8) rfl)) (ty := .long) (by decide) rfl rfl (g := (mkF m 27 #[.val (.ref d), .val (.long q1), .second, .val (.long q2), .second] [(.long q1), (.ref d)])) rfl rfl (hb hby d3_27)
  have F1_3 := F1_.same W3
  have N3 := Fr.snoc X3 N2 ge_d
  refine own_st (fun zw zk => st3 zw zk) ?_
  have F0_3 := F0_.wr W3
  have F2_3 := F2_.other W3 (Or.inr (slot_ne (Or.inr (hw _ (List.mem_of_getElem? (i := 24) rfl))) (Or.inr (hw _ (List.mem_of_getElem? (i := 22) rfl))) (by decide) (t := .long) (t' := .long) (by decide) (by decide)))
  have Z3 : n0 ≤ h3.size := Nat.le_trans Z0 (Keep.of_wr W3).1
  have Kp3 := (Keep.refl h0 [d]).wr W3 (Or.inl (List.mem_of_getElem? (i := 0) rfl))
  refine own_st (fun zw zk => XS.aloadN X3.here hx rfl (hb hby d3_30) rfl rfl zk) ?_
  refine own_st (fun zw zk => XS.lloadN X3.here hx rfl (hb hby d3_31) rfl zk) ?_
  obtain ⟨T4, h4, X4, e4, W4, st4⟩ := putF X3 hx hZ hown (host := "") (Or.inl (hw _ (List.mem_of_getElem? (i := 23) rfl))) Via.refl e3 F2_3 F0_3 (Or.inr ⟨(hw _ (List.mem_of_getElem? (i := 24) rfl)), rfl, hnm⟩) (hw _ (List.mem_of_getElem? (i := 8) rfl)) (ty := .long) (by decide) rfl rfl (g := (mkF m 32 #[.val (.ref d), .val (.long q1), .second, .val (.long q2), .second] [(.long q2), (.ref d)])) rfl rfl (hb hby d3_32)
  have F2_4 := F2_3.same W4
  have N4 := Fr.snoc X4 N3 ge_d
  refine own_st (fun zw zk => st4 zw zk) ?_
  have F0_4 := F0_3.wr W4
  have F1_4 := F1_3.other W4 (Or.inr (slot_ne (Or.inr (hw _ (List.mem_of_getElem? (i := 22) rfl))) (Or.inr (hw _ (List.mem_of_getElem? (i := 24) rfl))) (by decide) (t := .long) (t' := .long) (by decide) (by decide)))
  have Z4 : n0 ≤ h4.size := Nat.le_trans Z3 (Keep.of_wr W4).1
  have Kp4 := Kp3.wr W4 (Or.inl (List.mem_of_getElem? (i := 0) rfl))
  subst hG
  obtain ⟨fs, hr, hrun, hended, hW, hsame⟩ := X4.leave (v := none) (hlocks := Bd.notSynchronized) (fun _ => rfl)
  refine ⟨_, X4.returnOut hx Bd.returns (hb hby d3_35) hr, _, hrun, hended, _, _, rfl, ?_, ⟨_, rfl⟩, hW, hsame.mono (by decide) (by decide)⟩
  show Q3 Z d q1 q2 h0 n0 _ T4.heap _
  rw [e4]
  exact ⟨rfl, N4, Kp4, F0_4, F1_4, F2_4⟩
theorem d6_0 : decode prog_54_method_3_code 0 = .ok (.aload_n 0, 1) := by decide +kernel
theorem d6_1 : decode prog_54_method_3_code 1 = .ok (.getfield 22, 3) := by decide +kernel
theorem d6_4 : decode prog_54_method_3_code 4 = .ok (.aload_n 0, 1) := by decide +kernel
theorem d6_5 : decode prog_54_method_3_code 5 = .ok (.getfield 16, 3) := by decide +kernel
theorem d6_8 : decode prog_54_method_3_code 8 = .ok (.lsub, 1) := by decide +kernel
theorem d6_9 : decode prog_54_method_3_code 9 = .ok (.lconst 1, 1) := by decide +kernel
theorem d6_10 : decode prog_54_method_3_code 10 = .ok (.ladd, 1) := by decide +kernel
theorem d6_11 : decode prog_54_method_3_code 11 = .ok (.lstore_n 1, 1) := by decide +kernel
theorem d6_12 : decode prog_54_method_3_code 12 = .ok (.lload_n 1, 1) := by decide +kernel
theorem d6_13 : decode prog_54_method_3_code 13 = .ok (.lconst 0, 1) := by decide +kernel
theorem d6_14 : decode prog_54_method_3_code 14 = .ok (.lcmp, 1) := by decide +kernel
theorem d6_15 : decode prog_54_method_3_code 15 = .ok (.ifCond .le 7, 3) := by decide +kernel
theorem d6_18 : decode prog_54_method_3_code 18 = .ok (.lload_n 1, 1) := by decide +kernel
theorem d6_19 : decode prog_54_method_3_code 19 = .ok (.goto 6, 3) := by decide +kernel
theorem d6_22 : decode prog_54_method_3_code 22 = .ok (.ldc2_w 43, 3) := by decide +kernel
theorem d6_25 : decode prog_54_method_3_code 25 = .ok (.lreturn, 1) := by decide +kernel
theorem ef_rm6 (m : MethodId) (d : Addr) : entryFrame m #[(.ref d)] 3 = mkF m 0 #[.val (.ref d), .unset, .unset] [] := by first | (simp [entryFrame, mkF, argsToLocals, Value.category]; done) | rfl
def own_sz (lo : Int64) (hi : Int64) : Int64 := (if (0 : Int64) < ((hi - lo) + (1 : Int64)) then ((hi - lo) + (1 : Int64)) else (9223372036854775807 : Int64))
def Q6 (Z : State) (d : Addr) (lo : Int64) (hi : Int64) (h0 : Heap) (n0 : Nat) (rv : Option Value) (hq : Heap) (Lq : List Loc) : Prop := rv = some (.long (own_sz lo hi)) ∧ Fr n0 Lq ∧ hq = h0
set_option maxRecDepth 65536 in
set_option maxHeartbeats 40000000 in
theorem rm6 (l : Launch) (Z : State) (a0 : Array Value) (hw : ∀ d ∈ tables_1, d.before a0 Z = true) (ws : List Jvm.Cond) (d : Addr) (lo : Int64) (hi : Int64) (h0 : Heap) (n0 : Nat) (Z0 : n0 ≤ h0.size) (F0_ : Fld Z h0 d "com/example/verdicts_from_fragments/verdictsfromfragments/protocol/EventType$Domain$Range" "low" "J" (.long lo)) (F1_ : Fld Z h0 d "com/example/verdicts_from_fragments/verdictsfromfragments/protocol/EventType$Domain$Range" "high" "J" (.long hi)) :
    MetFree l (⟨"com/example/verdicts_from_fragments/verdictsfromfragments/protocol/EventType$Domain$Range", "size", "()J"⟩ : MethodName) (head1 (Jvm.Cond.code (⟨"com/example/verdicts_from_fragments/verdictsfromfragments/protocol/EventType$Domain$Range", "size", "()J"⟩ : MethodName) prog_54_method_3_code 3 (some .long) :: ws) ({ frames := 0, cells := 0, slots := 0, locals := 0 } : Room)) (fun za U => za = #[(.ref d)] ∧ Z.Warmed39 U.vm ∧ U.heap = h0) (fun _ _ _ _ _ => True) (fun _ U o U' => ∃ rv Lq, o = .returned rv ∧ Q6 Z d lo hi h0 n0 rv U'.heap Lq ∧ FrameEnd U o U' Lq ({ frames := 0, cells := 0, slots := 0, locals := 0 } : Room).cells ({ frames := 0, cells := 0, slots := 0, locals := 0 } : Room).slots) := by
  refine MetFree.of_bodySF (plainFor_of_name pn_1) hisR ?_
  intro p e s m args below meth c s₁ Bd hml0 hP hK
  obtain ⟨rfl, hZ, hh⟩ := hP
  have hx := Bd.exec
  have hby := Bd.bytes
  have hml : c.maxLocals = 3 := hml0
  have hown : s.vm.findClass "com/example/verdicts_from_fragments/verdictsfromfragments/protocol/EventType$Domain$Range" = some m.cls := findClass_of_methodNamed Bd.named
  have hnm := (name_of_methodNamed Bd.named Bd.method).1
  have X0 : Stand p l e ({ frames := 0, cells := 0, slots := 0, locals := 0 } : Room) s m #[(.ref d)] below meth c s₁ [] 0 0 := Stand.of_body Bd
  have e0 : s₁.heap = h0 := by rw [← hh, Bd.state]; rfl
  have N0 := Fr.nil n0
  refine own_out (own_nm fun G hG => own_st (fun zt zk => castTop (ef_rm6 m d) zk) ?_)
  show own_Go p e below G (s₁.setTop (mkF m 0 #[.val (.ref d), .unset, .unset] []))
  refine own_st (fun zw zk => XS.aloadN X0.here hx rfl (hb hby d6_0) rfl rfl zk) ?_
  obtain ⟨T5, X5, e5, st5⟩ := getF X0 hx hZ hown (host := "") (Or.inl (hw _ (List.mem_of_getElem? (i := 23) rfl))) Via.refl e0 F1_ (g := (mkF m 1 #[.val (.ref d), .unset, .unset] [(.ref d)])) rfl rfl (hb hby d6_1)
  refine own_st (fun zw zk => st5 zw zk) ?_
  refine own_st (fun zw zk => XS.aloadN X5.here hx rfl (hb hby d6_4) rfl rfl zk) ?_
  obtain ⟨T6, X6, e6, st6⟩ := getF X5 hx hZ hown (host := "") (Or.inl (hw _ (List.mem_of_getElem? (i := 21) rfl))) Via.refl e5 F0_ (g := (mkF m 5 #[.val (.ref d), .unset, .unset] [(.ref d), (.long hi)])) rfl rfl (hb hby d6_5)
  refine own_st (fun zw zk => st6 zw zk) ?_
  refine own_st (fun zw zk => XS.lsub X6.here hx rfl (hb hby d6_8) rfl zk) ?_
  refine own_st (fun zw zk => XS.lconst X6.here hx rfl (hb hby d6_9) zk) ?_
  refine own_st (fun zw zk => XS.ladd X6.here hx rfl (hb hby d6_10) rfl zk) ?_
  refine own_st (fun zw zk => XS.lstoreN X6.here hx rfl (hb hby d6_11) rfl rfl zk) ?_
  show own_Go p e below G (T6.setTop (mkF m 12 #[.val (.ref d), .val (.long ((hi - lo) + (1 : Int64))), .second] []))
  refine own_st (fun zw zk => XS.lloadN X6.here hx rfl (hb hby d6_12) rfl zk) ?_
  refine own_st (fun zw zk => XS.lconst X6.here hx rfl (hb hby d6_13) zk) ?_
  refine own_st (fun zw zk => XS.lcmp X6.here hx rfl (hb hby d6_14) rfl zk) ?_
  by_cases hc15 : (0 : Int64) < ((hi - lo) + (1 : Int64))
  · refine own_st (fun zw zk => XS.ifNo X6.here hx rfl (hb hby d6_15) rfl ((if0 _ _).trans (tlt (own_tlg hc15)).2.2.2) zk) ?_
    refine own_st (fun zw zk => XS.lloadN X6.here hx rfl (hb hby d6_18) rfl zk) ?_
    refine own_st (fun zw zk => XS.goto X6.here hx rfl (pc0 := 19) (pc' := 25) rfl (hb hby d6_19) (by decide) (by decide) zk) ?_
    show own_Go p e below G (T6.setTop (mkF m 25 #[.val (.ref d), .val (.long ((hi - lo) + (1 : Int64))), .second] [(.long ((hi - lo) + (1 : Int64)))]))
    subst hG
    obtain ⟨fs, hr, hrun, hended, hW, hsame⟩ := X6.leave (v := some (.long ((hi - lo) + (1 : Int64)))) (hlocks := Bd.notSynchronized) (fun h => by rw [Bd.returns] at h; cases h)
    refine ⟨_, own_retJ X6 hx Bd.returns (hb hby d6_25) hr, _, hrun, hended, _, _, rfl, ?_, ⟨_, rfl⟩, hW, hsame.mono (by decide) (by decide)⟩
    show Q6 Z d lo hi h0 n0 _ T6.heap _
    rw [e6]
    exact ⟨by unfold own_sz; rw [if_pos hc15], N0, rfl⟩
  · refine own_st (fun zw zk => XS.ifYes X6.here hx rfl (pc0 := 15) (pc' := 22) rfl (hb hby d6_15) rfl ((if0 _ _).trans (flt (own_flg hc15)).2.2.2) (by decide) (by decide) zk) ?_
    refine own_st (fun zw zk => X6.ldc2Long hx hown (mvT hZ (hw _ (List.mem_of_getElem? (i := 31) rfl))) (g := (mkF m 22 #[.val (.ref d), .val (.long ((hi - lo) + (1 : Int64))), .second] [])) rfl (hb hby d6_22) _ zk) ?_
    subst hG
    obtain ⟨fs, hr, hrun, hended, hW, hsame⟩ := X6.leave (v := some (.long (9223372036854775807 : Int64))) (hlocks := Bd.notSynchronized) (fun h => by rw [Bd.returns] at h; cases h)
    refine ⟨_, own_retJ X6 hx Bd.returns (hb hby d6_25) hr, _, hrun, hended, _, _, rfl, ?_, ⟨_, rfl⟩, hW, hsame.mono (by decide) (by decide)⟩
    show Q6 Z d lo hi h0 n0 _ T6.heap _
    rw [e6]
    exact ⟨by unfold own_sz; rw [if_neg hc15], N0, rfl⟩
theorem own_mm (a b : Int64) : ¬ (own_mx a b < own_mn a b) := by
  unfold own_mx own_mn
  simp only [Int64.lt_iff_toInt_lt]
  split <;> split <;> (try simp only [Int64.lt_iff_toInt_lt] at *) <;> omega
theorem own_sum1 {lo hi : Int64} (hle : lo.toInt ≤ hi.toInt) : ((hi - lo + 1).toInt = hi.toInt - lo.toInt + 1 ∧ hi.toInt - lo.toInt + 1 ≤ 9223372036854775807) ∨ ((hi - lo + 1).toInt ≤ 0 ∧ 9223372036854775808 ≤ hi.toInt - lo.toInt + 1) := by
  have z1 : (1 : Int64).toInt = 1 := by decide
  have r1 := rng64 lo
  have r2 := rng64 hi
  have a1 := c_lsub hi lo
  have a2 := c_ladd (hi - lo) 1
  have r4 := rng64 (hi - lo + 1)
  rw [z1] at a2
  have c : ((hi - lo + 1).toInt - (hi.toInt - lo.toInt + 1)) % 18446744073709551616 = 0 := by omega
  clear a1 a2
  generalize (hi - lo + 1).toInt = D at *
  generalize hi.toInt = x at *
  generalize lo.toInt = y at *
  omega
theorem own_lomax {lo : Int64} (h : lo.toInt ≤ 0) : (lo + 9223372036854775807).toInt = lo.toInt + 9223372036854775807 := by
  have z : (9223372036854775807 : Int64).toInt = 9223372036854775807 := by decide
  have a3 := c_ladd lo 9223372036854775807
  have r1 := rng64 lo
  have r5 := rng64 (lo + 9223372036854775807)
  rw [z] at a3
  omega
theorem own_law {lo hi : Int64} (hle : ¬ hi < lo) : own_sz lo hi = (if 0 < lo then hi - lo + 1 else if hi < lo + 9223372036854775807 then hi - lo + 1 else 9223372036854775807) ∧ ¬ own_sz lo hi < 1 := by
  have z : (9223372036854775807 : Int64).toInt = 9223372036854775807 := by decide
  have z0 : (0 : Int64).toInt = 0 := by decide
  have z1 : (1 : Int64).toInt = 1 := by decide
  have r1 := rng64 lo
  have r2 := rng64 hi
  have hle' : lo.toInt ≤ hi.toInt := by rw [Int64.lt_iff_toInt_lt] at hle; omega
  have k := own_sum1 hle'
  unfold own_sz
  by_cases h1 : 0 < hi - lo + 1
  · rw [if_pos h1]
    rw [Int64.lt_iff_toInt_lt, z0] at h1
    refine ⟨?_, by rw [Int64.lt_iff_toInt_lt, z1]; omega⟩
    by_cases h2 : 0 < lo
    · rw [if_pos h2]
    · rw [if_neg h2]
      by_cases h3 : hi < lo + 9223372036854775807
      · rw [if_pos h3]
      · rw [if_neg h3]
        rw [Int64.lt_iff_toInt_lt, z0] at h2
        rw [Int64.lt_iff_toInt_lt, own_lomax (by omega)] at h3
        apply Int64.toInt_inj.mp
        rw [z]
        omega
  · rw [if_neg h1]
    rw [Int64.lt_iff_toInt_lt, z0] at h1
    refine ⟨?_, by rw [Int64.lt_iff_toInt_lt, z1, z]; omega⟩
    by_cases h2 : 0 < lo
    · exfalso
      rw [Int64.lt_iff_toInt_lt, z0] at h2
      omega
    · rw [if_neg h2]
      by_cases h3 : hi < lo + 9223372036854775807
      · exfalso
        rw [Int64.lt_iff_toInt_lt, z0] at h2
        rw [Int64.lt_iff_toInt_lt, own_lomax (by omega)] at h3
        omega
      · rw [if_neg h3]
theorem pd_1 : parseMethodDescriptor "(JJ)J" = some ⟨[.long, .long], some .long⟩ := by decide +kernel
theorem pd_2 : parseMethodDescriptor "(JJ)V" = some ⟨[.long, .long], none⟩ := by decide +kernel
theorem pd_3 : parseMethodDescriptor "()J" = some ⟨[], some .long⟩ := by decide +kernel
theorem pn_2 : plainName "com/example/verdicts_from_fragments/verdictsfromfragments/protocol/RangeSizePinLaw" = true := by first | (simp [plainName, overriddenIn]; done) | decide +kernel
theorem ef_rm0 (m : MethodId) (q0 : Int64) (q1 : Int64) : entryFrame m #[(.long q0), (.long q1)] maxLocals = mkF m 0 #[.val (.long q0), .second, .val (.long q1), .second, .unset, .unset, .unset, .unset, .unset, .unset, .unset, .unset, .unset, .unset] [] := by first | (simp [entryFrame, mkF, argsToLocals, Value.category, maxLocals]; done) | rfl
def Q0 (Z : State) (q0 : Int64) (q1 : Int64) (h0 : Heap) (n0 : Nat) (rv : Option Value) (hq : Heap) (Lq : List Loc) : Prop := rv = some (.int 1) ∧ Fr n0 Lq
set_option maxRecDepth 65536 in
set_option maxHeartbeats 40000000 in
theorem rm0 (l : Launch) (Z : State) (a0 : Array Value) (hw : ∀ d ∈ tables_1, d.before a0 Z = true) (ws : List Jvm.Cond) (q0 : Int64) (q1 : Int64) (h0 : Heap) (n0 : Nat) (Z0 : n0 ≤ h0.size) :
    MetFree l x (head1 (Jvm.Cond.code x code maxLocals ret :: ws) room_1) (fun za U => za = #[(.long q0), (.long q1)] ∧ Z.Warmed39 U.vm ∧ U.heap = h0) (fun _ _ _ _ _ => True) (fun _ U o U' => ∃ rv Lq, o = .returned rv ∧ Q0 Z q0 q1 h0 n0 rv U'.heap Lq ∧ FrameEnd U o U' Lq room_1.cells room_1.slots) := by
  refine MetFree.of_bodySF (plainFor_of_name pn_2) hisR ?_
  intro p e s m args below meth c s₁ Bd hml0 hP hK
  obtain ⟨rfl, hZ, hh⟩ := hP
  have hx := Bd.exec
  have hby := Bd.bytes
  have hml : c.maxLocals = 14 := hml0
  have hown : s.vm.findClass "com/example/verdicts_from_fragments/verdictsfromfragments/protocol/RangeSizePinLaw" = some m.cls := findClass_of_methodNamed Bd.named
  have hnm := (name_of_methodNamed Bd.named Bd.method).1
  have X0 : Stand p l e room_1 s m #[(.long q0), (.long q1)] below meth c s₁ [] 0 0 := Stand.of_body Bd
  have e0 : s₁.heap = h0 := by rw [← hh, Bd.state]; rfl
  have N0 := Fr.nil n0
  refine own_out (own_nm fun G hG => own_st (fun zt zk => castTop (ef_rm0 m q0 q1) zk) ?_)
  show own_Go p e below G (s₁.setTop (mkF m 0 #[.val (.long q0), .second, .val (.long q1), .second, .unset, .unset, .unset, .unset, .unset, .unset, .unset, .unset, .unset, .unset] []))
  refine own_st (fun zw zk => XS.lloadN X0.here hx rfl (hb hby at_0) rfl zk) ?_
  refine own_st (fun zw zk => XS.lloadN X0.here hx rfl (hb hby at_1) rfl zk) ?_
  obtain ⟨_, _, ⟨T7, L7, k7, n7⟩, -, X7, ⟨Lc7, hQ7, l7, y7, z7⟩, st7⟩ := Jvm.LawKit.callS X0 hx (y := (⟨"java/lang/Math", "min", "(JJ)J"⟩ : MethodName)) hown (mvT hZ (hw _ (List.mem_of_getElem? (i := 0) rfl))) (mvT hZ (hw _ (List.mem_of_getElem? (i := 1) rfl))) (mvT hZ (hw _ (List.mem_of_getElem? (i := 2) rfl))) (mvT hZ (hw _ (List.mem_of_getElem? (i := 3) rfl))) (by decide) (backOf (W := 0) (rm1 l Z a0 hw [] q0 q1 h0 n0 Z0) hZ (hw _ (List.mem_of_getElem? (i := 3) rfl)) (hw _ (List.mem_of_getElem? (i := 2) rfl)) (by decide) (by decide)) (g := (mkF m 2 #[.val (.long q0), .second, .val (.long q1), .second, .unset, .unset, .unset, .unset, .unset, .unset, .unset, .unset, .unset, .unset] [(.long q1), (.long q0)])) rfl (by rw [hml]; rfl) (argsL := [(.long q0), (.long q1)]) (rest := []) (lenOf pd_1 rfl) rfl (by show 2 * 0 + _ ≤ _; exact Nat.le_of_eq rfl) (hb hby at_2) (fun _ _ => ⟨rfl, e0, (by decide : 0 + 0 ≤ _), (by decide : 0 + 0 ≤ _)⟩)
  dsimp only [Pt.U, Pt.locs, Pt.cells, Pt.slots] at X7 l7 y7 z7 st7 hQ7
  subst l7 y7 z7
  obtain ⟨rfl, N7q, e7⟩ := hQ7
  have N7 := Fr.app N0 N7q
  refine own_st (fun zw zk => st7 zw zk) ?_
  refine own_st (fun zw zk => XS.lstore X7.here hx rfl (hb hby at_5) rfl rfl zk) ?_
  show own_Go p e below G (T7.setTop (mkF m 7 #[.val (.long q0), .second, .val (.long q1), .second, .val (.long (own_mn q0 q1)), .second, .unset, .unset, .unset, .unset, .unset, .unset, .unset, .unset] []))
  refine own_st (fun zw zk => XS.lloadN X7.here hx rfl (hb hby at_7) rfl zk) ?_
  refine own_st (fun zw zk => XS.lloadN X7.here hx rfl (hb hby at_8) rfl zk) ?_
  obtain ⟨_, _, ⟨T8, L8, k8, n8⟩, -, X8, ⟨Lc8, hQ8, l8, y8, z8⟩, st8⟩ := Jvm.LawKit.callS X7 hx (y := (⟨"java/lang/Math", "max", "(JJ)J"⟩ : MethodName)) hown (mvT hZ (hw _ (List.mem_of_getElem? (i := 4) rfl))) (mvT hZ (hw _ (List.mem_of_getElem? (i := 5) rfl))) (mvT hZ (hw _ (List.mem_of_getElem? (i := 2) rfl))) (mvT hZ (hw _ (List.mem_of_getElem? (i := 6) rfl))) (by decide) (backOf (W := 0) (rm2 l Z a0 hw [] q0 q1 h0 n0 Z0) hZ (hw _ (List.mem_of_getElem? (i := 6) rfl)) (hw _ (List.mem_of_getElem? (i := 2) rfl)) (by decide) (by decide)) (g := (mkF m 9 #[.val (.long q0), .second, .val (.long q1), .second, .val (.long (own_mn q0 q1)), .second, .unset, .unset, .unset, .unset, .unset, .unset, .unset, .unset] [(.long q1), (.long q0)])) rfl (by rw [hml]; rfl) (argsL := [(.long q0), (.long q1)]) (rest := []) (lenOf pd_1 rfl) rfl (by show 2 * 0 + _ ≤ _; exact Nat.le_of_eq rfl) (hb hby at_9) (fun _ _ => ⟨rfl, e7, (by decide : 0 + 0 ≤ _), (by decide : 0 + 0 ≤ _)⟩)
  dsimp only [Pt.U, Pt.locs, Pt.cells, Pt.slots] at X8 l8 y8 z8 st8 hQ8
  subst l8 y8 z8
  obtain ⟨rfl, N8q, e8⟩ := hQ8
  have N8 := Fr.app N7 N8q
  refine own_st (fun zw zk => st8 zw zk) ?_
  refine own_st (fun zw zk => XS.lstore X8.here hx rfl (hb hby at_12) rfl rfl zk) ?_
  show own_Go p e below G (T8.setTop (mkF m 14 #[.val (.long q0), .second, .val (.long q1), .second, .val (.long (own_mn q0 q1)), .second, .val (.long (own_mx q0 q1)), .second, .unset, .unset, .unset, .unset, .unset, .unset] []))
  generalize hlo : (own_mn q0 q1) = lo
  show own_Go p e below G (T8.setTop (mkF m 14 #[.val (.long q0), .second, .val (.long q1), .second, .val (.long lo), .second, .val (.long (own_mx q0 q1)), .second, .unset, .unset, .unset, .unset, .unset, .unset] []))
  generalize hhi : (own_mx q0 q1) = hi
  have hle : ¬ (hi < lo) := by rw [← hhi, ← hlo]; exact own_mm q0 q1
  obtain ⟨T9, h9, X9, e9, E9, A9, D9, -, st9⟩ := newO X8 hx hZ hown (hw _ (List.mem_of_getElem? (i := 7) rfl)) (hw _ (List.mem_of_getElem? (i := 8) rfl)) (hw _ (List.mem_of_getElem? (i := 9) rfl)) e8 (g := (mkF m 14 #[.val (.long q0), .second, .val (.long q1), .second, .val (.long lo), .second, .val (.long hi), .second, .unset, .unset, .unset, .unset, .unset, .unset] [])) rfl (hb hby at_14) (by decide) (by decide)
  obtain ⟨b9, g9⟩ : ∃ z, z = h0.size := ⟨_, rfl⟩
  rw [← g9] at A9 D9 st9
  have G9 : n0 ≤ b9 := Nat.le_trans Z0 (Nat.le_of_eq g9.symm)
  have Z9 : n0 ≤ h9.size := Nat.le_trans Z0 E9.1
  have Fb9low : Fld Z h9 b9 "com/example/verdicts_from_fragments/verdictsfromfragments/protocol/EventType$Domain$Range" "low" "J" (.long (0 : Int64)) := D9 (Or.inr (hw _ (List.mem_of_getElem? (i := 22) rfl))) (ty := .long) (by decide)
  have Fb9high : Fld Z h9 b9 "com/example/verdicts_from_fragments/verdictsfromfragments/protocol/EventType$Domain$Range" "high" "J" (.long (0 : Int64)) := D9 (Or.inr (hw _ (List.mem_of_getElem? (i := 24) rfl))) (ty := .long) (by decide)
  refine own_st (fun zw zk => st9 zw zk) ?_
  refine own_st (fun zw zk => XS.dup X9.here hx rfl (hb hby at_17) rfl rfl zk) ?_
  refine own_st (fun zw zk => XS.lload X9.here hx rfl (hb hby at_18) rfl zk) ?_
  refine own_st (fun zw zk => XS.lload X9.here hx rfl (hb hby at_20) rfl zk) ?_
  obtain ⟨_, _, ⟨T10, L10, k10, n10⟩, -, X10, ⟨Lc10, hQ10, l10, y10, z10⟩, st10⟩ := X9.specialBack hx (y := (⟨"com/example/verdicts_from_fragments/verdictsfromfragments/protocol/EventType$Domain$Range", "<init>", "(JJ)V"⟩ : MethodName)) rfl hown (mvT hZ (hw _ (List.mem_of_getElem? (i := 10) rfl))) (mvT hZ (hw _ (List.mem_of_getElem? (i := 11) rfl))) (mvT hZ (hw _ (List.mem_of_getElem? (i := 12) rfl))) (by decide) (backOf (W := 1) (rm3 l Z a0 hw [] b9 lo hi h9 n0 Z9 (A9) (Fb9low) (Fb9high) (G9) (hle)) hZ (hw _ (List.mem_of_getElem? (i := 12) rfl)) (hw _ (List.mem_of_getElem? (i := 9) rfl)) (by decide) (by decide)) (g := (mkF m 22 #[.val (.long q0), .second, .val (.long q1), .second, .val (.long lo), .second, .val (.long hi), .second, .unset, .unset, .unset, .unset, .unset, .unset] [(.long hi), (.long lo), (.ref b9), (.ref b9)])) rfl (by rw [hml]; rfl) (Steps.refl _) (a := b9) (argsL := [(.long lo), (.long hi)]) (rest := [(.ref b9)]) (lenOf pd_2 rfl) rfl (by show 2 * 0 + _ ≤ _; exact Nat.le_of_eq rfl) (hb hby at_22) (fun _ _ => ⟨rfl, e9, (by decide : 1 + 0 ≤ _), (by decide : 2 + 0 ≤ _)⟩)
  dsimp only [Pt.U, Pt.locs, Pt.cells, Pt.slots] at X10 l10 y10 z10 st10 hQ10
  subst l10 y10 z10
  obtain ⟨rfl, N10q, K10, O10_0, O10_1, O10_2⟩ := hQ10
  have Ab9_10 := A9.keep K10
  have Z10 : n0 ≤ T10.heap.size := Nat.le_trans Z9 K10.1
  have N10 := Fr.app N8 N10q
  refine own_jp st10 ?_
  refine own_st (fun zw zk => XS.astore X10.here hx rfl (hb hby at_25) rfl rfl rfl zk) ?_
  show own_Go p e below G (T10.setTop (mkF m 27 #[.val (.long q0), .second, .val (.long q1), .second, .val (.long lo), .second, .val (.long hi), .second, .val (.ref b9), .unset, .unset, .unset, .unset, .unset] []))
  refine own_st (fun zw zk => XS.aload X10.here hx rfl (hb hby at_27) rfl rfl zk) ?_
  obtain ⟨cq11, kq11, q11a, q11b, q11c⟩ := isOf hZ rfl O10_0
  obtain ⟨_, _, ⟨T11, L11, k11, n11⟩, -, X11, ⟨Lc11, hQ11, l11, y11, z11⟩, st11⟩ := X10.virtualBack hx (y := (⟨"com/example/verdicts_from_fragments/verdictsfromfragments/protocol/EventType$Domain$Range", "size", "()J"⟩ : MethodName)) (z := (⟨"com/example/verdicts_from_fragments/verdictsfromfragments/protocol/EventType$Domain$Range", "size", "()J"⟩ : MethodName)) hown (mvT hZ (hw _ (List.mem_of_getElem? (i := 25) rfl))) (mvT hZ (hw _ (List.mem_of_getElem? (i := 26) rfl))) (notFace_of_selects (args := #[]) (mvT hZ (hw _ (List.mem_of_getElem? (i := 28) rfl)))) (mvT hZ (hw _ (List.mem_of_getElem? (i := 28) rfl))) (mvT hZ (hw _ (List.mem_of_getElem? (i := 27) rfl))) (by decide) (backOf (W := 0) (rm6 l Z a0 hw [] b9 lo hi T10.heap n0 Z10 (O10_1) (O10_2)) hZ (hw _ (List.mem_of_getElem? (i := 29) rfl)) (hw _ (List.mem_of_getElem? (i := 9) rfl)) (by decide) (by decide)) q11a q11c (g := (mkF m 29 #[.val (.long q0), .second, .val (.long q1), .second, .val (.long lo), .second, .val (.long hi), .second, .val (.ref b9), .unset, .unset, .unset, .unset, .unset] [(.ref b9)])) rfl (by rw [hml]; rfl) (Steps.refl _) (argsL := []) (rest := []) (lenOf pd_3 rfl) rfl (by show 2 * 0 + _ ≤ _; exact Nat.le_of_eq rfl) (hb hby at_29) (fun _ _ => ⟨rfl, rfl, (by decide : 1 + 0 ≤ _), (by decide : 2 + 0 ≤ _)⟩)
  dsimp only [Pt.U, Pt.locs, Pt.cells, Pt.slots] at X11 l11 y11 z11 st11 hQ11
  subst l11 y11 z11
  obtain ⟨rfl, N11q, e11⟩ := hQ11
  have N11 := Fr.app N10 N11q
  refine own_jp st11 ?_
  refine own_st (fun zw zk => XS.lstore X11.here hx rfl (hb hby at_32) rfl rfl zk) ?_
  show own_Go p e below G (T11.setTop (mkF m 34 #[.val (.long q0), .second, .val (.long q1), .second, .val (.long lo), .second, .val (.long hi), .second, .val (.ref b9), .val (.long (own_sz lo hi)), .second, .unset, .unset, .unset] []))
  refine own_st (fun zw zk => XS.lload X11.here hx rfl (hb hby at_34) rfl zk) ?_
  refine own_st (fun zw zk => XS.lconst X11.here hx rfl (hb hby at_36) zk) ?_
  refine own_st (fun zw zk => XS.lcmp X11.here hx rfl (hb hby at_37) rfl zk) ?_
  by_cases hc38 : (0 : Int64) < lo
  · refine own_st (fun zw zk => XS.ifYes X11.here hx rfl (pc0 := 38) (pc' := 57) rfl (hb hby at_38) rfl ((if0 _ _).trans (tlt (own_tlg hc38)).2.2.1) (by decide) (by decide) zk) ?_
    refine own_st (fun zw zk => XS.iconst X11.here hx rfl (hb hby at_57) zk) ?_
    refine own_st (fun zw zk => XS.istore X11.here hx rfl (hb hby at_58) rfl rfl zk) ?_
    show own_Go p e below G (T11.setTop (mkF m 60 #[.val (.long q0), .second, .val (.long q1), .second, .val (.long lo), .second, .val (.long hi), .second, .val (.ref b9), .val (.long (own_sz lo hi)), .second, .val (.int (0 : Int32)), .unset, .unset] []))
    refine own_st (fun zw zk => XS.iload X11.here hx rfl (hb hby at_60) rfl zk) ?_
    refine own_st (fun zw zk => XS.ifYes X11.here hx rfl (pc0 := 62) (pc' := 71) rfl (hb hby at_62) rfl ((if0 _ _).trans (teq (by decide : (0 : Int32) = (0 : Int32))).1) (by decide) (by decide) zk) ?_
    refine own_st (fun zw zk => XS.lload X11.here hx rfl (hb hby at_71) rfl zk) ?_
    refine own_st (fun zw zk => XS.lload X11.here hx rfl (hb hby at_73) rfl zk) ?_
    refine own_st (fun zw zk => XS.lsub X11.here hx rfl (hb hby at_75) rfl zk) ?_
    refine own_st (fun zw zk => XS.lconst X11.here hx rfl (hb hby at_76) zk) ?_
    refine own_st (fun zw zk => XS.ladd X11.here hx rfl (hb hby at_77) rfl zk) ?_
    refine own_st (fun zw zk => XS.lstore X11.here hx rfl (hb hby at_78) rfl rfl zk) ?_
    show own_Go p e below G (T11.setTop (mkF m 80 #[.val (.long q0), .second, .val (.long q1), .second, .val (.long lo), .second, .val (.long hi), .second, .val (.ref b9), .val (.long (own_sz lo hi)), .second, .val (.int (0 : Int32)), .val (.long ((hi - lo) + (1 : Int64))), .second] []))
    refine own_st (fun zw zk => XS.lload X11.here hx rfl (hb hby at_80) rfl zk) ?_
    refine own_st (fun zw zk => XS.lload X11.here hx rfl (hb hby at_82) rfl zk) ?_
    refine own_st (fun zw zk => XS.lcmp X11.here hx rfl (hb hby at_84) rfl zk) ?_
    have hc85 : (own_sz lo hi) = ((hi - lo) + (1 : Int64)) := (own_law hle).1.trans (by rw [if_pos hc38])
    refine own_st (fun zw zk => XS.ifNo X11.here hx rfl (hb hby at_85) rfl ((if0 _ _).trans (teq (own_tle hc85)).2) zk) ?_
    refine own_st (fun zw zk => XS.lload X11.here hx rfl (hb hby at_88) rfl zk) ?_
    refine own_st (fun zw zk => XS.lconst X11.here hx rfl (hb hby at_90) zk) ?_
    refine own_st (fun zw zk => XS.lcmp X11.here hx rfl (hb hby at_91) rfl zk) ?_
    have hc92 : ¬ ((own_sz lo hi) < (1 : Int64)) := (own_law hle).2
    refine own_st (fun zw zk => XS.ifNo X11.here hx rfl (hb hby at_92) rfl ((if0 _ _).trans (flt (own_fll hc92)).1) zk) ?_
    show own_Go p e below G (T11.setTop (mkF m 95 #[.val (.long q0), .second, .val (.long q1), .second, .val (.long lo), .second, .val (.long hi), .second, .val (.ref b9), .val (.long (own_sz lo hi)), .second, .val (.int (0 : Int32)), .val (.long ((hi - lo) + (1 : Int64))), .second] []))
    refine own_st (fun zw zk => XS.iconst X11.here hx rfl (hb hby at_95) zk) ?_
    refine own_st (fun zw zk => XS.goto X11.here hx rfl (pc0 := 96) (pc' := 100) rfl (hb hby at_96) (by decide) (by decide) zk) ?_
    show own_Go p e below G (T11.setTop (mkF m 100 #[.val (.long q0), .second, .val (.long q1), .second, .val (.long lo), .second, .val (.long hi), .second, .val (.ref b9), .val (.long (own_sz lo hi)), .second, .val (.int (0 : Int32)), .val (.long ((hi - lo) + (1 : Int64))), .second] [(.int (1 : Int32))]))
    subst hG
    obtain ⟨fs, hr, hrun, hended, hW, hsame⟩ := X11.leave (v := some (.int (1 : Int32))) (hlocks := Bd.notSynchronized) (fun h => by rw [Bd.returns] at h; cases h)
    refine ⟨_, retN X11 hx (t := .boolean) Bd.returns (by simp) (hb hby at_100) hr, _, hrun, hended, _, _, rfl, ?_, ⟨_, rfl⟩, hW, hsame.mono (by decide) (by decide)⟩
    show Q0 Z q0 q1 h0 n0 _ T11.heap _
    rw [e11]
    exact ⟨rfl, N11⟩
  · refine own_st (fun zw zk => XS.ifNo X11.here hx rfl (hb hby at_38) rfl ((if0 _ _).trans (flt (own_flg hc38)).2.2.1) zk) ?_
    refine own_st (fun zw zk => XS.lload X11.here hx rfl (hb hby at_41) rfl zk) ?_
    refine own_st (fun zw zk => XS.lload X11.here hx rfl (hb hby at_43) rfl zk) ?_
    refine own_st (fun zw zk => X11.ldc2Long hx hown (mvT hZ (hw _ (List.mem_of_getElem? (i := 30) rfl))) (g := (mkF m 45 #[.val (.long q0), .second, .val (.long q1), .second, .val (.long lo), .second, .val (.long hi), .second, .val (.ref b9), .val (.long (own_sz lo hi)), .second, .unset, .unset, .unset] [(.long lo), (.long hi)])) rfl (hb hby at_45) _ zk) ?_
    refine own_st (fun zw zk => XS.ladd X11.here hx rfl (hb hby at_48) rfl zk) ?_
    show own_Go p e below G (T11.setTop (mkF m 49 #[.val (.long q0), .second, .val (.long q1), .second, .val (.long lo), .second, .val (.long hi), .second, .val (.ref b9), .val (.long (own_sz lo hi)), .second, .unset, .unset, .unset] [(.long (lo + (9223372036854775807 : Int64))), (.long hi)]))
    refine own_st (fun zw zk => XS.lcmp X11.here hx rfl (hb hby at_49) rfl zk) ?_
    by_cases hc50 : hi < (lo + (9223372036854775807 : Int64))
    · refine own_st (fun zw zk => XS.ifYes X11.here hx rfl (pc0 := 50) (pc' := 57) rfl (hb hby at_50) rfl ((if0 _ _).trans (tlt (own_tll hc50)).1) (by decide) (by decide) zk) ?_
      refine own_st (fun zw zk => XS.iconst X11.here hx rfl (hb hby at_57) zk) ?_
      refine own_st (fun zw zk => XS.istore X11.here hx rfl (hb hby at_58) rfl rfl zk) ?_
      show own_Go p e below G (T11.setTop (mkF m 60 #[.val (.long q0), .second, .val (.long q1), .second, .val (.long lo), .second, .val (.long hi), .second, .val (.ref b9), .val (.long (own_sz lo hi)), .second, .val (.int (0 : Int32)), .unset, .unset] []))
      refine own_st (fun zw zk => XS.iload X11.here hx rfl (hb hby at_60) rfl zk) ?_
      refine own_st (fun zw zk => XS.ifYes X11.here hx rfl (pc0 := 62) (pc' := 71) rfl (hb hby at_62) rfl ((if0 _ _).trans (teq (by decide : (0 : Int32) = (0 : Int32))).1) (by decide) (by decide) zk) ?_
      refine own_st (fun zw zk => XS.lload X11.here hx rfl (hb hby at_71) rfl zk) ?_
      refine own_st (fun zw zk => XS.lload X11.here hx rfl (hb hby at_73) rfl zk) ?_
      refine own_st (fun zw zk => XS.lsub X11.here hx rfl (hb hby at_75) rfl zk) ?_
      refine own_st (fun zw zk => XS.lconst X11.here hx rfl (hb hby at_76) zk) ?_
      refine own_st (fun zw zk => XS.ladd X11.here hx rfl (hb hby at_77) rfl zk) ?_
      refine own_st (fun zw zk => XS.lstore X11.here hx rfl (hb hby at_78) rfl rfl zk) ?_
      show own_Go p e below G (T11.setTop (mkF m 80 #[.val (.long q0), .second, .val (.long q1), .second, .val (.long lo), .second, .val (.long hi), .second, .val (.ref b9), .val (.long (own_sz lo hi)), .second, .val (.int (0 : Int32)), .val (.long ((hi - lo) + (1 : Int64))), .second] []))
      refine own_st (fun zw zk => XS.lload X11.here hx rfl (hb hby at_80) rfl zk) ?_
      refine own_st (fun zw zk => XS.lload X11.here hx rfl (hb hby at_82) rfl zk) ?_
      refine own_st (fun zw zk => XS.lcmp X11.here hx rfl (hb hby at_84) rfl zk) ?_
      have hc85 : (own_sz lo hi) = ((hi - lo) + (1 : Int64)) := (own_law hle).1.trans (by rw [if_neg hc38, if_pos hc50])
      refine own_st (fun zw zk => XS.ifNo X11.here hx rfl (hb hby at_85) rfl ((if0 _ _).trans (teq (own_tle hc85)).2) zk) ?_
      refine own_st (fun zw zk => XS.lload X11.here hx rfl (hb hby at_88) rfl zk) ?_
      refine own_st (fun zw zk => XS.lconst X11.here hx rfl (hb hby at_90) zk) ?_
      refine own_st (fun zw zk => XS.lcmp X11.here hx rfl (hb hby at_91) rfl zk) ?_
      have hc92 : ¬ ((own_sz lo hi) < (1 : Int64)) := (own_law hle).2
      refine own_st (fun zw zk => XS.ifNo X11.here hx rfl (hb hby at_92) rfl ((if0 _ _).trans (flt (own_fll hc92)).1) zk) ?_
      show own_Go p e below G (T11.setTop (mkF m 95 #[.val (.long q0), .second, .val (.long q1), .second, .val (.long lo), .second, .val (.long hi), .second, .val (.ref b9), .val (.long (own_sz lo hi)), .second, .val (.int (0 : Int32)), .val (.long ((hi - lo) + (1 : Int64))), .second] []))
      refine own_st (fun zw zk => XS.iconst X11.here hx rfl (hb hby at_95) zk) ?_
      refine own_st (fun zw zk => XS.goto X11.here hx rfl (pc0 := 96) (pc' := 100) rfl (hb hby at_96) (by decide) (by decide) zk) ?_
      show own_Go p e below G (T11.setTop (mkF m 100 #[.val (.long q0), .second, .val (.long q1), .second, .val (.long lo), .second, .val (.long hi), .second, .val (.ref b9), .val (.long (own_sz lo hi)), .second, .val (.int (0 : Int32)), .val (.long ((hi - lo) + (1 : Int64))), .second] [(.int (1 : Int32))]))
      subst hG
      obtain ⟨fs, hr, hrun, hended, hW, hsame⟩ := X11.leave (v := some (.int (1 : Int32))) (hlocks := Bd.notSynchronized) (fun h => by rw [Bd.returns] at h; cases h)
      refine ⟨_, retN X11 hx (t := .boolean) Bd.returns (by simp) (hb hby at_100) hr, _, hrun, hended, _, _, rfl, ?_, ⟨_, rfl⟩, hW, hsame.mono (by decide) (by decide)⟩
      show Q0 Z q0 q1 h0 n0 _ T11.heap _
      rw [e11]
      exact ⟨rfl, N11⟩
    · refine own_st (fun zw zk => XS.ifNo X11.here hx rfl (hb hby at_50) rfl ((if0 _ _).trans (flt (own_fll hc50)).1) zk) ?_
      refine own_st (fun zw zk => XS.iconst X11.here hx rfl (hb hby at_53) zk) ?_
      refine own_st (fun zw zk => XS.goto X11.here hx rfl (pc0 := 54) (pc' := 58) rfl (hb hby at_54) (by decide) (by decide) zk) ?_
      show own_Go p e below G (T11.setTop (mkF m 58 #[.val (.long q0), .second, .val (.long q1), .second, .val (.long lo), .second, .val (.long hi), .second, .val (.ref b9), .val (.long (own_sz lo hi)), .second, .unset, .unset, .unset] [(.int (1 : Int32))]))
      refine own_st (fun zw zk => XS.istore X11.here hx rfl (hb hby at_58) rfl rfl zk) ?_
      show own_Go p e below G (T11.setTop (mkF m 60 #[.val (.long q0), .second, .val (.long q1), .second, .val (.long lo), .second, .val (.long hi), .second, .val (.ref b9), .val (.long (own_sz lo hi)), .second, .val (.int (1 : Int32)), .unset, .unset] []))
      refine own_st (fun zw zk => XS.iload X11.here hx rfl (hb hby at_60) rfl zk) ?_
      refine own_st (fun zw zk => XS.ifNo X11.here hx rfl (hb hby at_62) rfl ((if0 _ _).trans (feq (by decide : ¬ ((1 : Int32) = (0 : Int32)))).1) zk) ?_
      refine own_st (fun zw zk => X11.ldc2Long hx hown (mvT hZ (hw _ (List.mem_of_getElem? (i := 30) rfl))) (g := (mkF m 65 #[.val (.long q0), .second, .val (.long q1), .second, .val (.long lo), .second, .val (.long hi), .second, .val (.ref b9), .val (.long (own_sz lo hi)), .second, .val (.int (1 : Int32)), .unset, .unset] [])) rfl (hb hby at_65) _ zk) ?_
      refine own_st (fun zw zk => XS.goto X11.here hx rfl (pc0 := 68) (pc' := 78) rfl (hb hby at_68) (by decide) (by decide) zk) ?_
      show own_Go p e below G (T11.setTop (mkF m 78 #[.val (.long q0), .second, .val (.long q1), .second, .val (.long lo), .second, .val (.long hi), .second, .val (.ref b9), .val (.long (own_sz lo hi)), .second, .val (.int (1 : Int32)), .unset, .unset] [(.long (9223372036854775807 : Int64))]))
      refine own_st (fun zw zk => XS.lstore X11.here hx rfl (hb hby at_78) rfl rfl zk) ?_
      show own_Go p e below G (T11.setTop (mkF m 80 #[.val (.long q0), .second, .val (.long q1), .second, .val (.long lo), .second, .val (.long hi), .second, .val (.ref b9), .val (.long (own_sz lo hi)), .second, .val (.int (1 : Int32)), .val (.long (9223372036854775807 : Int64)), .second] []))
      refine own_st (fun zw zk => XS.lload X11.here hx rfl (hb hby at_80) rfl zk) ?_
      refine own_st (fun zw zk => XS.lload X11.here hx rfl (hb hby at_82) rfl zk) ?_
      refine own_st (fun zw zk => XS.lcmp X11.here hx rfl (hb hby at_84) rfl zk) ?_
      have hc85 : (own_sz lo hi) = (9223372036854775807 : Int64) := (own_law hle).1.trans (by rw [if_neg hc38, if_neg hc50])
      refine own_st (fun zw zk => XS.ifNo X11.here hx rfl (hb hby at_85) rfl ((if0 _ _).trans (teq (own_tle hc85)).2) zk) ?_
      refine own_st (fun zw zk => XS.lload X11.here hx rfl (hb hby at_88) rfl zk) ?_
      refine own_st (fun zw zk => XS.lconst X11.here hx rfl (hb hby at_90) zk) ?_
      refine own_st (fun zw zk => XS.lcmp X11.here hx rfl (hb hby at_91) rfl zk) ?_
      have hc92 : ¬ ((own_sz lo hi) < (1 : Int64)) := (own_law hle).2
      refine own_st (fun zw zk => XS.ifNo X11.here hx rfl (hb hby at_92) rfl ((if0 _ _).trans (flt (own_fll hc92)).1) zk) ?_
      show own_Go p e below G (T11.setTop (mkF m 95 #[.val (.long q0), .second, .val (.long q1), .second, .val (.long lo), .second, .val (.long hi), .second, .val (.ref b9), .val (.long (own_sz lo hi)), .second, .val (.int (1 : Int32)), .val (.long (9223372036854775807 : Int64)), .second] []))
      refine own_st (fun zw zk => XS.iconst X11.here hx rfl (hb hby at_95) zk) ?_
      refine own_st (fun zw zk => XS.goto X11.here hx rfl (pc0 := 96) (pc' := 100) rfl (hb hby at_96) (by decide) (by decide) zk) ?_
      show own_Go p e below G (T11.setTop (mkF m 100 #[.val (.long q0), .second, .val (.long q1), .second, .val (.long lo), .second, .val (.long hi), .second, .val (.ref b9), .val (.long (own_sz lo hi)), .second, .val (.int (1 : Int32)), .val (.long (9223372036854775807 : Int64)), .second] [(.int (1 : Int32))]))
      subst hG
      obtain ⟨fs, hr, hrun, hended, hW, hsame⟩ := X11.leave (v := some (.int (1 : Int32))) (hlocks := Bd.notSynchronized) (fun h => by rw [Bd.returns] at h; cases h)
      refine ⟨_, retN X11 hx (t := .boolean) Bd.returns (by simp) (hb hby at_100) hr, _, hrun, hended, _, _, rfl, ?_, ⟨_, rfl⟩, hW, hsame.mono (by decide) (by decide)⟩
      show Q0 Z q0 q1 h0 n0 _ T11.heap _
      rw [e11]
      exact ⟨rfl, N11⟩
set_option maxRecDepth 65536 in
set_option maxHeartbeats 40000000 in
theorem comes_1 {Post : Tables → Env → Array Value → State → Outcome → State → Prop} (hpost : ∀ tb e args s v u, (limb_1_1.after args s (.returned v) u = true ∧ limb_1_2.after args s (.returned v) u = true ∧ True) → FrameEnd s (.returned v) u (Jvm.fieldLocs frame_1_writes args s ++ Jvm.arrayLocs frame_1_arrays args s ++ Jvm.staticLocs frame_1_statics s) 16 128 → Post tb e args s (.returned v) u) :
    ArmFor flags0 classFile x code maxLocals ret World_1 tables_1 room_1 Calls_1 rest_1 Pre_1 Post := by
  intro l hfl _ _ p e ha hc hk s m args below hf hA hF happ hP
  obtain ⟨hcalls, hrest, hpre⟩ := hP
  obtain ⟨-, -, -, hnamed, -, -, -, hat⟩ := (Spec.applies_iff hf).mp happ
  obtain ⟨hg, hn⟩ := and_e (Cond.before_iff.mp (show (Jvm.Cond.and given_1 narrow_1).before args s = true from hpre))
  obtain ⟨g1, g2⟩ := and_e hg
  obtain ⟨g3, g4⟩ := and_e g2
  obtain ⟨w0, w1, rfl⟩ : ∃ w0 w1 : Value, args = #[w0, w1] := by
    have hs : args.size = 2 := by simpa [Cond.value, given_1] using g1
    obtain ⟨L⟩ := args
    match L, hs with
    | [w0, w1], _ => exact ⟨w0, w1, rfl⟩
  have hw := fun d (hd : d ∈ tables_1) => atoms_spec (ws := Jvm.Cond.code x code maxLocals ret :: tables_1) hat d (List.mem_cons_of_mem _ hd)
  obtain ⟨i0, ei0⟩ := isL_v g3
  obtain rfl : w0 = (.long i0) := Option.some.inj ei0
  obtain ⟨i1, ei1⟩ := isL_v g4
  obtain rfl : w1 = (.long i1) := Option.some.inj ei1
  obtain ⟨n, o, h1, h2, h3, _, L, rfl, ⟨rfl, N⟩, hq⟩ := rm0 l s _ hw tables_1 i0 i1 s.heap s.heap.size (Nat.le_refl _) p e ha hc hk s m _ below hf ((Spec.applies_iff_loose hf).mp happ).1 ⟨rfl, State.Warmed39.refl s, rfl⟩ trivial
  refine ⟨n, _, h1, h2, h3, hpost _ _ _ _ _ _ ⟨Cond.after_iff.mpr rfl, Cond.after_iff.mpr (eq_i res_at (Term.int_eval (1)) rfl), trivial⟩ ⟨hq.1, hq.2.1, (hq.2.2.sift fun y hy => Or.inr (N y hy)).mono (by decide) (by decide)⟩⟩
theorem main_1_1 : Claimed_1_1 := comes_1 fun _ _ _ _ _ _ h hF => ⟨h.1, hF⟩
theorem main_1_2 : Claimed_1_2 := comes_1 fun _ _ _ _ _ _ h hF => ⟨h.2.1, hF⟩
end Jvm.Pilot.@@N@@
namespace Jvm.Pilot.@@N@@
open Jvm Jvm.ClassFile Sem Op Lib Jvm.Free Jvm.Stand Jvm.Pilot.@@N@@.Jvm.D
/-! MADE BY PROGRAM (witnessworld.py) out of the Statement's table words and the real class files: 12 classes; the members and pool entries that the words name. The judged class is class 1, her method 1. -/
namespace start1
open Jvm.ClassFile
def u (s : String) : CpInfo := .utf8 (stringToUtf16 s)
/-- a pool by its gaps: so many unusable entries, then the entry; so many at the end -/
def gap : Nat → List CpInfo → List CpInfo
  | 0, r => r
  | n + 1, r => .unusable :: gap n r
def poolList (es : List (Nat × CpInfo)) (last : Nat) : List CpInfo := es.foldr (fun e r => gap e.1 (e.2 :: r)) (gap last [])
def pool (es : List (Nat × CpInfo)) (last : Nat) : Array CpInfo := ⟨poolList es last⟩
def fileOf (pool : Array CpInfo) (this : Nat) (attrs : Array Attribute := #[]) (ms : Array MethodInfo := #[]) (fl : Nat := 33) (sup : Nat := 0) (ifs : Array Nat := #[]) (fds : Array FieldInfo := #[]) : ClassFile where
  minorVersion := 0
  majorVersion := 65
  constantPool := pool
  accessFlags := fl
  thisClass := this
  superClass := sup
  interfaces := ifs
  fields := fds
  methods := ms
  attributes := attrs
def plain (name : String) (sup : Option ClassId) : Class where
  name := name
  kind := .ordinary
  loader := none
  accessFlags := 33
  super := sup
  interfaces := #[]
  cf := none
  fields := #[]
  methods := #[]
  instanceTypes := #[]
  staticTypes := #[]
  resolved := #[]
  callSites := []
  init := .initialized
  statics := none
  mirror := none

def pool0 : Array CpInfo := pool [(5, u "<init>"), (0, u "()V"), (1, .class_ 10), (1, u "java/lang/Object")] 113

def k0c0 : Code := { maxStack := 0, maxLocals := 1, code := object_method_1_code, exceptionTable := #[], attributes := #[] }
def k0m0 : Method := { name := "<init>", desc := "()V", sig := { parameters := [], returnType := none }, accessFlags := 1, code := some k0c0 }
/-- java/lang/Object -/
def k0 : Class := { plain "java/lang/Object" none with
  accessFlags := 33
  interfaces := #[]
  cf := some (fileOf pool0 8 #[] #[{ accessFlags := 1, nameIndex := 5, descriptorIndex := 6, attributes := #[] }] 33 0 #[] #[])
  fields := #[]
  methods := #[k0m0]
  instanceTypes := #[]
  staticTypes := #[]
  resolved := Array.replicate 124 none
  statics := none }

def pool1 : Array CpInfo := pool [(2, .class_ 4), (1, u "java/lang/Object"), (0, u "<init>"), (0, u "()V"), (0, .methodref 8 9), (0, .class_ 10), (0, .nameAndType 11 12), (0, u "java/lang/Math"), (0, u "min"), (0, u "(JJ)J"), (0, .methodref 8 14), (0, .nameAndType 15 12), (0, u "max"), (0, .class_ 17), (0, u "com/example/verdicts_from_fragments/verdictsfromfragments/protocol/EventType$Domain$Range"), (0, .methodref 16 19), (0, .nameAndType 5 20), (0, u "(JJ)V"), (0, .methodref 16 22), (0, .nameAndType 23 24), (0, u "size"), (0, u "()J"), (2, .long 9223372036854775807), (1, .class_ 30), (0, u "com/example/verdicts_from_fragments/verdictsfromfragments/protocol/RangeSizePinLaw"), (2, u "law"), (0, u "(JJ)Z")] 10

def k1m0 : Method := { name := "<init>", desc := "()V", sig := { parameters := [], returnType := none }, accessFlags := 1, code := none }
def k1c1 : Code := { maxStack := 6, maxLocals := 14, code := code, exceptionTable := #[], attributes := #[] }
def k1m1 : Method := { name := "law", desc := "(JJ)Z", sig := { parameters := [.long, .long], returnType := some .boolean }, accessFlags := 9, code := some k1c1 }
/-- com/example/verdicts_from_fragments/verdictsfromfragments/protocol/RangeSizePinLaw -/
def k1 : Class := { plain "com/example/verdicts_from_fragments/verdictsfromfragments/protocol/RangeSizePinLaw" (some 0) with
  accessFlags := 49
  interfaces := #[]
  cf := some (fileOf pool1 29 #[] #[{ accessFlags := 1, nameIndex := 5, descriptorIndex := 6, attributes := #[] }, { accessFlags := 9, nameIndex := 33, descriptorIndex := 34, attributes := #[] }] 49 2 #[] #[])
  fields := #[]
  methods := #[k1m0, k1m1]
  instanceTypes := #[]
  staticTypes := #[]
  resolved := Array.replicate 45 none
  statics := none }

def pool2 : Array CpInfo := pool [(1, .class_ 2), (0, u "java/lang/Math"), (1, .class_ 6), (1, u "java/lang/Object"), (0, u "<init>"), (0, u "()V"), (89, .class_ 100), (1, u "java/lang/Math$RandomNumberGeneratorHolder"), (20, u "(JJ)J"), (50, u "negativeZeroFloatBits"), (0, u "J"), (2, u "negativeZeroDoubleBits"), (21, u "max"), (2, u "min"), (43, u "$assertionsDisabled"), (0, u "Z"), (91, u "twoToTheDoubleScaleDown"), (0, u "D"), (4, u "twoToTheDoubleScaleUp"), (9, u "E"), (3, u "PI"), (2, u "TAU"), (2, u "DEGREES_TO_RADIANS"), (0, u "RADIANS_TO_DEGREES")] 94

def k2m0 : Method := { name := "<init>", desc := "()V", sig := { parameters := [], returnType := none }, accessFlags := 2, code := none }
def k2c1 : Code := { maxStack := 4, maxLocals := 4, code := jdk_29_method_66_code, exceptionTable := #[], attributes := #[] }
def k2m1 : Method := { name := "max", desc := "(JJ)J", sig := { parameters := [.long, .long], returnType := some .long }, accessFlags := 9, code := some k2c1 }
def k2c2 : Code := { maxStack := 4, maxLocals := 4, code := jdk_29_method_70_code, exceptionTable := #[], attributes := #[] }
def k2m2 : Method := { name := "min", desc := "(JJ)J", sig := { parameters := [.long, .long], returnType := some .long }, accessFlags := 9, code := some k2c2 }
/-- java/lang/Math -/
def k2 : Class := { plain "java/lang/Math" (some 0) with
  accessFlags := 49
  interfaces := #[]
  cf := some (fileOf pool2 1 #[.nestMembers #[98]] #[{ accessFlags := 2, nameIndex := 7, descriptorIndex := 8, attributes := #[] }, { accessFlags := 9, nameIndex := 198, descriptorIndex := 121, attributes := #[] }, { accessFlags := 9, nameIndex := 201, descriptorIndex := 121, attributes := #[] }] 49 4 #[] #[{ accessFlags := 25, nameIndex := 354, descriptorIndex := 339, attributes := #[] }, { accessFlags := 25, nameIndex := 358, descriptorIndex := 339, attributes := #[] }, { accessFlags := 25, nameIndex := 361, descriptorIndex := 339, attributes := #[] }, { accessFlags := 26, nameIndex := 364, descriptorIndex := 339, attributes := #[] }, { accessFlags := 26, nameIndex := 365, descriptorIndex := 339, attributes := #[] }, { accessFlags := 26, nameIndex := 172, descriptorIndex := 173, attributes := #[] }, { accessFlags := 26, nameIndex := 176, descriptorIndex := 173, attributes := #[] }, { accessFlags := 8, nameIndex := 344, descriptorIndex := 339, attributes := #[] }, { accessFlags := 8, nameIndex := 338, descriptorIndex := 339, attributes := #[] }, { accessFlags := 4120, nameIndex := 245, descriptorIndex := 246, attributes := #[] }])
  fields := #[{ name := "E", type := .double, accessFlags := 25, slot := 0, constantValue := 0 }, { name := "PI", type := .double, accessFlags := 25, slot := 1, constantValue := 0 }, { name := "TAU", type := .double, accessFlags := 25, slot := 2, constantValue := 0 }, { name := "DEGREES_TO_RADIANS", type := .double, accessFlags := 26, slot := 3, constantValue := 0 }, { name := "RADIANS_TO_DEGREES", type := .double, accessFlags := 26, slot := 4, constantValue := 0 }, { name := "negativeZeroFloatBits", type := .long, accessFlags := 26, slot := 5, constantValue := 0 }, { name := "negativeZeroDoubleBits", type := .long, accessFlags := 26, slot := 6, constantValue := 0 }, { name := "twoToTheDoubleScaleUp", type := .double, accessFlags := 8, slot := 7, constantValue := 0 }, { name := "twoToTheDoubleScaleDown", type := .double, accessFlags := 8, slot := 8, constantValue := 0 }, { name := "$assertionsDisabled", type := .boolean, accessFlags := 4120, slot := 9, constantValue := 0 }]
  methods := #[k2m0, k2m1, k2m2]
  instanceTypes := #[]
  staticTypes := #[.double, .double, .double, .double, .double, .long, .long, .double, .double, .boolean]
  resolved := Array.replicate 460 none
  statics := none }

def pool3 : Array CpInfo := pool [(1, .methodref 2 3), (0, .class_ 4), (0, .nameAndType 5 6), (0, u "java/lang/Object"), (0, u "<init>"), (0, u "()V"), (0, .class_ 8), (0, u "java/lang/Record")] 13

def k3c0 : Code := { maxStack := 1, maxLocals := 1, code := jdk_30_method_1_code, exceptionTable := #[], attributes := #[] }
def k3m0 : Method := { name := "<init>", desc := "()V", sig := { parameters := [], returnType := none }, accessFlags := 4, code := some k3c0 }
/-- java/lang/Record -/
def k3 : Class := { plain "java/lang/Record" (some 0) with
  accessFlags := 1057
  interfaces := #[]
  cf := some (fileOf pool3 7 #[] #[{ accessFlags := 4, nameIndex := 5, descriptorIndex := 6, attributes := #[] }] 1057 2 #[] #[])
  fields := #[]
  methods := #[k3m0]
  instanceTypes := #[]
  staticTypes := #[]
  resolved := Array.replicate 22 none
  statics := none }

def pool4 : Array CpInfo := pool [(1, .class_ 2), (0, u "com/example/verdicts_from_fragments/verdictsfromfragments/protocol/EventType$Domain"), (0, .class_ 4), (0, u "java/lang/Object"), (11, .class_ 17), (0, u "com/example/verdicts_from_fragments/verdictsfromfragments/protocol/EventType")] 9

/-- com/example/verdicts_from_fragments/verdictsfromfragments/protocol/EventType$Domain -/
def k4 : Class := { plain "com/example/verdicts_from_fragments/verdictsfromfragments/protocol/EventType$Domain" (some 0) with
  accessFlags := 1537
  interfaces := #[]
  cf := some (fileOf pool4 1 #[.nestHost 16] #[] 1537 3 #[] #[])
  fields := #[]
  methods := #[]
  instanceTypes := #[]
  staticTypes := #[]
  resolved := Array.replicate 27 none
  statics := none }

def pool5 : Array CpInfo := pool [(1, .methodref 2 3), (0, .class_ 4), (0, .nameAndType 5 6), (0, u "java/lang/Record"), (0, u "<init>"), (0, u "()V"), (9, .fieldref 17 18), (0, .class_ 19), (0, .nameAndType 20 21), (0, u "com/example/verdicts_from_fragments/verdictsfromfragments/protocol/EventType$Domain$Range"), (0, u "low"), (0, u "J"), (0, .fieldref 17 23), (0, .nameAndType 24 21), (0, u "high"), (15, u "()J"), (2, .long 9223372036854775807), (26, .class_ 71), (0, u "com/example/verdicts_from_fragments/verdictsfromfragments/protocol/EventType$Domain"), (0, u "(JJ)V"), (6, u "size"), (9, .class_ 90), (0, u "com/example/verdicts_from_fragments/verdictsfromfragments/protocol/EventType")] 30

def k5c0 : Code := { maxStack := 6, maxLocals := 5, code := prog_54_method_1_code, exceptionTable := #[], attributes := #[] }
def k5m0 : Method := { name := "<init>", desc := "(JJ)V", sig := { parameters := [.long, .long], returnType := none }, accessFlags := 1, code := some k5c0 }
def k5c1 : Code := { maxStack := 4, maxLocals := 3, code := prog_54_method_3_code, exceptionTable := #[], attributes := #[] }
def k5m1 : Method := { name := "size", desc := "()J", sig := { parameters := [], returnType := some .long }, accessFlags := 1, code := some k5c1 }
/-- com/example/verdicts_from_fragments/verdictsfromfragments/protocol/EventType$Domain$Range -/
def k5 : Class := { plain "com/example/verdicts_from_fragments/verdictsfromfragments/protocol/EventType$Domain$Range" (some 3) with
  accessFlags := 49
  interfaces := #[4]
  cf := some (fileOf pool5 17 #[.nestHost 89] #[{ accessFlags := 1, nameIndex := 5, descriptorIndex := 72, attributes := #[] }, { accessFlags := 1, nameIndex := 79, descriptorIndex := 40, attributes := #[] }] 49 2 #[70] #[{ accessFlags := 18, nameIndex := 20, descriptorIndex := 21, attributes := #[] }, { accessFlags := 18, nameIndex := 24, descriptorIndex := 21, attributes := #[] }])
  fields := #[{ name := "low", type := .long, accessFlags := 18, slot := 0, constantValue := 0 }, { name := "high", type := .long, accessFlags := 18, slot := 1, constantValue := 0 }]
  methods := #[k5m0, k5m1]
  instanceTypes := #[.long, .long]
  staticTypes := #[]
  resolved := Array.replicate 121 none
  statics := none }

def pool6 : Array CpInfo := pool [(1, u "java/lang/Cloneable"), (0, .class_ 1), (0, u "java/lang/Object"), (0, .class_ 3)] 3

/-- java/lang/Cloneable -/
def k6 : Class := { plain "java/lang/Cloneable" (some 0) with
  accessFlags := 1537
  interfaces := #[]
  cf := some (fileOf pool6 2 #[] #[] 1537 4 #[] #[])
  fields := #[]
  methods := #[]
  instanceTypes := #[]
  staticTypes := #[]
  resolved := Array.replicate 8 none
  statics := none }

def pool7 : Array CpInfo := pool [(1, u "java/io/Serializable"), (0, .class_ 1), (0, u "java/lang/Object"), (0, .class_ 3)] 3

/-- java/io/Serializable -/
def k7 : Class := { plain "java/io/Serializable" (some 0) with
  accessFlags := 1537
  interfaces := #[]
  cf := some (fileOf pool7 2 #[] #[] 1537 4 #[] #[])
  fields := #[]
  methods := #[]
  instanceTypes := #[]
  staticTypes := #[]
  resolved := Array.replicate 8 none
  statics := none }

/-- the primitive byte -/
def k8 : Class := { plain "byte" none with kind := .primitive 'B', accessFlags := 0x411 }
/-- [B -/
def k9 : Class := { plain "[B" (some 0) with kind := .array 8 .byte, interfaces := #[6, 7], accessFlags := 1041 }

/-- the primitive int -/
def k10 : Class := { plain "int" none with kind := .primitive 'I', accessFlags := 0x411 }
/-- [I -/
def k11 : Class := { plain "[I" (some 0) with kind := .array 10 .int, interfaces := #[6, 7], accessFlags := 1041 }

def heap : Heap := #[]
def classes : Array Class := #[k0, k1, k2, k3, k4, k5, k6, k7, k8, k9, k10, k11]
def interned : List (Array UInt16 × Addr) := []
def slotsUsed : Nat := 0
def theMethod : MethodId := ⟨1, 1⟩
def args0 : Array Value := #[.long 5, .long 6]
def aboutOver (below : List Frame) : State where
  vm := { classes := classes, interned := interned.toArray }
  heap := heap
  slotsUsed := slotsUsed
  threads := #[{ frames := .invoking theMethod args0 :: below }]
def below0 : List Frame := [.native { method := ⟨0, 0⟩, args := #[] }]
def about1 : State := aboutOver below0
def p0 : Program := .bare "" "" ""
def e0 : Env := launch0.env 0 0 0
theorem w_frames : about1.frames = Frame.invoking theMethod args0 :: below0 := rfl
set_option maxRecDepth 65536 in
theorem w_args : argsFit about1.vm theMethod args0 = true := by decide +kernel
set_option maxRecDepth 65536 in
theorem w_heap : heapFits about1 = true := by decide +kernel
set_option maxRecDepth 65536 in
theorem w_runnable : about1.curStatus? = some .runnable := by decide +kernel
set_option maxRecDepth 65536 in
theorem w_alone : about1.alone = true := by decide +kernel
set_option maxRecDepth 65536 in
theorem w_named : about1.methodNamed? x = some theMethod := by decide +kernel
set_option maxRecDepth 65536 in
theorem w_hears : about1.hears theMethod below0 = true := by decide +kernel
set_option maxRecDepth 65536 in
theorem w_ripe : about1.ripe theMethod args0 below0 = true := by decide +kernel
theorem w_running : about1.status = .running := rfl
set_option maxRecDepth 65536 in
theorem w_room : about1.hasRoom e0.platform room_1 = true :=
  launch0.hasRoom_least _ room_1 (by decide +kernel) (by decide +kernel) (by decide +kernel) (by decide +kernel) (by decide +kernel) (by decide +kernel)
theorem allAtoms_all (ts : List Jvm.Cond) (a : Array Jvm.Value) (st : Jvm.State) : (allAtoms ts).before a st = ts.all (fun c => c.before a st) := by
  induction ts with
  | nil => rfl
  | cons c t ih =>
    show (Jvm.Cond.and c (allAtoms t)).before a st = _
    rw [Jvm.Cond.before_and, ih, List.all_cons]
def words1 : List Jvm.Cond := Jvm.Cond.code x code maxLocals ret :: tables_1
/-- a 'code' word, met by the world's own term for the bytes: nothing is compared byte by byte -/
theorem code_word {y : MethodName} {bytes : ByteArray} {mx : Nat} {rt : Option FieldType} {a : Array Value} {s : State} {m : MethodId} {meth : Method} {c : Code} (h1 : s.methodNamed? y = some m) (h2 : s.vm.method? m = some meth) (h3 : meth.code = some c) (h4 : c.code = bytes)
    (h5 : (c.maxLocals == mx && c.exceptionTable.isEmpty && decide (c.maxStack ≤ mostOperands) && decide (meth.sig.returnType = rt) && !meth.locks && decide (parseMethodDescriptor y.desc = some meth.sig)) = true) : (Jvm.Cond.code y bytes mx rt).before a s = true := by
  simp only [Bool.and_eq_true, beq_iff_eq, Bool.not_eq_true', decide_eq_true_eq] at h5
  obtain ⟨⟨⟨⟨⟨g1, g2⟩, g3⟩, g4⟩, g5⟩, g6⟩ := h5
  simp [Cond.before, Cond.holds, Cond.value, h1, h2, h3, h4, g1, g2, g3, g4, g5, g6]
def isCode : Jvm.Cond → Bool
  | .code _ _ _ _ => true
  | _ => false
theorem all_split {L : List Jvm.Cond} {P : Jvm.Cond → Bool} (h1 : L.all (fun c => isCode c || P c) = true) (h2 : ∀ c ∈ L.filter isCode, P c = true) : L.all P = true := by
  refine List.all_eq_true.mpr fun c hc => ?_
  have h := List.all_eq_true.mp h1 c hc
  rcases Bool.eq_false_or_eq_true (isCode c) with hi | hi
  · exact h2 c (List.mem_filter.mpr ⟨hc, hi⟩)
  · simpa [hi] using h
set_option maxRecDepth 65536 in
theorem w_c0 : (Jvm.Cond.code x code maxLocals ret).before args0 about1 = true := code_word (m := ⟨1, 1⟩) (meth := k1m1) (c := k1c1) (by decide +kernel) rfl rfl rfl (by decide +kernel)
set_option maxRecDepth 65536 in
theorem w_c1 : (Jvm.Cond.code ({ cls := "java/lang/Math", name := "min", desc := "(JJ)J" } : Jvm.MethodName) jdk_29_method_70_code (4 : Nat) (Option.some Jvm.ClassFile.FieldType.long)).before args0 about1 = true := code_word (m := ⟨2, 2⟩) (meth := k2m2) (c := k2c2) (by decide +kernel) rfl rfl rfl (by decide +kernel)
set_option maxRecDepth 65536 in
theorem w_c2 : (Jvm.Cond.code ({ cls := "java/lang/Math", name := "max", desc := "(JJ)J" } : Jvm.MethodName) jdk_29_method_66_code (4 : Nat) (Option.some Jvm.ClassFile.FieldType.long)).before args0 about1 = true := code_word (m := ⟨2, 1⟩) (meth := k2m1) (c := k2c1) (by decide +kernel) rfl rfl rfl (by decide +kernel)
set_option maxRecDepth 65536 in
theorem w_c3 : (Jvm.Cond.code ({ cls := "com/example/verdicts_from_fragments/verdictsfromfragments/protocol/EventType$Domain$Range", name := "<init>", desc := "(JJ)V" } : Jvm.MethodName) prog_54_method_1_code (5 : Nat) (Option.none : Option Jvm.ClassFile.FieldType)).before args0 about1 = true := code_word (m := ⟨5, 0⟩) (meth := k5m0) (c := k5c0) (by decide +kernel) rfl rfl rfl (by decide +kernel)
set_option maxRecDepth 65536 in
theorem w_c4 : (Jvm.Cond.code ({ cls := "java/lang/Record", name := "<init>", desc := "()V" } : Jvm.MethodName) jdk_30_method_1_code (1 : Nat) (Option.none : Option Jvm.ClassFile.FieldType)).before args0 about1 = true := code_word (m := ⟨3, 0⟩) (meth := k3m0) (c := k3c0) (by decide +kernel) rfl rfl rfl (by decide +kernel)
set_option maxRecDepth 65536 in
theorem w_c5 : (Jvm.Cond.code ({ cls := "java/lang/Object", name := "<init>", desc := "()V" } : Jvm.MethodName) object_method_1_code (1 : Nat) (Option.none : Option Jvm.ClassFile.FieldType)).before args0 about1 = true := code_word (m := ⟨0, 0⟩) (meth := k0m0) (c := k0c0) (by decide +kernel) rfl rfl rfl (by decide +kernel)
set_option maxRecDepth 65536 in
theorem w_c6 : (Jvm.Cond.code ({ cls := "com/example/verdicts_from_fragments/verdictsfromfragments/protocol/EventType$Domain$Range", name := "size", desc := "()J" } : Jvm.MethodName) prog_54_method_3_code (3 : Nat) (Option.some Jvm.ClassFile.FieldType.long)).before args0 about1 = true := code_word (m := ⟨5, 1⟩) (meth := k5m1) (c := k5c1) (by decide +kernel) rfl rfl rfl (by decide +kernel)
def codes1 : List Jvm.Cond := [Jvm.Cond.code x code maxLocals ret, Jvm.Cond.code ({ cls := "java/lang/Math", name := "min", desc := "(JJ)J" } : Jvm.MethodName) jdk_29_method_70_code (4 : Nat) (Option.some Jvm.ClassFile.FieldType.long), Jvm.Cond.code ({ cls := "java/lang/Math", name := "max", desc := "(JJ)J" } : Jvm.MethodName) jdk_29_method_66_code (4 : Nat) (Option.some Jvm.ClassFile.FieldType.long), Jvm.Cond.code ({ cls := "com/example/verdicts_from_fragments/verdictsfromfragments/protocol/EventType$Domain$Range", name := "<init>", desc := "(JJ)V" } : Jvm.MethodName) prog_54_method_1_code (5 : Nat) (Option.none : Option Jvm.ClassFile.FieldType), Jvm.Cond.code ({ cls := "java/lang/Record", name := "<init>", desc := "()V" } : Jvm.MethodName) jdk_30_method_1_code (1 : Nat) (Option.none : Option Jvm.ClassFile.FieldType), Jvm.Cond.code ({ cls := "java/lang/Object", name := "<init>", desc := "()V" } : Jvm.MethodName) object_method_1_code (1 : Nat) (Option.none : Option Jvm.ClassFile.FieldType), Jvm.Cond.code ({ cls := "com/example/verdicts_from_fragments/verdictsfromfragments/protocol/EventType$Domain$Range", name := "size", desc := "()J" } : Jvm.MethodName) prog_54_method_3_code (3 : Nat) (Option.some Jvm.ClassFile.FieldType.long)]
set_option maxRecDepth 65536 in
theorem codes_eq : words1.filter isCode = codes1 := rfl
theorem w_codes : ∀ c ∈ words1.filter isCode, c.before args0 about1 = true := by
  rw [codes_eq]
  intro c hc
  simp only [codes1, List.mem_cons, List.not_mem_nil, or_false] at hc
  rcases hc with rfl | rfl | rfl | rfl | rfl | rfl | rfl
  · exact w_c0
  · exact w_c1
  · exact w_c2
  · exact w_c3
  · exact w_c4
  · exact w_c5
  · exact w_c6
set_option maxRecDepth 65536 in
theorem w_t1 : (words1.take 24).all (fun c => isCode c || c.before args0 about1) = true := by decide +kernel
set_option maxRecDepth 65536 in
theorem w_t2 : (words1.drop 24).all (fun c => isCode c || c.before args0 about1) = true := by decide +kernel
theorem w_tables : (allAtoms (Jvm.Cond.code x code maxLocals ret :: tables_1)).before args0 about1 = true := by
  rw [allAtoms_all]
  show words1.all (fun c => c.before args0 about1) = true
  refine all_split ?_ w_codes
  rw [← List.take_append_drop 24 words1, List.all_append, w_t1, w_t2]
  rfl
set_option maxRecDepth 65536 in
theorem w_case : (Jvm.Cond.and given_1 narrow_1).before args0 about1 = true := by decide +kernel
theorem w_applies : (headSpec (Jvm.Cond.code x code maxLocals ret :: tables_1) room_1).applies x e0.platform about1 = true :=
  (Spec.applies_iff w_frames).mpr ⟨w_running, w_runnable, w_alone, w_named, w_hears, w_ripe, w_room, w_tables⟩
theorem atStart : AtStart classFile x code maxLocals ret World_1 tables_1 room_1 Calls_1 rest_1 Pre_1 launch0 p0 e0 about1 theMethod args0 below0 :=
  ⟨lists_1, trivial, launch0.admits_env _ _ _, launch0.least_env, fairChoices_fair.cas, fairChoices_fair.clock, w_frames, w_args, w_heap, w_applies, trivial, trivial, w_case⟩
end start1
theorem witness_1 : WitnessClaimed_1 := ⟨start1.p0, start1.e0, start1.about1, start1.theMethod, start1.args0, start1.below0, start1.atStart⟩
end Jvm.Pilot.@@N@@
