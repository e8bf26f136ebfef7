import JvmDerived
import JvmDerived.Pilot.@@N@@Statement
import JvmDerived.Pilot.@@N@@Code
set_option linter.unusedVariables false
set_option linter.unusedSimpArgs false
namespace Jvm.Pilot.@@N@@
open Jvm Jvm.ClassFile Sem Op Lib Jvm.Free Jvm.Stand Jvm.LawKit Jvm.RoadKit Bundle Jvm.Pilot.@@N@@.Jvm.D
/-! own_Go: from t the run comes to a state where G holds. A walk is written backwards from the goal, so that a case split may stand anywhere. -/
def own_Go (p : Program) (e : Env) (below : List Frame) (G : State → Prop) (t : State) : Prop := ∃ u, Steps p.tables e below t u ∧ G u
theorem own_st {p : Program} {e : Env} {below : List Frame} {G : State → Prop} {t u : State} (f : ∀ w, Steps p.tables e below u w → Steps p.tables e below t w) (k : own_Go p e below G u) : own_Go p e below G t := by
  obtain ⟨w, s, g⟩ := k
  exact ⟨w, f w s, g⟩
theorem own_jp {p : Program} {e : Env} {below : List Frame} {G : State → Prop} {t u : State} (f : Steps p.tables e below t u) (k : own_Go p e below G u) : own_Go p e below G t := by
  obtain ⟨w, s, g⟩ := k
  exact ⟨w, f.trans s, g⟩
theorem own_out {p : Program} {e : Env} {below : List Frame} {t : State} {Q : Outcome → State → Prop} (k : own_Go p e below (fun u => ∃ o, u.status = .running ∧ Ended u below o ∧ Q o u) t) : ∃ s₂ o, Steps p.tables e below t s₂ ∧ s₂.status = .running ∧ Ended s₂ below o ∧ Q o s₂ := by
  obtain ⟨w, s, o, g⟩ := k
  exact ⟨w, o, s, g⟩
theorem own_nm {p : Program} {e : Env} {below : List Frame} {G0 : State → Prop} {t : State} (k : ∀ G, G = G0 → own_Go p e below G t) : own_Go p e below G0 t := k _ rfl
theorem own_tll {x y : Int64} (h : x < y) : lcmpW x y < 0 := (lw_lt x y).mpr h
theorem own_fll {x y : Int64} (h : ¬ x < y) : ¬ lcmpW x y < 0 := fun q => h ((lw_lt x y).mp q)
theorem own_tlg {x y : Int64} (h : y < x) : 0 < lcmpW x y := (lw_gt x y).mpr h
theorem own_flg {x y : Int64} (h : ¬ y < x) : ¬ 0 < lcmpW x y := fun q => h ((lw_gt x y).mp q)
theorem own_tle {x y : Int64} (h : x = y) : lcmpW x y = 0 := (lw_eq x y).mpr h
theorem own_fle {x y : Int64} (h : ¬ x = y) : ¬ lcmpW x y = 0 := fun q => h ((lw_eq x y).mp q)
section Own
variable {p : Program} {l : Launch} {e : Env} {R : Room} {s : State} {m : MethodId} {args : Array Value} {below : List Frame} {meth : Method} {c : Code} {T : State} {locs : List Loc} {cells slots : Nat} {Z : State} {h h' : Heap} {a b : Addr} {ty : FieldType} {vs : List Value} {v : Value}
theorem own_retI (X : Stand p l e R s m args below meth c T locs cells slots) (hx : p.tables.exec = Jvm.exec) {pc : Nat} {Ls : Array Slot} {z : Int32} {rest : List Value} (hret : meth.sig.returnType = some .int) (hd : decode c.code pc = .ok (.ireturn, 1)) {fs : List Frame}
    (hl : ∀ (f : JFrame) (acts : List Action), f.method = m → f.locked = none → f.entered = [] → (doReturn e (T.setTop f) acts (some (.int z))).1 = T.setFrames fs) : Steps p.tables e below (T.setTop (mkF m pc Ls (.int z :: rest))) (T.setFrames fs) :=
  retOut X hx hret rfl (Or.inl ⟨rfl, Or.inl rfl, z, rfl⟩) hd hl
theorem own_retJ (X : Stand p l e R s m args below meth c T locs cells slots) (hx : p.tables.exec = Jvm.exec) {pc : Nat} {Ls : Array Slot} {z : Int64} {rest : List Value} (hret : meth.sig.returnType = some .long) (hd : decode c.code pc = .ok (.lreturn, 1)) {fs : List Frame}
    (hl : ∀ (f : JFrame) (acts : List Action), f.method = m → f.locked = none → f.entered = [] → (doReturn e (T.setTop f) acts (some (.long z))).1 = T.setFrames fs) : Steps p.tables e below (T.setTop (mkF m pc Ls (.long z :: rest))) (T.setFrames fs) :=
  retOut X hx hret rfl (Or.inr (Or.inl ⟨rfl, rfl, z, rfl⟩)) hd hl
/-! own_L: the array at a holds just the list vs -/
def own_L (Z : State) (h : Heap) (a : Addr) (ty : FieldType) (vs : List Value) : Prop := ∃ cl : Cell, Arr Z h a cl ty ∧ cl.slots = vs.toArray
theorem own_L.lt (F : own_L Z h a ty vs) : a < h.size := by obtain ⟨cl, A, -⟩ := F; exact A.lt
theorem own_L.ext (F : own_L Z h a ty vs) (E : Ext h h') : own_L Z h' a ty vs := by obtain ⟨cl, A, q⟩ := F; exact ⟨cl, A.ext E, q⟩
theorem own_L.other {sl : Nat} (F : own_L Z h b ty vs) (W : Wr h h' a sl v) (q : b ≠ a) : own_L Z h' b ty vs := by obtain ⟨cl, A, r⟩ := F; exact ⟨cl, A.other W q, r⟩
theorem own_L.keep {ws : List Addr} (F : own_L Z h a ty vs) (K : Keep h h' ws) (q : a ∉ ws) : own_L Z h' a ty vs := by obtain ⟨cl, A, r⟩ := F; exact ⟨cl, ⟨K.2.1 a cl A.1 q, A.2⟩, r⟩
theorem own_L.new {k : ClassId} {z : Int32} (A : Arr Z h a (newA k ty z) ty) : own_L Z h a ty (List.replicate z.toNatClampNeg (defaultValue ty)) := ⟨_, A, by simp [newA]⟩
theorem own_L.same {k : Nat} (F : own_L Z h a ty vs) (W : Wr h h' a k v) : own_L Z h' a ty (vs.set k v) := by
  obtain ⟨cl, A, q⟩ := F
  exact ⟨_, A.same W, by simp [Cell.setSlot, q]⟩
theorem own_in {cl : Cell} {j : Int32} (q : cl.slots = vs.toArray) (h1 : ¬ j < 0) (h2 : j.toNatClampNeg < vs.length) : ¬ (j < 0 ∨ cl.slots.size ≤ j.toNatClampNeg) := by
  rw [q]
  rintro (r | r)
  · exact h1 r
  · simp at r; omega
theorem own_at {cl : Cell} {k : Nat} (q : cl.slots = vs.toArray) (hv : vs[k]? = some v) : cl.slots[k]? = some v := by rw [q]; simpa using hv
theorem own_lt {k : Nat} (hv : vs[k]? = some v) : k < vs.length := by
  obtain ⟨q, -⟩ := List.getElem?_eq_some_iff.mp hv
  exact q
theorem own_bld (X : Stand p l e R s m args below meth c T locs cells slots) (hx : p.tables.exec = Jvm.exec) (hZ : Z.Warmed39 s.vm) (eT : T.heap = h) (F : own_L Z h a .byte vs) {j : Int32} {i : Nat} (h1 : ¬ j < 0) (hi : j.toNatClampNeg = i) (hv : vs[i]? = some v) {g : JFrame} (hg : g.method = m) {rest : List Value} (hs : g.stack = .int j :: .ref a :: rest) (hd : decode c.code g.pc = .ok (.baload, 1)) :
    ∀ target, Steps p.tables e below (T.setTop { g with pc := g.pc + 1, stack := v :: rest }) target → Steps p.tables e below (T.setTop g) target := by
  obtain ⟨cl, A, q⟩ := F
  subst hi
  exact X.baloadBytes hx (by rw [eT]; exact A.1) (State.isArrayOf_alike hZ.alike A.2.1) A.2.2 (own_in q h1 (own_lt hv)) (own_at q hv) hg hs hd
theorem own_jld (X : Stand p l e R s m args below meth c T locs cells slots) (hx : p.tables.exec = Jvm.exec) (hZ : Z.Warmed39 s.vm) (eT : T.heap = h) (F : own_L Z h a .long vs) {j : Int32} {i : Nat} (h1 : ¬ j < 0) (hi : j.toNatClampNeg = i) (hv : vs[i]? = some v) {g : JFrame} (hg : g.method = m) {rest : List Value} (hs : g.stack = .int j :: .ref a :: rest) (hd : decode c.code g.pc = .ok (.laload, 1)) :
    ∀ target, Steps p.tables e below (T.setTop { g with pc := g.pc + 1, stack := v :: rest }) target → Steps p.tables e below (T.setTop g) target := by
  obtain ⟨cl, A, q⟩ := F
  subst hi
  exact X.laload hx (by rw [eT]; exact A.1) (State.isArrayOf_alike hZ.alike A.2.1) A.2.2 (own_in q h1 (own_lt hv)) (own_at q hv) hg hs hd
theorem own_ild (X : Stand p l e R s m args below meth c T locs cells slots) (hx : p.tables.exec = Jvm.exec) (hZ : Z.Warmed39 s.vm) (eT : T.heap = h) (F : own_L Z h a .int vs) {j : Int32} {i : Nat} (h1 : ¬ j < 0) (hi : j.toNatClampNeg = i) (hv : vs[i]? = some v) {g : JFrame} (hg : g.method = m) {rest : List Value} (hs : g.stack = .int j :: .ref a :: rest) (hd : decode c.code g.pc = .ok (.iaload, 1)) :
    ∀ target, Steps p.tables e below (T.setTop { g with pc := g.pc + 1, stack := v :: rest }) target → Steps p.tables e below (T.setTop g) target := by
  obtain ⟨cl, A, q⟩ := F
  subst hi
  exact X.iaload hx (by rw [eT]; exact A.1) (State.isArrayOf_alike hZ.alike A.2.1) A.2.2 (own_in q h1 (own_lt hv)) (own_at q hv) hg hs hd
theorem own_zld (X : Stand p l e R s m args below meth c T locs cells slots) (hx : p.tables.exec = Jvm.exec) (hZ : Z.Warmed39 s.vm) (eT : T.heap = h) (F : own_L Z h a .boolean vs) {j : Int32} {i : Nat} (h1 : ¬ j < 0) (hi : j.toNatClampNeg = i) (hv : vs[i]? = some v) {g : JFrame} (hg : g.method = m) {rest : List Value} (hs : g.stack = .int j :: .ref a :: rest) (hd : decode c.code g.pc = .ok (.baload, 1)) :
    ∀ target, Steps p.tables e below (T.setTop { g with pc := g.pc + 1, stack := v :: rest }) target → Steps p.tables e below (T.setTop g) target := by
  obtain ⟨cl, A, q⟩ := F
  subst hi
  exact X.baloadBooleans hx (by rw [eT]; exact A.1) (State.isArrayOf_alike hZ.alike A.2.1) A.2.2 (own_in q h1 (own_lt hv)) (own_at q hv) hg hs hd
theorem own_len (X : Stand p l e R s m args below meth c T locs cells slots) (hx : p.tables.exec = Jvm.exec) (hZ : Z.Warmed39 s.vm) (eT : T.heap = h) (F : own_L Z h a ty vs) {z : Int32} (hz : vs.length.toInt32 = z) {g : JFrame} (hg : g.method = m) {rest : List Value} (hs : g.stack = .ref a :: rest) (hd : decode c.code g.pc = .ok (.arraylength, 1)) :
    ∀ target, Steps p.tables e below (T.setTop { g with pc := g.pc + 1, stack := .int z :: rest }) target → Steps p.tables e below (T.setTop g) target := by
  obtain ⟨cl, A, q⟩ := F
  intro w k
  refine X.arraylength hx (by rw [eT]; exact A.1) (State.isArrayOf_alike hZ.alike A.2.1) hg hs hd w ?_
  have q2 : cl.slots.size.toInt32 = z := by rw [← hz, q]; simp
  rw [q2]; exact k
theorem own_bst (X : Stand p l e R s m args below meth c T locs cells slots) (hx : p.tables.exec = Jvm.exec) (hZ : Z.Warmed39 s.vm) (eT : T.heap = h) (F : own_L Z h a .byte vs) {j x : Int32} (i : Nat) (h1 : ¬ j < 0) (hi : j.toNatClampNeg = i) (h2 : i < vs.length) {g : JFrame} (hg : g.method = m) {rest : List Value} (hs : g.stack = .int x :: .int j :: .ref a :: rest) (hd : decode c.code g.pc = .ok (.bastore, 1)) :
    ∃ T' h', Stand p l e R s m args below meth c T' (locs ++ [⟨a, i⟩]) cells slots ∧ T'.heap = h' ∧ Wr h h' a i (.int x.toInt8.toInt32) ∧ own_L Z h' a .byte (vs.set i (.int x.toInt8.toInt32)) ∧ ∀ target, Steps p.tables e below (T'.setTop { g with pc := g.pc + 1, stack := rest }) target → Steps p.tables e below (T.setTop g) target := by
  obtain ⟨cl, A, q⟩ := F
  subst hi
  obtain ⟨T', h', X', e', W, st⟩ := stB X hx hZ eT A (own_in q h1 h2) hg hs hd
  exact ⟨T', h', X', e', W, own_L.same ⟨cl, A, q⟩ W, st⟩
theorem own_zst (X : Stand p l e R s m args below meth c T locs cells slots) (hx : p.tables.exec = Jvm.exec) (hZ : Z.Warmed39 s.vm) (eT : T.heap = h) (F : own_L Z h a .boolean vs) {j x : Int32} (i : Nat) (h1 : ¬ j < 0) (hi : j.toNatClampNeg = i) (h2 : i < vs.length) {g : JFrame} (hg : g.method = m) {rest : List Value} (hs : g.stack = .int x :: .int j :: .ref a :: rest) (hd : decode c.code g.pc = .ok (.bastore, 1)) :
    ∃ T' h', Stand p l e R s m args below meth c T' (locs ++ [⟨a, i⟩]) cells slots ∧ T'.heap = h' ∧ Wr h h' a i (.int (x &&& 1)) ∧ own_L Z h' a .boolean (vs.set i (.int (x &&& 1))) ∧ ∀ target, Steps p.tables e below (T'.setTop { g with pc := g.pc + 1, stack := rest }) target → Steps p.tables e below (T.setTop g) target := by
  obtain ⟨cl, A, q⟩ := F
  subst hi
  obtain ⟨T', h', X', e', W, st⟩ := stZ X hx hZ eT A (own_in q h1 h2) hg hs hd
  exact ⟨T', h', X', e', W, own_L.same ⟨cl, A, q⟩ W, st⟩
theorem own_jst (X : Stand p l e R s m args below meth c T locs cells slots) (hx : p.tables.exec = Jvm.exec) (hZ : Z.Warmed39 s.vm) (eT : T.heap = h) (F : own_L Z h a .long vs) {j : Int32} {x : Int64} (i : Nat) (h1 : ¬ j < 0) (hi : j.toNatClampNeg = i) (h2 : i < vs.length) {g : JFrame} (hg : g.method = m) {rest : List Value} (hs : g.stack = .long x :: .int j :: .ref a :: rest) (hd : decode c.code g.pc = .ok (.lastore, 1)) :
    ∃ T' h', Stand p l e R s m args below meth c T' (locs ++ [⟨a, i⟩]) cells slots ∧ T'.heap = h' ∧ Wr h h' a i (.long x) ∧ own_L Z h' a .long (vs.set i (.long x)) ∧ ∀ target, Steps p.tables e below (T'.setTop { g with pc := g.pc + 1, stack := rest }) target → Steps p.tables e below (T.setTop g) target := by
  obtain ⟨cl, A, q⟩ := F
  subst hi
  obtain ⟨T', h', X', e', W, st⟩ := stJ X hx hZ eT A (own_in q h1 h2) hg hs hd
  exact ⟨T', h', X', e', W, own_L.same ⟨cl, A, q⟩ W, st⟩
theorem own_ist (X : Stand p l e R s m args below meth c T locs cells slots) (hx : p.tables.exec = Jvm.exec) (hZ : Z.Warmed39 s.vm) (eT : T.heap = h) (F : own_L Z h a .int vs) {j x : Int32} (i : Nat) (h1 : ¬ j < 0) (hi : j.toNatClampNeg = i) (h2 : i < vs.length) {g : JFrame} (hg : g.method = m) {rest : List Value} (hs : g.stack = .int x :: .int j :: .ref a :: rest) (hd : decode c.code g.pc = .ok (.iastore, 1)) :
    ∃ T' h', Stand p l e R s m args below meth c T' (locs ++ [⟨a, i⟩]) cells slots ∧ T'.heap = h' ∧ Wr h h' a i (.int x) ∧ own_L Z h' a .int (vs.set i (.int x)) ∧ ∀ target, Steps p.tables e below (T'.setTop { g with pc := g.pc + 1, stack := rest }) target → Steps p.tables e below (T.setTop g) target := by
  obtain ⟨cl, A, q⟩ := F
  subst hi
  obtain ⟨T', h', X', e', W, st⟩ := stI X hx hZ eT A (own_in q h1 h2) hg hs hd
  exact ⟨T', h', X', e', W, own_L.same ⟨cl, A, q⟩ W, st⟩
theorem own_clone (X : Stand p l e R s m args below meth c T locs cells slots) (hx : p.tables.exec = Jvm.exec) (hZ : Z.Warmed39 s.vm) {a0 : Array Value} {own ad : String} {index : Nat} (hown : s.vm.findClass own = some m.cls)
    (w1 : (Cond.methodLink own index ⟨ad, "clone", "()Ljava/lang/Object;"⟩).before a0 Z = true) (w2 : (Cond.sameMethod ad "java/lang/Object" "clone" "()Ljava/lang/Object;").before a0 Z = true) (w3 : (Cond.native ⟨"java/lang/Object", "clone", "()Ljava/lang/Object;"⟩).before a0 Z = true)
    (w4 : (Cond.instanceMethod ⟨"java/lang/Object", "clone", "()Ljava/lang/Object;"⟩).before a0 Z = true) (w5 : (Cond.selects ad ⟨ad, "clone", "()Ljava/lang/Object;"⟩ ⟨"java/lang/Object", "clone", "()Ljava/lang/Object;"⟩).before a0 Z = true) (w6 : (Cond.castable ad "java/lang/Cloneable").before a0 Z = true)
    (eT : T.heap = h) (F : own_L Z h a ty vs) (E : Exa Z h a ad) (hfit : ∀ v ∈ vs, fits ty v = true) {g : JFrame} (hg : g.method = m) (hsize : g.locals.size = c.maxLocals) {rest : List Value} (hs : g.stack = .ref a :: rest) (hd : decode c.code g.pc = .ok (.invokevirtual index, 3))
    (hf : 1 ≤ R.frames) {W cap : Nat} (hW : 2 * g.monitorRoom + (rest.map fun v => v.category).sum ≤ W) (hl : W + 14 ≤ R.locals) (hcap : vs.length ≤ cap) (hc : cells + 1 ≤ R.cells) (hsl : slots + cap ≤ R.slots) :
    ∃ T' h', Stand p l e R s m args below meth c T' locs (cells + 1) (slots + cap) ∧ T'.heap = h' ∧ Ext h h' ∧ own_L Z h' h.size ty vs ∧ Exa Z h' h.size ad ∧
      ∀ target, Steps p.tables e below (T'.setTop { g with pc := g.pc + 3, stack := .ref h.size :: rest }) target → Steps p.tables e below (T.setTop g) target := by
  obtain ⟨cl, A, q⟩ := F
  have FC : FitC Z cl := fitC_of A fun i hi v hv => hfit v (by
    rw [q] at hv
    exact List.mem_of_getElem? (by simpa using hv))
  obtain ⟨T', h', X', e', ex, A', E', st⟩ := cloneA X hx hZ hown w1 w2 w3 w4 w5 w6 eT A E FC hg hsize hs hd hf hW hl (by rw [q]; simpa using hcap) hc hsl
  exact ⟨T', h', X', e', ex, ⟨cloneOf cl, A', q⟩, E', st⟩
end Own
theorem pn_0 : plainName "java/lang/Record" = true := by first | (simp [plainName, overriddenIn]; done) | decide +kernel
theorem d2_0 : decode jdk_30_method_1_code 0 = .ok (.aload_n 0, 1) := by decide +kernel
theorem d2_1 : decode jdk_30_method_1_code 1 = .ok (.invokespecial 1, 3) := by decide +kernel
theorem d2_4 : decode jdk_30_method_1_code 4 = .ok (.return_, 1) := by decide +kernel
theorem ef_rm2 (m : MethodId) (r : Addr) : entryFrame m #[(.ref r)] 1 = mkF m 0 #[.val (.ref r)] [] := by first | (simp [entryFrame, mkF, argsToLocals, Value.category]; done) | rfl
def Q2 (Z : State) (r : Addr) (h0 : Heap) (n0 : Nat) (rv : Option Value) (hq : Heap) (Lq : List Loc) : Prop := rv = none ∧ Fr n0 Lq ∧ hq = h0
set_option maxRecDepth 65536 in
set_option maxHeartbeats 40000000 in
theorem rm2 (l : Launch) (Z : State) (a0 : Array Value) (hw : ∀ d ∈ tables_1, d.before a0 Z = true) (ws : List Jvm.Cond) (r : Addr) (h0 : Heap) (n0 : Nat) (Z0 : n0 ≤ h0.size) :
    MetFree l (⟨"java/lang/Record", "<init>", "()V"⟩ : MethodName) (head1 (Jvm.Cond.code (⟨"java/lang/Record", "<init>", "()V"⟩ : MethodName) jdk_30_method_1_code 1 none :: ws) ({ frames := 1, cells := 0, slots := 0, locals := 12 } : Room)) (fun za U => za = #[(.ref r)] ∧ Z.Warmed39 U.vm ∧ U.heap = h0) (fun _ _ _ _ _ => True) (fun _ U o U' => ∃ rv Lq, o = .returned rv ∧ Q2 Z r h0 n0 rv U'.heap Lq ∧ FrameEnd U o U' Lq ({ frames := 1, cells := 0, slots := 0, locals := 12 } : Room).cells ({ frames := 1, cells := 0, slots := 0, locals := 12 } : Room).slots) := by
  refine MetFree.of_bodySF (plainFor_of_name pn_0) hisR ?_
  intro p e s m args below meth c s₁ Bd hml0 hP hK
  obtain ⟨rfl, hZ, hh⟩ := hP
  have hx := Bd.exec
  have hby := Bd.bytes
  have hml : c.maxLocals = 1 := hml0
  have hown : s.vm.findClass "java/lang/Record" = some m.cls := findClass_of_methodNamed Bd.named
  have hnm := (name_of_methodNamed Bd.named Bd.method).1
  have X0 : Stand p l e ({ frames := 1, cells := 0, slots := 0, locals := 12 } : Room) s m #[(.ref r)] below meth c s₁ [] 0 0 := Stand.of_body Bd
  have e0 : s₁.heap = h0 := by rw [← hh, Bd.state]; rfl
  have N0 := Fr.nil n0
  refine own_out (own_nm fun G hG => own_st (fun zt zk => castTop (ef_rm2 m r) zk) ?_)
  show own_Go p e below G (s₁.setTop (mkF m 0 #[.val (.ref r)] []))
  refine own_st (fun zw zk => XS.aloadN X0.here hx rfl (hb hby d2_0) rfl rfl zk) ?_
  obtain ⟨T1, X1, e1, st1⟩ := initO X0 hx hZ hown (hw _ (List.mem_of_getElem? (i := 11) rfl)) (hw _ (List.mem_of_getElem? (i := 12) rfl)) (hw _ (List.mem_of_getElem? (i := 13) rfl)) e0 (g := (mkF m 1 #[.val (.ref r)] [(.ref r)])) rfl (by rw [hml]; rfl) rfl (hb hby d2_1) (by decide) (W := 0) (by show 2 * 0 + _ ≤ _; exact Nat.le_of_eq rfl) (by decide)
  refine own_st (fun zw zk => st1 zw zk) ?_
  subst hG
  obtain ⟨fs, hr, hrun, hended, hW, hsame⟩ := X1.leave (v := none) (fun _ => rfl)
  refine ⟨_, X1.returnOut hx Bd.returns (hb hby d2_4) hr, _, hrun, hended, _, _, rfl, ?_, ⟨_, rfl⟩, hW, hsame.mono (by decide) (by decide)⟩
  show Q2 Z r h0 n0 _ T1.heap _
  rw [e1]
  exact ⟨rfl, N0, rfl⟩
theorem pd_0 : parseMethodDescriptor "()V" = some ⟨[], none⟩ := by decide +kernel
theorem pn_1 : plainName "com/example/headroom/headroom/Decision" = true := by first | (simp [plainName, overriddenIn]; done) | decide +kernel
theorem d1_0 : decode prog_10_method_1_code 0 = .ok (.aload_n 0, 1) := by decide +kernel
theorem d1_1 : decode prog_10_method_1_code 1 = .ok (.invokespecial 3, 3) := by decide +kernel
theorem d1_4 : decode prog_10_method_1_code 4 = .ok (.aload_n 0, 1) := by decide +kernel
theorem d1_5 : decode prog_10_method_1_code 5 = .ok (.iload_n 1, 1) := by decide +kernel
theorem d1_6 : decode prog_10_method_1_code 6 = .ok (.putfield 9, 3) := by decide +kernel
theorem d1_9 : decode prog_10_method_1_code 9 = .ok (.aload_n 0, 1) := by decide +kernel
theorem d1_10 : decode prog_10_method_1_code 10 = .ok (.lload_n 2, 1) := by decide +kernel
theorem d1_11 : decode prog_10_method_1_code 11 = .ok (.putfield 15, 3) := by decide +kernel
theorem d1_14 : decode prog_10_method_1_code 14 = .ok (.aload_n 0, 1) := by decide +kernel
theorem d1_15 : decode prog_10_method_1_code 15 = .ok (.lload 4, 2) := by decide +kernel
theorem d1_17 : decode prog_10_method_1_code 17 = .ok (.putfield 19, 3) := by decide +kernel
theorem d1_20 : decode prog_10_method_1_code 20 = .ok (.aload_n 0, 1) := by decide +kernel
theorem d1_21 : decode prog_10_method_1_code 21 = .ok (.lload 6, 2) := by decide +kernel
theorem d1_23 : decode prog_10_method_1_code 23 = .ok (.putfield 22, 3) := by decide +kernel
theorem d1_26 : decode prog_10_method_1_code 26 = .ok (.aload_n 0, 1) := by decide +kernel
theorem d1_27 : decode prog_10_method_1_code 27 = .ok (.lload 8, 2) := by decide +kernel
theorem d1_29 : decode prog_10_method_1_code 29 = .ok (.putfield 25, 3) := by decide +kernel
theorem d1_32 : decode prog_10_method_1_code 32 = .ok (.return_, 1) := by decide +kernel
theorem ef_rm1 (m : MethodId) (d : Addr) (p1 : Int32) (q2 : Int64) (q3 : Int64) (q4 : Int64) (q5 : Int64) : entryFrame m #[(.ref d), (.int p1), (.long q2), (.long q3), (.long q4), (.long q5)] 10 = mkF m 0 #[.val (.ref d), .val (.int p1), .val (.long q2), .second, .val (.long q3), .second, .val (.long q4), .second, .val (.long q5), .second] [] := by first | (simp [entryFrame, mkF, argsToLocals, Value.category]; done) | rfl
def Q1 (Z : State) (d : Addr) (p1 : Int32) (q2 : Int64) (q3 : Int64) (q4 : Int64) (q5 : Int64) (h0 : Heap) (n0 : Nat) (rv : Option Value) (hq : Heap) (Lq : List Loc) : Prop := rv = none ∧ Fr n0 Lq ∧ Keep h0 hq [d] ∧ Exa Z hq d "com/example/headroom/headroom/Decision" ∧ Fld Z hq d "com/example/headroom/headroom/Decision" "retryAfterMillis" "J" (.long q4)
set_option maxRecDepth 65536 in
set_option maxHeartbeats 40000000 in
theorem rm1 (l : Launch) (Z : State) (a0 : Array Value) (hw : ∀ d ∈ tables_1, d.before a0 Z = true) (ws : List Jvm.Cond) (d : Addr) (p1 : Int32) (q2 : Int64) (q3 : Int64) (q4 : Int64) (q5 : Int64) (h0 : Heap) (n0 : Nat) (Z0 : n0 ≤ h0.size) (F0_ : Exa Z h0 d "com/example/headroom/headroom/Decision") (F1_ : Fld Z h0 d "com/example/headroom/headroom/Decision" "admitted" "Z" (.int (0 : Int32))) (F2_ : Fld Z h0 d "com/example/headroom/headroom/Decision" "limit" "J" (.long (0 : Int64))) (F3_ : Fld Z h0 d "com/example/headroom/headroom/Decision" "remaining" "J" (.long (0 : Int64))) (F4_ : Fld Z h0 d "com/example/headroom/headroom/Decision" "retryAfterMillis" "J" (.long (0 : Int64))) (F5_ : Fld Z h0 d "com/example/headroom/headroom/Decision" "delayMillis" "J" (.long (0 : Int64))) (ge_d : n0 ≤ d) :
    MetFree l (⟨"com/example/headroom/headroom/Decision", "<init>", "(ZJJJJ)V"⟩ : MethodName) (head1 (Jvm.Cond.code (⟨"com/example/headroom/headroom/Decision", "<init>", "(ZJJJJ)V"⟩ : MethodName) prog_10_method_1_code 10 none :: ws) ({ frames := 2, cells := 0, slots := 0, locals := 24 } : Room)) (fun za U => za = #[(.ref d), (.int p1), (.long q2), (.long q3), (.long q4), (.long q5)] ∧ Z.Warmed39 U.vm ∧ U.heap = h0) (fun _ _ _ _ _ => True) (fun _ U o U' => ∃ rv Lq, o = .returned rv ∧ Q1 Z d p1 q2 q3 q4 q5 h0 n0 rv U'.heap Lq ∧ FrameEnd U o U' Lq ({ frames := 2, cells := 0, slots := 0, locals := 24 } : Room).cells ({ frames := 2, cells := 0, slots := 0, locals := 24 } : Room).slots) := by
  refine MetFree.of_bodySF (plainFor_of_name pn_1) hisR ?_
  intro p e s m args below meth c s₁ Bd hml0 hP hK
  obtain ⟨rfl, hZ, hh⟩ := hP
  have hx := Bd.exec
  have hby := Bd.bytes
  have hml : c.maxLocals = 10 := hml0
  have hown : s.vm.findClass "com/example/headroom/headroom/Decision" = some m.cls := findClass_of_methodNamed Bd.named
  have hnm := (name_of_methodNamed Bd.named Bd.method).1
  have X0 : Stand p l e ({ frames := 2, cells := 0, slots := 0, locals := 24 } : Room) s m #[(.ref d), (.int p1), (.long q2), (.long q3), (.long q4), (.long q5)] below meth c s₁ [] 0 0 := Stand.of_body Bd
  have e0 : s₁.heap = h0 := by rw [← hh, Bd.state]; rfl
  have N0 := Fr.nil n0
  refine own_out (own_nm fun G hG => own_st (fun zt zk => castTop (ef_rm1 m d p1 q2 q3 q4 q5) zk) ?_)
  show own_Go p e below G (s₁.setTop (mkF m 0 #[.val (.ref d), .val (.int p1), .val (.long q2), .second, .val (.long q3), .second, .val (.long q4), .second, .val (.long q5), .second] []))
  refine own_st (fun zw zk => XS.aloadN X0.here hx rfl (hb hby d1_0) rfl rfl zk) ?_
  obtain ⟨_, _, ⟨T2, L2, k2, n2⟩, -, X2, ⟨Lc2, hQ2, l2, y2, z2⟩, st2⟩ := X0.specialBack hx (y := (⟨"java/lang/Record", "<init>", "()V"⟩ : MethodName)) rfl hown (mvT hZ (hw _ (List.mem_of_getElem? (i := 6) rfl))) (mvT hZ (hw _ (List.mem_of_getElem? (i := 7) rfl))) (mvT hZ (hw _ (List.mem_of_getElem? (i := 10) rfl))) (by decide) (backOf (W := 0) (rm2 l Z a0 hw [] d h0 n0 Z0) hZ (hw _ (List.mem_of_getElem? (i := 10) rfl)) (hw _ (List.mem_of_getElem? (i := 9) rfl)) (by decide) (by decide)) (g := (mkF m 1 #[.val (.ref d), .val (.int p1), .val (.long q2), .second, .val (.long q3), .second, .val (.long q4), .second, .val (.long q5), .second] [(.ref d)])) rfl (by rw [hml]; rfl) (Steps.refl _) (a := d) (argsL := []) (rest := []) (lenOf pd_0 rfl) rfl (by show 2 * 0 + _ ≤ _; exact Nat.le_of_eq rfl) (hb hby d1_1) (fun _ _ => ⟨rfl, e0, (by decide : 0 + 0 ≤ _), (by decide : 0 + 0 ≤ _)⟩)
  dsimp only [Pt.U, Pt.locs, Pt.cells, Pt.slots] at X2 l2 y2 z2 st2 hQ2
  subst l2 y2 z2
  obtain ⟨rfl, N2q, e2⟩ := hQ2
  have N2 := Fr.app N0 N2q
  refine own_jp st2 ?_
  refine own_st (fun zw zk => XS.aloadN X2.here hx rfl (hb hby d1_4) rfl rfl zk) ?_
  refine own_st (fun zw zk => XS.iloadN X2.here hx rfl (hb hby d1_5) rfl zk) ?_
  obtain ⟨T3, h3, X3, e3, W3, st3⟩ := putFN X2 hx hZ hown (hw _ (List.mem_of_getElem? (i := 14) rfl)) Via.refl e2 F1_ F0_ (Or.inr ⟨(hw _ (List.mem_of_getElem? (i := 15) rfl)), rfl, hnm⟩) (hw _ (List.mem_of_getElem? (i := 1) rfl)) (ty := .boolean) (v' := (.int (p1 &&& 1))) (by decide) rfl (fits_nar_bool _) (g := (mkF m 6 #[.val (.ref d), .val (.int p1), .val (.long q2), .second, .val (.long q3), .second, .val (.long q4), .second, .val (.long q5), .second] [(.int p1), (.ref d)])) rfl rfl (hb hby d1_6)
  have F1_3 := F1_.same W3
  have N3 := Fr.snoc X3 N2 ge_d
  refine own_st (fun zw zk => st3 zw zk) ?_
  have F0_3 := F0_.wr W3
  have F2_3 := F2_.other W3 (Or.inr (slot_ne (Or.inr (hw _ (List.mem_of_getElem? (i := 17) rfl))) (Or.inr (hw _ (List.mem_of_getElem? (i := 15) rfl))) (by decide) (t := .long) (t' := .boolean) (by decide) (by decide)))
  have F3_3 := F3_.other W3 (Or.inr (slot_ne (Or.inr (hw _ (List.mem_of_getElem? (i := 19) rfl))) (Or.inr (hw _ (List.mem_of_getElem? (i := 15) rfl))) (by decide) (t := .long) (t' := .boolean) (by decide) (by decide)))
  have F4_3 := F4_.other W3 (Or.inr (slot_ne (Or.inr (hw _ (List.mem_of_getElem? (i := 21) rfl))) (Or.inr (hw _ (List.mem_of_getElem? (i := 15) rfl))) (by decide) (t := .long) (t' := .boolean) (by decide) (by decide)))
  have F5_3 := F5_.other W3 (Or.inr (slot_ne (Or.inr (hw _ (List.mem_of_getElem? (i := 23) rfl))) (Or.inr (hw _ (List.mem_of_getElem? (i := 15) rfl))) (by decide) (t := .long) (t' := .boolean) (by decide) (by decide)))
  have Z3 : n0 ≤ h3.size := Nat.le_trans Z0 (Keep.of_wr W3).1
  have Kp3 := (Keep.refl h0 [d]).wr W3 (Or.inl (List.mem_of_getElem? (i := 0) rfl))
  refine own_st (fun zw zk => XS.aloadN X3.here hx rfl (hb hby d1_9) rfl rfl zk) ?_
  refine own_st (fun zw zk => XS.lloadN X3.here hx rfl (hb hby d1_10) rfl zk) ?_
  obtain ⟨T4, h4, X4, e4, W4, st4⟩ := putF X3 hx hZ hown (host := "") (Or.inl (hw _ (List.mem_of_getElem? (i := 16) rfl))) Via.refl e3 F2_3 F0_3 (Or.inr ⟨(hw _ (List.mem_of_getElem? (i := 17) rfl)), rfl, hnm⟩) (hw _ (List.mem_of_getElem? (i := 1) rfl)) (ty := .long) (by decide) rfl rfl (g := (mkF m 11 #[.val (.ref d), .val (.int p1), .val (.long q2), .second, .val (.long q3), .second, .val (.long q4), .second, .val (.long q5), .second] [(.long q2), (.ref d)])) rfl rfl (hb hby d1_11)
  have F2_4 := F2_3.same W4
  have N4 := Fr.snoc X4 N3 ge_d
  refine own_st (fun zw zk => st4 zw zk) ?_
  have F0_4 := F0_3.wr W4
  have F3_4 := F3_3.other W4 (Or.inr (slot_ne (Or.inr (hw _ (List.mem_of_getElem? (i := 19) rfl))) (Or.inr (hw _ (List.mem_of_getElem? (i := 17) rfl))) (by decide) (t := .long) (t' := .long) (by decide) (by decide)))
  have F4_4 := F4_3.other W4 (Or.inr (slot_ne (Or.inr (hw _ (List.mem_of_getElem? (i := 21) rfl))) (Or.inr (hw _ (List.mem_of_getElem? (i := 17) rfl))) (by decide) (t := .long) (t' := .long) (by decide) (by decide)))
  have F5_4 := F5_3.other W4 (Or.inr (slot_ne (Or.inr (hw _ (List.mem_of_getElem? (i := 23) rfl))) (Or.inr (hw _ (List.mem_of_getElem? (i := 17) rfl))) (by decide) (t := .long) (t' := .long) (by decide) (by decide)))
  have F1_4 := F1_3.other W4 (Or.inr (slot_ne (Or.inr (hw _ (List.mem_of_getElem? (i := 15) rfl))) (Or.inr (hw _ (List.mem_of_getElem? (i := 17) rfl))) (by decide) (t := .boolean) (t' := .long) (by decide) (by decide)))
  have Z4 : n0 ≤ h4.size := Nat.le_trans Z3 (Keep.of_wr W4).1
  have Kp4 := Kp3.wr W4 (Or.inl (List.mem_of_getElem? (i := 0) rfl))
  show own_Go p e below G (T4.setTop (mkF m 14 #[.val (.ref d), .val (.int p1), .val (.long q2), .second, .val (.long q3), .second, .val (.long q4), .second, .val (.long q5), .second] []))
  refine own_st (fun zw zk => XS.aloadN X4.here hx rfl (hb hby d1_14) rfl rfl zk) ?_
  refine own_st (fun zw zk => XS.lload X4.here hx rfl (hb hby d1_15) rfl zk) ?_
  obtain ⟨T5, h5, X5, e5, W5, st5⟩ := putF X4 hx hZ hown (host := "") (Or.inl (hw _ (List.mem_of_getElem? (i := 18) rfl))) Via.refl e4 F3_4 F0_4 (Or.inr ⟨(hw _ (List.mem_of_getElem? (i := 19) rfl)), rfl, hnm⟩) (hw _ (List.mem_of_getElem? (i := 1) rfl)) (ty := .long) (by decide) rfl rfl (g := (mkF m 17 #[.val (.ref d), .val (.int p1), .val (.long q2), .second, .val (.long q3), .second, .val (.long q4), .second, .val (.long q5), .second] [(.long q3), (.ref d)])) rfl rfl (hb hby d1_17)
  have F3_5 := F3_4.same W5
  have N5 := Fr.snoc X5 N4 ge_d
  refine own_st (fun zw zk => st5 zw zk) ?_
  have F0_5 := F0_4.wr W5
  have F4_5 := F4_4.other W5 (Or.inr (slot_ne (Or.inr (hw _ (List.mem_of_getElem? (i := 21) rfl))) (Or.inr (hw _ (List.mem_of_getElem? (i := 19) rfl))) (by decide) (t := .long) (t' := .long) (by decide) (by decide)))
  have F5_5 := F5_4.other W5 (Or.inr (slot_ne (Or.inr (hw _ (List.mem_of_getElem? (i := 23) rfl))) (Or.inr (hw _ (List.mem_of_getElem? (i := 19) rfl))) (by decide) (t := .long) (t' := .long) (by decide) (by decide)))
  have F1_5 := F1_4.other W5 (Or.inr (slot_ne (Or.inr (hw _ (List.mem_of_getElem? (i := 15) rfl))) (Or.inr (hw _ (List.mem_of_getElem? (i := 19) rfl))) (by decide) (t := .boolean) (t' := .long) (by decide) (by decide)))
  have F2_5 := F2_4.other W5 (Or.inr (slot_ne (Or.inr (hw _ (List.mem_of_getElem? (i := 17) rfl))) (Or.inr (hw _ (List.mem_of_getElem? (i := 19) rfl))) (by decide) (t := .long) (t' := .long) (by decide) (by decide)))
  have Z5 : n0 ≤ h5.size := Nat.le_trans Z4 (Keep.of_wr W5).1
  have Kp5 := Kp4.wr W5 (Or.inl (List.mem_of_getElem? (i := 0) rfl))
  refine own_st (fun zw zk => XS.aloadN X5.here hx rfl (hb hby d1_20) rfl rfl zk) ?_
  refine own_st (fun zw zk => XS.lload X5.here hx rfl (hb hby d1_21) rfl zk) ?_
  obtain ⟨T6, h6, X6, e6, W6, st6⟩ := putF X5 hx hZ hown (host := "") (Or.inl (hw _ (List.mem_of_getElem? (i := 20) rfl))) Via.refl e5 F4_5 F0_5 (Or.inr ⟨(hw _ (List.mem_of_getElem? (i := 21) rfl)), rfl, hnm⟩) (hw _ (List.mem_of_getElem? (i := 1) rfl)) (ty := .long) (by decide) rfl rfl (g := (mkF m 23 #[.val (.ref d), .val (.int p1), .val (.long q2), .second, .val (.long q3), .second, .val (.long q4), .second, .val (.long q5), .second] [(.long q4), (.ref d)])) rfl rfl (hb hby d1_23)
  have F4_6 := F4_5.same W6
  have N6 := Fr.snoc X6 N5 ge_d
  refine own_st (fun zw zk => st6 zw zk) ?_
  have F0_6 := F0_5.wr W6
  have F5_6 := F5_5.other W6 (Or.inr (slot_ne (Or.inr (hw _ (List.mem_of_getElem? (i := 23) rfl))) (Or.inr (hw _ (List.mem_of_getElem? (i := 21) rfl))) (by decide) (t := .long) (t' := .long) (by decide) (by decide)))
  have F1_6 := F1_5.other W6 (Or.inr (slot_ne (Or.inr (hw _ (List.mem_of_getElem? (i := 15) rfl))) (Or.inr (hw _ (List.mem_of_getElem? (i := 21) rfl))) (by decide) (t := .boolean) (t' := .long) (by decide) (by decide)))
  have F2_6 := F2_5.other W6 (Or.inr (slot_ne (Or.inr (hw _ (List.mem_of_getElem? (i := 17) rfl))) (Or.inr (hw _ (List.mem_of_getElem? (i := 21) rfl))) (by decide) (t := .long) (t' := .long) (by decide) (by decide)))
  have F3_6 := F3_5.other W6 (Or.inr (slot_ne (Or.inr (hw _ (List.mem_of_getElem? (i := 19) rfl))) (Or.inr (hw _ (List.mem_of_getElem? (i := 21) rfl))) (by decide) (t := .long) (t' := .long) (by decide) (by decide)))
  have Z6 : n0 ≤ h6.size := Nat.le_trans Z5 (Keep.of_wr W6).1
  have Kp6 := Kp5.wr W6 (Or.inl (List.mem_of_getElem? (i := 0) rfl))
  refine own_st (fun zw zk => XS.aloadN X6.here hx rfl (hb hby d1_26) rfl rfl zk) ?_
  refine own_st (fun zw zk => XS.lload X6.here hx rfl (hb hby d1_27) rfl zk) ?_
  show own_Go p e below G (T6.setTop (mkF m 29 #[.val (.ref d), .val (.int p1), .val (.long q2), .second, .val (.long q3), .second, .val (.long q4), .second, .val (.long q5), .second] [(.long q5), (.ref d)]))
  obtain ⟨T7, h7, X7, e7, W7, st7⟩ := putF X6 hx hZ hown (host := "") (Or.inl (hw _ (List.mem_of_getElem? (i := 22) rfl))) Via.refl e6 F5_6 F0_6 (Or.inr ⟨(hw _ (List.mem_of_getElem? (i := 23) rfl)), rfl, hnm⟩) (hw _ (List.mem_of_getElem? (i := 1) rfl)) (ty := .long) (by decide) rfl rfl (g := (mkF m 29 #[.val (.ref d), .val (.int p1), .val (.long q2), .second, .val (.long q3), .second, .val (.long q4), .second, .val (.long q5), .second] [(.long q5), (.ref d)])) rfl rfl (hb hby d1_29)
  have F5_7 := F5_6.same W7
  have N7 := Fr.snoc X7 N6 ge_d
  refine own_st (fun zw zk => st7 zw zk) ?_
  have F0_7 := F0_6.wr W7
  have F1_7 := F1_6.other W7 (Or.inr (slot_ne (Or.inr (hw _ (List.mem_of_getElem? (i := 15) rfl))) (Or.inr (hw _ (List.mem_of_getElem? (i := 23) rfl))) (by decide) (t := .boolean) (t' := .long) (by decide) (by decide)))
  have F2_7 := F2_6.other W7 (Or.inr (slot_ne (Or.inr (hw _ (List.mem_of_getElem? (i := 17) rfl))) (Or.inr (hw _ (List.mem_of_getElem? (i := 23) rfl))) (by decide) (t := .long) (t' := .long) (by decide) (by decide)))
  have F3_7 := F3_6.other W7 (Or.inr (slot_ne (Or.inr (hw _ (List.mem_of_getElem? (i := 19) rfl))) (Or.inr (hw _ (List.mem_of_getElem? (i := 23) rfl))) (by decide) (t := .long) (t' := .long) (by decide) (by decide)))
  have F4_7 := F4_6.other W7 (Or.inr (slot_ne (Or.inr (hw _ (List.mem_of_getElem? (i := 21) rfl))) (Or.inr (hw _ (List.mem_of_getElem? (i := 23) rfl))) (by decide) (t := .long) (t' := .long) (by decide) (by decide)))
  have Z7 : n0 ≤ h7.size := Nat.le_trans Z6 (Keep.of_wr W7).1
  have Kp7 := Kp6.wr W7 (Or.inl (List.mem_of_getElem? (i := 0) rfl))
  subst hG
  obtain ⟨fs, hr, hrun, hended, hW, hsame⟩ := X7.leave (v := none) (fun _ => rfl)
  refine ⟨_, X7.returnOut hx Bd.returns (hb hby d1_32) hr, _, hrun, hended, _, _, rfl, ?_, ⟨_, rfl⟩, hW, hsame.mono (by decide) (by decide)⟩
  show Q1 Z d p1 q2 q3 q4 q5 h0 n0 _ T7.heap _
  rw [e7]
  exact ⟨rfl, N7, Kp7, F0_7, F4_7⟩
theorem d4_0 : decode prog_10_method_4_code 0 = .ok (.aload_n 0, 1) := by decide +kernel
theorem d4_1 : decode prog_10_method_4_code 1 = .ok (.getfield 22, 3) := by decide +kernel
theorem d4_4 : decode prog_10_method_4_code 4 = .ok (.ldc2_w 31, 3) := by decide +kernel
theorem d4_7 : decode prog_10_method_4_code 7 = .ok (.lcmp, 1) := by decide +kernel
theorem d4_8 : decode prog_10_method_4_code 8 = .ok (.ifCond .ne 7, 3) := by decide +kernel
theorem d4_11 : decode prog_10_method_4_code 11 = .ok (.ldc2_w 31, 3) := by decide +kernel
theorem d4_14 : decode prog_10_method_4_code 14 = .ok (.lreturn, 1) := by decide +kernel
theorem d4_15 : decode prog_10_method_4_code 15 = .ok (.aload_n 0, 1) := by decide +kernel
theorem d4_16 : decode prog_10_method_4_code 16 = .ok (.getfield 22, 3) := by decide +kernel
theorem d4_19 : decode prog_10_method_4_code 19 = .ok (.ldc2_w 33, 3) := by decide +kernel
theorem d4_22 : decode prog_10_method_4_code 22 = .ok (.ldiv, 1) := by decide +kernel
theorem d4_23 : decode prog_10_method_4_code 23 = .ok (.aload_n 0, 1) := by decide +kernel
theorem d4_24 : decode prog_10_method_4_code 24 = .ok (.getfield 22, 3) := by decide +kernel
theorem d4_27 : decode prog_10_method_4_code 27 = .ok (.ldc2_w 33, 3) := by decide +kernel
theorem d4_30 : decode prog_10_method_4_code 30 = .ok (.lrem, 1) := by decide +kernel
theorem d4_31 : decode prog_10_method_4_code 31 = .ok (.lconst 0, 1) := by decide +kernel
theorem d4_32 : decode prog_10_method_4_code 32 = .ok (.lcmp, 1) := by decide +kernel
theorem d4_33 : decode prog_10_method_4_code 33 = .ok (.ifCond .ne 7, 3) := by decide +kernel
theorem d4_36 : decode prog_10_method_4_code 36 = .ok (.iconst 0, 1) := by decide +kernel
theorem d4_37 : decode prog_10_method_4_code 37 = .ok (.goto 4, 3) := by decide +kernel
theorem d4_40 : decode prog_10_method_4_code 40 = .ok (.iconst 1, 1) := by decide +kernel
theorem d4_41 : decode prog_10_method_4_code 41 = .ok (.i2l, 1) := by decide +kernel
theorem d4_42 : decode prog_10_method_4_code 42 = .ok (.ladd, 1) := by decide +kernel
theorem d4_43 : decode prog_10_method_4_code 43 = .ok (.lreturn, 1) := by decide +kernel
theorem ef_rm4 (m : MethodId) (d : Addr) : entryFrame m #[(.ref d)] 1 = mkF m 0 #[.val (.ref d)] [] := by first | (simp [entryFrame, mkF, argsToLocals, Value.category]; done) | rfl
def own_f4 (w : Int64) : Int64 := (if w = (9223372036854775807 : Int64) then (9223372036854775807 : Int64) else (if (w - (w / (1000 : Int64)) * (1000 : Int64)) = (0 : Int64) then ((w / (1000 : Int64)) + (0 : Int64)) else ((w / (1000 : Int64)) + (1 : Int64))))
def Q4 (Z : State) (d : Addr) (w : Int64) (h0 : Heap) (n0 : Nat) (rv : Option Value) (hq : Heap) (Lq : List Loc) : Prop := rv = some (.long (own_f4 w)) ∧ Fr n0 Lq ∧ hq = h0
set_option maxRecDepth 65536 in
set_option maxHeartbeats 40000000 in
theorem rm4 (l : Launch) (Z : State) (a0 : Array Value) (hw : ∀ d ∈ tables_1, d.before a0 Z = true) (ws : List Jvm.Cond) (d : Addr) (w : Int64) (h0 : Heap) (n0 : Nat) (Z0 : n0 ≤ h0.size) (F0_ : Fld Z h0 d "com/example/headroom/headroom/Decision" "retryAfterMillis" "J" (.long w)) :
    MetFree l (⟨"com/example/headroom/headroom/Decision", "retryAfterSeconds", "()J"⟩ : MethodName) (head1 (Jvm.Cond.code (⟨"com/example/headroom/headroom/Decision", "retryAfterSeconds", "()J"⟩ : MethodName) prog_10_method_4_code 1 (some .long) :: ws) ({ frames := 0, cells := 0, slots := 0, locals := 0 } : Room)) (fun za U => za = #[(.ref d)] ∧ Z.Warmed39 U.vm ∧ U.heap = h0) (fun _ _ _ _ _ => True) (fun _ U o U' => ∃ rv Lq, o = .returned rv ∧ Q4 Z d w h0 n0 rv U'.heap Lq ∧ FrameEnd U o U' Lq ({ frames := 0, cells := 0, slots := 0, locals := 0 } : Room).cells ({ frames := 0, cells := 0, slots := 0, locals := 0 } : Room).slots) := by
  refine MetFree.of_bodySF (plainFor_of_name pn_1) hisR ?_
  intro p e s m args below meth c s₁ Bd hml0 hP hK
  obtain ⟨rfl, hZ, hh⟩ := hP
  have hx := Bd.exec
  have hby := Bd.bytes
  have hml : c.maxLocals = 1 := hml0
  have hown : s.vm.findClass "com/example/headroom/headroom/Decision" = some m.cls := findClass_of_methodNamed Bd.named
  have hnm := (name_of_methodNamed Bd.named Bd.method).1
  have X0 : Stand p l e ({ frames := 0, cells := 0, slots := 0, locals := 0 } : Room) s m #[(.ref d)] below meth c s₁ [] 0 0 := Stand.of_body Bd
  have e0 : s₁.heap = h0 := by rw [← hh, Bd.state]; rfl
  have N0 := Fr.nil n0
  refine own_out (own_nm fun G hG => own_st (fun zt zk => castTop (ef_rm4 m d) zk) ?_)
  show own_Go p e below G (s₁.setTop (mkF m 0 #[.val (.ref d)] []))
  refine own_st (fun zw zk => XS.aloadN X0.here hx rfl (hb hby d4_0) rfl rfl zk) ?_
  obtain ⟨T8, X8, e8, st8⟩ := getF X0 hx hZ hown (host := "") (Or.inl (hw _ (List.mem_of_getElem? (i := 20) rfl))) Via.refl e0 F0_ (g := (mkF m 1 #[.val (.ref d)] [(.ref d)])) rfl rfl (hb hby d4_1)
  refine own_st (fun zw zk => st8 zw zk) ?_
  refine own_st (fun zw zk => X8.ldc2Long hx hown (mvT hZ (hw _ (List.mem_of_getElem? (i := 29) rfl))) (g := (mkF m 4 #[.val (.ref d)] [(.long w)])) rfl (hb hby d4_4) _ zk) ?_
  refine own_st (fun zw zk => XS.lcmp X8.here hx rfl (hb hby d4_7) rfl zk) ?_
  by_cases hc8 : w = (9223372036854775807 : Int64)
  · refine own_st (fun zw zk => XS.ifNo X8.here hx rfl (hb hby d4_8) rfl ((if0 _ _).trans (teq (own_tle hc8)).2) zk) ?_
    refine own_st (fun zw zk => X8.ldc2Long hx hown (mvT hZ (hw _ (List.mem_of_getElem? (i := 29) rfl))) (g := (mkF m 11 #[.val (.ref d)] [])) rfl (hb hby d4_11) _ zk) ?_
    subst hG
    obtain ⟨fs, hr, hrun, hended, hW, hsame⟩ := X8.leave (v := some (.long (9223372036854775807 : Int64))) (fun h => by rw [Bd.returns] at h; cases h)
    refine ⟨_, own_retJ X8 hx Bd.returns (hb hby d4_14) hr, _, hrun, hended, _, _, rfl, ?_, ⟨_, rfl⟩, hW, hsame.mono (by decide) (by decide)⟩
    show Q4 Z d w h0 n0 _ T8.heap _
    rw [e8]
    exact ⟨by unfold own_f4; rw [if_pos hc8], N0, rfl⟩
  · refine own_st (fun zw zk => XS.ifYes X8.here hx rfl (pc0 := 8) (pc' := 15) rfl (hb hby d4_8) rfl ((if0 _ _).trans (feq (own_fle hc8)).2) (by decide) (by decide) zk) ?_
    refine own_st (fun zw zk => XS.aloadN X8.here hx rfl (hb hby d4_15) rfl rfl zk) ?_
    obtain ⟨T9, X9, e9, st9⟩ := getF X8 hx hZ hown (host := "") (Or.inl (hw _ (List.mem_of_getElem? (i := 20) rfl))) Via.refl e8 F0_ (g := (mkF m 16 #[.val (.ref d)] [(.ref d)])) rfl rfl (hb hby d4_16)
    refine own_st (fun zw zk => st9 zw zk) ?_
    refine own_st (fun zw zk => X9.ldc2Long hx hown (mvT hZ (hw _ (List.mem_of_getElem? (i := 30) rfl))) (g := (mkF m 19 #[.val (.ref d)] [(.long w)])) rfl (hb hby d4_19) _ zk) ?_
    show own_Go p e below G (T9.setTop (mkF m 22 #[.val (.ref d)] [(.long (1000 : Int64)), (.long w)]))
    refine own_st (fun zw zk => XS.ldiv X9.here hx rfl (hb hby d4_22) rfl (by decide) zk) ?_
    refine own_st (fun zw zk => XS.aloadN X9.here hx rfl (hb hby d4_23) rfl rfl zk) ?_
    obtain ⟨T10, X10, e10, st10⟩ := getF X9 hx hZ hown (host := "") (Or.inl (hw _ (List.mem_of_getElem? (i := 20) rfl))) Via.refl e9 F0_ (g := (mkF m 24 #[.val (.ref d)] [(.ref d), (.long (w / (1000 : Int64)))])) rfl rfl (hb hby d4_24)
    refine own_st (fun zw zk => st10 zw zk) ?_
    refine own_st (fun zw zk => X10.ldc2Long hx hown (mvT hZ (hw _ (List.mem_of_getElem? (i := 30) rfl))) (g := (mkF m 27 #[.val (.ref d)] [(.long w), (.long (w / (1000 : Int64)))])) rfl (hb hby d4_27) _ zk) ?_
    refine own_st (fun zw zk => XS.lrem X10.here hx rfl (hb hby d4_30) rfl (by decide) zk) ?_
    refine own_st (fun zw zk => XS.lconst X10.here hx rfl (hb hby d4_31) zk) ?_
    refine own_st (fun zw zk => XS.lcmp X10.here hx rfl (hb hby d4_32) rfl zk) ?_
    by_cases hc33 : (w - (w / (1000 : Int64)) * (1000 : Int64)) = (0 : Int64)
    · refine own_st (fun zw zk => XS.ifNo X10.here hx rfl (hb hby d4_33) rfl ((if0 _ _).trans (teq (own_tle hc33)).2) zk) ?_
      show own_Go p e below G (T10.setTop (mkF m 36 #[.val (.ref d)] [(.long (w / (1000 : Int64)))]))
      refine own_st (fun zw zk => XS.iconst X10.here hx rfl (hb hby d4_36) zk) ?_
      refine own_st (fun zw zk => XS.goto X10.here hx rfl (pc0 := 37) (pc' := 41) rfl (hb hby d4_37) (by decide) (by decide) zk) ?_
      show own_Go p e below G (T10.setTop (mkF m 41 #[.val (.ref d)] [(.int (0 : Int32)), (.long (w / (1000 : Int64)))]))
      refine own_st (fun zw zk => XS.i2l X10.here hx rfl (hb hby d4_41) rfl zk) ?_
      refine own_st (fun zw zk => XS.ladd X10.here hx rfl (hb hby d4_42) rfl zk) ?_
      subst hG
      obtain ⟨fs, hr, hrun, hended, hW, hsame⟩ := X10.leave (v := some (.long ((w / (1000 : Int64)) + (0 : Int64)))) (fun h => by rw [Bd.returns] at h; cases h)
      refine ⟨_, own_retJ X10 hx Bd.returns (hb hby d4_43) hr, _, hrun, hended, _, _, rfl, ?_, ⟨_, rfl⟩, hW, hsame.mono (by decide) (by decide)⟩
      show Q4 Z d w h0 n0 _ T10.heap _
      rw [e10]
      exact ⟨by unfold own_f4; rw [if_neg hc8, if_pos hc33], N0, rfl⟩
    · refine own_st (fun zw zk => XS.ifYes X10.here hx rfl (pc0 := 33) (pc' := 40) rfl (hb hby d4_33) rfl ((if0 _ _).trans (feq (own_fle hc33)).2) (by decide) (by decide) zk) ?_
      show own_Go p e below G (T10.setTop (mkF m 40 #[.val (.ref d)] [(.long (w / (1000 : Int64)))]))
      refine own_st (fun zw zk => XS.iconst X10.here hx rfl (hb hby d4_40) zk) ?_
      refine own_st (fun zw zk => XS.i2l X10.here hx rfl (hb hby d4_41) rfl zk) ?_
      refine own_st (fun zw zk => XS.ladd X10.here hx rfl (hb hby d4_42) rfl zk) ?_
      subst hG
      obtain ⟨fs, hr, hrun, hended, hW, hsame⟩ := X10.leave (v := some (.long ((w / (1000 : Int64)) + (1 : Int64)))) (fun h => by rw [Bd.returns] at h; cases h)
      refine ⟨_, own_retJ X10 hx Bd.returns (hb hby d4_43) hr, _, hrun, hended, _, _, rfl, ?_, ⟨_, rfl⟩, hW, hsame.mono (by decide) (by decide)⟩
      show Q4 Z d w h0 n0 _ T10.heap _
      rw [e10]
      exact ⟨by unfold own_f4; rw [if_neg hc8, if_neg hc33], N0, rfl⟩
theorem pn_2 : plainName "com/example/headroom/headroom/DecisionRetryAfterSecondsPinLaw" = true := by first | (simp [plainName, overriddenIn]; done) | decide +kernel
theorem d5_0 : decode method_2_code 0 = .ok (.lload_n 0, 1) := by decide +kernel
theorem d5_1 : decode method_2_code 1 = .ok (.ldc2_w 9, 3) := by decide +kernel
theorem d5_4 : decode method_2_code 4 = .ok (.lcmp, 1) := by decide +kernel
theorem d5_5 : decode method_2_code 5 = .ok (.ifCond .ne 7, 3) := by decide +kernel
theorem d5_8 : decode method_2_code 8 = .ok (.ldc2_w 9, 3) := by decide +kernel
theorem d5_11 : decode method_2_code 11 = .ok (.lreturn, 1) := by decide +kernel
theorem d5_12 : decode method_2_code 12 = .ok (.lload_n 0, 1) := by decide +kernel
theorem d5_13 : decode method_2_code 13 = .ok (.lconst 0, 1) := by decide +kernel
theorem d5_14 : decode method_2_code 14 = .ok (.lcmp, 1) := by decide +kernel
theorem d5_15 : decode method_2_code 15 = .ok (.ifCond .ne 5, 3) := by decide +kernel
theorem d5_18 : decode method_2_code 18 = .ok (.lconst 0, 1) := by decide +kernel
theorem d5_19 : decode method_2_code 19 = .ok (.lreturn, 1) := by decide +kernel
theorem d5_20 : decode method_2_code 20 = .ok (.lload_n 0, 1) := by decide +kernel
theorem d5_21 : decode method_2_code 21 = .ok (.lconst 1, 1) := by decide +kernel
theorem d5_22 : decode method_2_code 22 = .ok (.lsub, 1) := by decide +kernel
theorem d5_23 : decode method_2_code 23 = .ok (.ldc2_w 11, 3) := by decide +kernel
theorem d5_26 : decode method_2_code 26 = .ok (.ldiv, 1) := by decide +kernel
theorem d5_27 : decode method_2_code 27 = .ok (.lconst 1, 1) := by decide +kernel
theorem d5_28 : decode method_2_code 28 = .ok (.ladd, 1) := by decide +kernel
theorem d5_29 : decode method_2_code 29 = .ok (.lreturn, 1) := by decide +kernel
theorem ef_rm5 (m : MethodId) (u : Int64) : entryFrame m #[(.long u)] 2 = mkF m 0 #[.val (.long u), .second] [] := by first | (simp [entryFrame, mkF, argsToLocals, Value.category]; done) | rfl
def own_f5 (u : Int64) : Int64 := (if u = (9223372036854775807 : Int64) then (9223372036854775807 : Int64) else (if u = (0 : Int64) then (0 : Int64) else (((u - (1 : Int64)) / (1000 : Int64)) + (1 : Int64))))
def Q5 (Z : State) (u : Int64) (h0 : Heap) (n0 : Nat) (rv : Option Value) (hq : Heap) (Lq : List Loc) : Prop := rv = some (.long (own_f5 u)) ∧ Fr n0 Lq ∧ hq = h0
set_option maxRecDepth 65536 in
set_option maxHeartbeats 40000000 in
theorem rm5 (l : Launch) (Z : State) (a0 : Array Value) (hw : ∀ d ∈ tables_1, d.before a0 Z = true) (ws : List Jvm.Cond) (u : Int64) (h0 : Heap) (n0 : Nat) (Z0 : n0 ≤ h0.size) :
    MetFree l (⟨"com/example/headroom/headroom/DecisionRetryAfterSecondsPinLaw", "expectedSeconds", "(J)J"⟩ : MethodName) (head1 (Jvm.Cond.code (⟨"com/example/headroom/headroom/DecisionRetryAfterSecondsPinLaw", "expectedSeconds", "(J)J"⟩ : MethodName) method_2_code 2 (some .long) :: ws) ({ frames := 0, cells := 0, slots := 0, locals := 0 } : Room)) (fun za U => za = #[(.long u)] ∧ Z.Warmed39 U.vm ∧ U.heap = h0) (fun _ _ _ _ _ => True) (fun _ U o U' => ∃ rv Lq, o = .returned rv ∧ Q5 Z u h0 n0 rv U'.heap Lq ∧ FrameEnd U o U' Lq ({ frames := 0, cells := 0, slots := 0, locals := 0 } : Room).cells ({ frames := 0, cells := 0, slots := 0, locals := 0 } : Room).slots) := by
  refine MetFree.of_bodySF (plainFor_of_name pn_2) hisR ?_
  intro p e s m args below meth c s₁ Bd hml0 hP hK
  obtain ⟨rfl, hZ, hh⟩ := hP
  have hx := Bd.exec
  have hby := Bd.bytes
  have hml : c.maxLocals = 2 := hml0
  have hown : s.vm.findClass "com/example/headroom/headroom/DecisionRetryAfterSecondsPinLaw" = some m.cls := findClass_of_methodNamed Bd.named
  have hnm := (name_of_methodNamed Bd.named Bd.method).1
  have X0 : Stand p l e ({ frames := 0, cells := 0, slots := 0, locals := 0 } : Room) s m #[(.long u)] below meth c s₁ [] 0 0 := Stand.of_body Bd
  have e0 : s₁.heap = h0 := by rw [← hh, Bd.state]; rfl
  have N0 := Fr.nil n0
  refine own_out (own_nm fun G hG => own_st (fun zt zk => castTop (ef_rm5 m u) zk) ?_)
  show own_Go p e below G (s₁.setTop (mkF m 0 #[.val (.long u), .second] []))
  refine own_st (fun zw zk => XS.lloadN X0.here hx rfl (hb hby d5_0) rfl zk) ?_
  refine own_st (fun zw zk => X0.ldc2Long hx hown (mvT hZ (hw _ (List.mem_of_getElem? (i := 35) rfl))) (g := (mkF m 1 #[.val (.long u), .second] [(.long u)])) rfl (hb hby d5_1) _ zk) ?_
  refine own_st (fun zw zk => XS.lcmp X0.here hx rfl (hb hby d5_4) rfl zk) ?_
  by_cases hc5 : u = (9223372036854775807 : Int64)
  · refine own_st (fun zw zk => XS.ifNo X0.here hx rfl (hb hby d5_5) rfl ((if0 _ _).trans (teq (own_tle hc5)).2) zk) ?_
    refine own_st (fun zw zk => X0.ldc2Long hx hown (mvT hZ (hw _ (List.mem_of_getElem? (i := 35) rfl))) (g := (mkF m 8 #[.val (.long u), .second] [])) rfl (hb hby d5_8) _ zk) ?_
    subst hG
    obtain ⟨fs, hr, hrun, hended, hW, hsame⟩ := X0.leave (v := some (.long (9223372036854775807 : Int64))) (fun h => by rw [Bd.returns] at h; cases h)
    refine ⟨_, own_retJ X0 hx Bd.returns (hb hby d5_11) hr, _, hrun, hended, _, _, rfl, ?_, ⟨_, rfl⟩, hW, hsame.mono (by decide) (by decide)⟩
    show Q5 Z u h0 n0 _ s₁.heap _
    rw [e0]
    exact ⟨by unfold own_f5; rw [if_pos hc5], N0, rfl⟩
  · refine own_st (fun zw zk => XS.ifYes X0.here hx rfl (pc0 := 5) (pc' := 12) rfl (hb hby d5_5) rfl ((if0 _ _).trans (feq (own_fle hc5)).2) (by decide) (by decide) zk) ?_
    refine own_st (fun zw zk => XS.lloadN X0.here hx rfl (hb hby d5_12) rfl zk) ?_
    refine own_st (fun zw zk => XS.lconst X0.here hx rfl (hb hby d5_13) zk) ?_
    refine own_st (fun zw zk => XS.lcmp X0.here hx rfl (hb hby d5_14) rfl zk) ?_
    by_cases hc15 : u = (0 : Int64)
    · refine own_st (fun zw zk => XS.ifNo X0.here hx rfl (hb hby d5_15) rfl ((if0 _ _).trans (teq (own_tle hc15)).2) zk) ?_
      show own_Go p e below G (s₁.setTop (mkF m 18 #[.val (.long u), .second] []))
      refine own_st (fun zw zk => XS.lconst X0.here hx rfl (hb hby d5_18) zk) ?_
      subst hG
      obtain ⟨fs, hr, hrun, hended, hW, hsame⟩ := X0.leave (v := some (.long (0 : Int64))) (fun h => by rw [Bd.returns] at h; cases h)
      refine ⟨_, own_retJ X0 hx Bd.returns (hb hby d5_19) hr, _, hrun, hended, _, _, rfl, ?_, ⟨_, rfl⟩, hW, hsame.mono (by decide) (by decide)⟩
      show Q5 Z u h0 n0 _ s₁.heap _
      rw [e0]
      exact ⟨by unfold own_f5; rw [if_neg hc5, if_pos hc15], N0, rfl⟩
    · refine own_st (fun zw zk => XS.ifYes X0.here hx rfl (pc0 := 15) (pc' := 20) rfl (hb hby d5_15) rfl ((if0 _ _).trans (feq (own_fle hc15)).2) (by decide) (by decide) zk) ?_
      show own_Go p e below G (s₁.setTop (mkF m 20 #[.val (.long u), .second] []))
      refine own_st (fun zw zk => XS.lloadN X0.here hx rfl (hb hby d5_20) rfl zk) ?_
      refine own_st (fun zw zk => XS.lconst X0.here hx rfl (hb hby d5_21) zk) ?_
      refine own_st (fun zw zk => XS.lsub X0.here hx rfl (hb hby d5_22) rfl zk) ?_
      refine own_st (fun zw zk => X0.ldc2Long hx hown (mvT hZ (hw _ (List.mem_of_getElem? (i := 37) rfl))) (g := (mkF m 23 #[.val (.long u), .second] [(.long (u - (1 : Int64)))])) rfl (hb hby d5_23) _ zk) ?_
      refine own_st (fun zw zk => XS.ldiv X0.here hx rfl (hb hby d5_26) rfl (by decide) zk) ?_
      refine own_st (fun zw zk => XS.lconst X0.here hx rfl (hb hby d5_27) zk) ?_
      refine own_st (fun zw zk => XS.ladd X0.here hx rfl (hb hby d5_28) rfl zk) ?_
      subst hG
      obtain ⟨fs, hr, hrun, hended, hW, hsame⟩ := X0.leave (v := some (.long (((u - (1 : Int64)) / (1000 : Int64)) + (1 : Int64)))) (fun h => by rw [Bd.returns] at h; cases h)
      refine ⟨_, own_retJ X0 hx Bd.returns (hb hby d5_29) hr, _, hrun, hended, _, _, rfl, ?_, ⟨_, rfl⟩, hW, hsame.mono (by decide) (by decide)⟩
      show Q5 Z u h0 n0 _ s₁.heap _
      rw [e0]
      exact ⟨by unfold own_f5; rw [if_neg hc5, if_neg hc15], N0, rfl⟩
theorem own_law {w : Int64} (hw : 0 ≤ w.toInt) : own_f4 w = own_f5 w := by
  have z : (9223372036854775807 : Int64).toInt = 9223372036854775807 := by decide
  have z0 : (0 : Int64).toInt = 0 := by decide
  have z1 : (1 : Int64).toInt = 1 := by decide
  have zk : (1000 : Int64).toInt = 1000 := by decide
  have r := rng64 w
  have a1 := (c_ldiv w 1000 1000 zk (by decide)).1 hw
  have a2 := (c_lrem w 1000 1000 zk).1 hw
  unfold own_f4 own_f5
  by_cases h1 : w = 9223372036854775807
  · rw [if_pos h1, if_pos h1]
  · rw [if_neg h1, if_neg h1]
    by_cases h2 : w = 0
    · rw [if_pos h2]; subst h2; decide
    · rw [if_neg h2]
      have h2' : w.toInt ≠ 0 := fun q => h2 (Int64.toInt_inj.mp (q.trans z0.symm))
      have b1 : (w - 1).toInt = w.toInt - 1 := by
        have a3 := c_lsub w 1
        have r3 := rng64 (w - 1)
        rw [z1] at a3
        omega
      have b2 : ((w - 1) / 1000).toInt = (w.toInt - 1) / 1000 := by
        rw [← b1]
        exact (c_ldiv (w - 1) 1000 1000 zk (by decide)).1 (by omega)
      have b3 : ((w - 1) / 1000 + 1).toInt = (w.toInt - 1) / 1000 + 1 := by
        have a5 := c_ladd ((w - 1) / 1000) 1
        have r5 := rng64 ((w - 1) / 1000 + 1)
        rw [z1, b2] at a5
        omega
      by_cases h3 : (w - (w / 1000) * 1000) = 0
      · rw [if_pos h3]
        rw [h3, z0] at a2
        have b4 : (w / 1000 + 0).toInt = w.toInt / 1000 := by
          have a7 := c_ladd (w / 1000) 0
          have r7 := rng64 (w / 1000 + 0)
          rw [z0, a1] at a7
          omega
        apply Int64.toInt_inj.mp
        rw [b3, b4]
        omega
      · rw [if_neg h3]
        have h3' : (w - (w / 1000) * 1000).toInt ≠ 0 := fun q => h3 (Int64.toInt_inj.mp (q.trans z0.symm))
        have b4 : (w / 1000 + 1).toInt = w.toInt / 1000 + 1 := by
          have a6 := c_ladd (w / 1000) 1
          have r6 := rng64 (w / 1000 + 1)
          rw [z1, a1] at a6
          omega
        apply Int64.toInt_inj.mp
        rw [b3, b4]
        omega
theorem own_m12 (x : Int64) : 0 ≤ (x &&& 4095).toInt := by
  rw [c_maskL x 4095 12 (by decide) (by decide)]
  omega
theorem own_m63 (x : Int64) : 0 ≤ (x &&& 9223372036854775807).toInt := by
  rw [c_maskL x 9223372036854775807 63 (by decide) (by decide)]
  omega
theorem pd_1 : parseMethodDescriptor "(ZJJJJ)V" = some ⟨[.boolean, .long, .long, .long, .long], none⟩ := by decide +kernel
theorem pd_2 : parseMethodDescriptor "()J" = some ⟨[], some .long⟩ := by decide +kernel
theorem pd_3 : parseMethodDescriptor "(J)J" = some ⟨[.long], some .long⟩ := by decide +kernel
theorem ef_rm0 (m : MethodId) (p0 : Int32) (q1 : Int64) (q2 : Int64) (q3 : Int64) (q4 : Int64) : entryFrame m #[(.int p0), (.long q1), (.long q2), (.long q3), (.long q4)] maxLocals = mkF m 0 #[.val (.int p0), .val (.long q1), .second, .val (.long q2), .second, .val (.long q3), .second, .val (.long q4), .second, .unset, .unset, .unset, .unset, .unset, .unset, .unset] [] := by first | (simp [entryFrame, mkF, argsToLocals, Value.category, maxLocals]; done) | rfl
def Q0 (Z : State) (p0 : Int32) (q1 : Int64) (q2 : Int64) (q3 : Int64) (q4 : Int64) (h0 : Heap) (n0 : Nat) (rv : Option Value) (hq : Heap) (Lq : List Loc) : Prop := rv = some (.int 1) ∧ Fr n0 Lq
set_option maxRecDepth 65536 in
set_option maxHeartbeats 40000000 in
theorem rm0 (l : Launch) (Z : State) (a0 : Array Value) (hw : ∀ d ∈ tables_1, d.before a0 Z = true) (ws : List Jvm.Cond) (p0 : Int32) (q1 : Int64) (q2 : Int64) (q3 : Int64) (q4 : Int64) (h0 : Heap) (n0 : Nat) (Z0 : n0 ≤ h0.size) :
    MetFree l x (head1 (Jvm.Cond.code x code maxLocals ret :: ws) room_1) (fun za U => za = #[(.int p0), (.long q1), (.long q2), (.long q3), (.long q4)] ∧ Z.Warmed39 U.vm ∧ U.heap = h0) (fun _ _ _ _ _ => True) (fun _ U o U' => ∃ rv Lq, o = .returned rv ∧ Q0 Z p0 q1 q2 q3 q4 h0 n0 rv U'.heap Lq ∧ FrameEnd U o U' Lq room_1.cells room_1.slots) := by
  refine MetFree.of_bodySF (plainFor_of_name pn_2) hisR ?_
  intro p e s m args below meth c s₁ Bd hml0 hP hK
  obtain ⟨rfl, hZ, hh⟩ := hP
  have hx := Bd.exec
  have hby := Bd.bytes
  have hml : c.maxLocals = 16 := hml0
  have hown : s.vm.findClass "com/example/headroom/headroom/DecisionRetryAfterSecondsPinLaw" = some m.cls := findClass_of_methodNamed Bd.named
  have hnm := (name_of_methodNamed Bd.named Bd.method).1
  have X0 : Stand p l e room_1 s m #[(.int p0), (.long q1), (.long q2), (.long q3), (.long q4)] below meth c s₁ [] 0 0 := Stand.of_body Bd
  have e0 : s₁.heap = h0 := by rw [← hh, Bd.state]; rfl
  have N0 := Fr.nil n0
  refine own_out (own_nm fun G hG => own_st (fun zt zk => castTop (ef_rm0 m p0 q1 q2 q3 q4) zk) ?_)
  have J13_11 : ∀ (ad : Int32), own_Go p e below G (s₁.setTop (mkF m 13 #[.val (.int p0), .val (.long q1), .second, .val (.long q2), .second, .val (.long q3), .second, .val (.long q4), .second, .val (.int ad), .unset, .unset, .unset, .unset, .unset, .unset] [])) := by
    intro ad
    show own_Go p e below G (s₁.setTop (mkF m 13 #[.val (.int p0), .val (.long q1), .second, .val (.long q2), .second, .val (.long q3), .second, .val (.long q4), .second, .val (.int ad), .unset, .unset, .unset, .unset, .unset, .unset] []))
    refine own_st (fun zw zk => XS.iloadN X0.here hx rfl (hb hby at_13) rfl zk) ?_
    refine own_st (fun zw zk => XS.iconst X0.here hx rfl (hb hby at_14) zk) ?_
    refine own_st (fun zw zk => XS.iushr X0.here hx rfl (hb hby at_15) rfl zk) ?_
    refine own_st (fun zw zk => XS.iconst X0.here hx rfl (hb hby at_16) zk) ?_
    refine own_st (fun zw zk => XS.iand X0.here hx rfl (hb hby at_17) rfl zk) ?_
    refine own_st (fun zw zk => XS.istore X0.here hx rfl (hb hby at_18) rfl rfl zk) ?_
    have J70_12 : ∀ (ms : Int64) (hms : 0 ≤ ms.toInt), own_Go p e below G (s₁.setTop (mkF m 70 #[.val (.int p0), .val (.long q1), .second, .val (.long q2), .second, .val (.long q3), .second, .val (.long q4), .second, .val (.int ad), .val (.int (((p0.toUInt32 >>> ((1 : Int32) &&& 31).toUInt32).toInt32) &&& (3 : Int32))), .val (.long ms), .second, .unset, .unset, .unset] [])) := by
      intro ms hms
      show own_Go p e below G (s₁.setTop (mkF m 70 #[.val (.int p0), .val (.long q1), .second, .val (.long q2), .second, .val (.long q3), .second, .val (.long q4), .second, .val (.int ad), .val (.int (((p0.toUInt32 >>> ((1 : Int32) &&& 31).toUInt32).toInt32) &&& (3 : Int32))), .val (.long ms), .second, .unset, .unset, .unset] []))
      obtain ⟨T13, h13, X13, e13, E13, A13, D13, -, st13⟩ := newO X0 hx hZ hown (hw _ (List.mem_of_getElem? (i := 0) rfl)) (hw _ (List.mem_of_getElem? (i := 1) rfl)) (hw _ (List.mem_of_getElem? (i := 2) rfl)) e0 (g := (mkF m 70 #[.val (.int p0), .val (.long q1), .second, .val (.long q2), .second, .val (.long q3), .second, .val (.long q4), .second, .val (.int ad), .val (.int (((p0.toUInt32 >>> ((1 : Int32) &&& 31).toUInt32).toInt32) &&& (3 : Int32))), .val (.long ms), .second, .unset, .unset, .unset] [])) rfl (hb hby at_70) (by decide) (by decide)
      obtain ⟨b13, g13⟩ : ∃ z, z = h0.size := ⟨_, rfl⟩
      rw [← g13] at A13 D13 st13
      have G13 : n0 ≤ b13 := Nat.le_trans Z0 (Nat.le_of_eq g13.symm)
      have Z13 : n0 ≤ h13.size := Nat.le_trans Z0 E13.1
      have Fb13admitted : Fld Z h13 b13 "com/example/headroom/headroom/Decision" "admitted" "Z" (.int (0 : Int32)) := D13 (Or.inr (hw _ (List.mem_of_getElem? (i := 15) rfl))) (ty := .boolean) (by decide)
      have Fb13limit : Fld Z h13 b13 "com/example/headroom/headroom/Decision" "limit" "J" (.long (0 : Int64)) := D13 (Or.inr (hw _ (List.mem_of_getElem? (i := 17) rfl))) (ty := .long) (by decide)
      have Fb13remaining : Fld Z h13 b13 "com/example/headroom/headroom/Decision" "remaining" "J" (.long (0 : Int64)) := D13 (Or.inr (hw _ (List.mem_of_getElem? (i := 19) rfl))) (ty := .long) (by decide)
      have Fb13retryAfterMillis : Fld Z h13 b13 "com/example/headroom/headroom/Decision" "retryAfterMillis" "J" (.long (0 : Int64)) := D13 (Or.inr (hw _ (List.mem_of_getElem? (i := 21) rfl))) (ty := .long) (by decide)
      have Fb13delayMillis : Fld Z h13 b13 "com/example/headroom/headroom/Decision" "delayMillis" "J" (.long (0 : Int64)) := D13 (Or.inr (hw _ (List.mem_of_getElem? (i := 23) rfl))) (ty := .long) (by decide)
      refine own_st (fun zw zk => st13 zw zk) ?_
      refine own_st (fun zw zk => XS.dup X13.here hx rfl (hb hby at_73) rfl rfl zk) ?_
      refine own_st (fun zw zk => XS.iload X13.here hx rfl (hb hby at_74) rfl zk) ?_
      refine own_st (fun zw zk => XS.lloadN X13.here hx rfl (hb hby at_76) rfl zk) ?_
      refine own_st (fun zw zk => XS.lloadN X13.here hx rfl (hb hby at_77) rfl zk) ?_
      refine own_st (fun zw zk => XS.lload X13.here hx rfl (hb hby at_78) rfl zk) ?_
      refine own_st (fun zw zk => XS.lload X13.here hx rfl (hb hby at_80) rfl zk) ?_
      obtain ⟨_, _, ⟨T14, L14, k14, n14⟩, -, X14, ⟨Lc14, hQ14, l14, y14, z14⟩, st14⟩ := X13.specialBack hx (y := (⟨"com/example/headroom/headroom/Decision", "<init>", "(ZJJJJ)V"⟩ : MethodName)) rfl hown (mvT hZ (hw _ (List.mem_of_getElem? (i := 3) rfl))) (mvT hZ (hw _ (List.mem_of_getElem? (i := 4) rfl))) (mvT hZ (hw _ (List.mem_of_getElem? (i := 5) rfl))) (by decide) (backOf (W := 1) (rm1 l Z a0 hw [] b13 ad q1 q2 ms q4 h13 n0 Z13 (A13) (Fb13admitted) (Fb13limit) (Fb13remaining) (Fb13retryAfterMillis) (Fb13delayMillis) (G13)) hZ (hw _ (List.mem_of_getElem? (i := 5) rfl)) (hw _ (List.mem_of_getElem? (i := 2) rfl)) (by decide) (by decide)) (g := (mkF m 82 #[.val (.int p0), .val (.long q1), .second, .val (.long q2), .second, .val (.long q3), .second, .val (.long q4), .second, .val (.int ad), .val (.int (((p0.toUInt32 >>> ((1 : Int32) &&& 31).toUInt32).toInt32) &&& (3 : Int32))), .val (.long ms), .second, .unset, .unset, .unset] [(.long q4), (.long ms), (.long q2), (.long q1), (.int ad), (.ref b13), (.ref b13)])) rfl (by rw [hml]; rfl) (Steps.refl _) (a := b13) (argsL := [(.int ad), (.long q1), (.long q2), (.long ms), (.long q4)]) (rest := [(.ref b13)]) (lenOf pd_1 rfl) rfl (by show 2 * 0 + _ ≤ _; exact Nat.le_of_eq rfl) (hb hby at_82) (fun _ _ => ⟨rfl, e13, (by decide : 1 + 0 ≤ _), (by decide : 5 + 0 ≤ _)⟩)
      dsimp only [Pt.U, Pt.locs, Pt.cells, Pt.slots] at X14 l14 y14 z14 st14 hQ14
      subst l14 y14 z14
      obtain ⟨rfl, N14q, K14, O14_0, O14_1⟩ := hQ14
      have Ab13_14 := A13.keep K14
      have Z14 : n0 ≤ T14.heap.size := Nat.le_trans Z13 K14.1
      have N14 := Fr.app N0 N14q
      refine own_jp st14 ?_
      show own_Go p e below G (T14.setTop (mkF m 85 #[.val (.int p0), .val (.long q1), .second, .val (.long q2), .second, .val (.long q3), .second, .val (.long q4), .second, .val (.int ad), .val (.int (((p0.toUInt32 >>> ((1 : Int32) &&& 31).toUInt32).toInt32) &&& (3 : Int32))), .val (.long ms), .second, .unset, .unset, .unset] [(.ref b13)]))
      refine own_st (fun zw zk => XS.astore X14.here hx rfl (hb hby at_85) rfl rfl rfl zk) ?_
      show own_Go p e below G (T14.setTop (mkF m 87 #[.val (.int p0), .val (.long q1), .second, .val (.long q2), .second, .val (.long q3), .second, .val (.long q4), .second, .val (.int ad), .val (.int (((p0.toUInt32 >>> ((1 : Int32) &&& 31).toUInt32).toInt32) &&& (3 : Int32))), .val (.long ms), .second, .val (.ref b13), .unset, .unset] []))
      refine own_st (fun zw zk => XS.aload X14.here hx rfl (hb hby at_87) rfl rfl zk) ?_
      obtain ⟨cq15, kq15, q15a, q15b, q15c⟩ := isOf hZ rfl O14_0
      obtain ⟨_, _, ⟨T15, L15, k15, n15⟩, -, X15, ⟨Lc15, hQ15, l15, y15, z15⟩, st15⟩ := X14.virtualBack hx (y := (⟨"com/example/headroom/headroom/Decision", "retryAfterSeconds", "()J"⟩ : MethodName)) (z := (⟨"com/example/headroom/headroom/Decision", "retryAfterSeconds", "()J"⟩ : MethodName)) hown (mvT hZ (hw _ (List.mem_of_getElem? (i := 24) rfl))) (mvT hZ (hw _ (List.mem_of_getElem? (i := 25) rfl))) (notFace_of_selects (args := #[]) (mvT hZ (hw _ (List.mem_of_getElem? (i := 27) rfl)))) (mvT hZ (hw _ (List.mem_of_getElem? (i := 27) rfl))) (mvT hZ (hw _ (List.mem_of_getElem? (i := 26) rfl))) (by decide) (backOf (W := 0) (rm4 l Z a0 hw [] b13 ms T14.heap n0 Z14 (O14_1)) hZ (hw _ (List.mem_of_getElem? (i := 28) rfl)) (hw _ (List.mem_of_getElem? (i := 2) rfl)) (by decide) (by decide)) q15a q15c (g := (mkF m 89 #[.val (.int p0), .val (.long q1), .second, .val (.long q2), .second, .val (.long q3), .second, .val (.long q4), .second, .val (.int ad), .val (.int (((p0.toUInt32 >>> ((1 : Int32) &&& 31).toUInt32).toInt32) &&& (3 : Int32))), .val (.long ms), .second, .val (.ref b13), .unset, .unset] [(.ref b13)])) rfl (by rw [hml]; rfl) (Steps.refl _) (argsL := []) (rest := []) (lenOf pd_2 rfl) rfl (by show 2 * 0 + _ ≤ _; exact Nat.le_of_eq rfl) (hb hby at_89) (fun _ _ => ⟨rfl, rfl, (by decide : 1 + 0 ≤ _), (by decide : 5 + 0 ≤ _)⟩)
      dsimp only [Pt.U, Pt.locs, Pt.cells, Pt.slots] at X15 l15 y15 z15 st15 hQ15
      subst l15 y15 z15
      obtain ⟨rfl, N15q, e15⟩ := hQ15
      have N15 := Fr.app N14 N15q
      refine own_jp st15 ?_
      refine own_st (fun zw zk => XS.lstore X15.here hx rfl (hb hby at_92) rfl rfl zk) ?_
      show own_Go p e below G (T15.setTop (mkF m 94 #[.val (.int p0), .val (.long q1), .second, .val (.long q2), .second, .val (.long q3), .second, .val (.long q4), .second, .val (.int ad), .val (.int (((p0.toUInt32 >>> ((1 : Int32) &&& 31).toUInt32).toInt32) &&& (3 : Int32))), .val (.long ms), .second, .val (.ref b13), .val (.long (own_f4 ms)), .second] []))
      refine own_st (fun zw zk => XS.lload X15.here hx rfl (hb hby at_94) rfl zk) ?_
      refine own_st (fun zw zk => XS.lload X15.here hx rfl (hb hby at_96) rfl zk) ?_
      obtain ⟨_, _, ⟨T16, L16, k16, n16⟩, -, X16, ⟨Lc16, hQ16, l16, y16, z16⟩, st16⟩ := Jvm.LawKit.callS X15 hx (y := (⟨"com/example/headroom/headroom/DecisionRetryAfterSecondsPinLaw", "expectedSeconds", "(J)J"⟩ : MethodName)) hown (mvT hZ (hw _ (List.mem_of_getElem? (i := 31) rfl))) (mvT hZ (hw _ (List.mem_of_getElem? (i := 32) rfl))) (mvT hZ (hw _ (List.mem_of_getElem? (i := 33) rfl))) (mvT hZ (hw _ (List.mem_of_getElem? (i := 34) rfl))) (by decide) (backOf (W := 2) (rm5 l Z a0 hw [] ms T14.heap n0 Z14) hZ (hw _ (List.mem_of_getElem? (i := 34) rfl)) (hw _ (List.mem_of_getElem? (i := 33) rfl)) (by decide) (by decide)) (g := (mkF m 98 #[.val (.int p0), .val (.long q1), .second, .val (.long q2), .second, .val (.long q3), .second, .val (.long q4), .second, .val (.int ad), .val (.int (((p0.toUInt32 >>> ((1 : Int32) &&& 31).toUInt32).toInt32) &&& (3 : Int32))), .val (.long ms), .second, .val (.ref b13), .val (.long (own_f4 ms)), .second] [(.long ms), (.long (own_f4 ms))])) rfl (by rw [hml]; rfl) (argsL := [(.long ms)]) (rest := [(.long (own_f4 ms))]) (lenOf pd_3 rfl) rfl (by show 2 * 0 + _ ≤ _; exact Nat.le_of_eq rfl) (hb hby at_98) (fun _ _ => ⟨rfl, e15, (by decide : 1 + 0 ≤ _), (by decide : 5 + 0 ≤ _)⟩)
      dsimp only [Pt.U, Pt.locs, Pt.cells, Pt.slots] at X16 l16 y16 z16 st16 hQ16
      subst l16 y16 z16
      obtain ⟨rfl, N16q, e16⟩ := hQ16
      have N16 := Fr.app N15 N16q
      refine own_st (fun zw zk => st16 zw zk) ?_
      refine own_st (fun zw zk => XS.lcmp X16.here hx rfl (hb hby at_101) rfl zk) ?_
      have hc102 : (own_f4 ms) = (own_f5 ms) := own_law hms
      refine own_st (fun zw zk => XS.ifNo X16.here hx rfl (hb hby at_102) rfl ((if0 _ _).trans (teq (own_tle hc102)).2) zk) ?_
      refine own_st (fun zw zk => XS.iconst X16.here hx rfl (hb hby at_105) zk) ?_
      refine own_st (fun zw zk => XS.goto X16.here hx rfl (pc0 := 106) (pc' := 110) rfl (hb hby at_106) (by decide) (by decide) zk) ?_
      show own_Go p e below G (T16.setTop (mkF m 110 #[.val (.int p0), .val (.long q1), .second, .val (.long q2), .second, .val (.long q3), .second, .val (.long q4), .second, .val (.int ad), .val (.int (((p0.toUInt32 >>> ((1 : Int32) &&& 31).toUInt32).toInt32) &&& (3 : Int32))), .val (.long ms), .second, .val (.ref b13), .val (.long (own_f4 ms)), .second] [(.int (1 : Int32))]))
      subst hG
      obtain ⟨fs, hr, hrun, hended, hW, hsame⟩ := X16.leave (v := some (.int (1 : Int32))) (fun h => by rw [Bd.returns] at h; cases h)
      refine ⟨_, retN X16 hx (t := .boolean) Bd.returns (by simp) (hb hby at_110) hr, _, hrun, hended, _, _, rfl, ?_, ⟨_, rfl⟩, hW, hsame.mono (by decide) (by decide)⟩
      show Q0 Z p0 q1 q2 q3 q4 h0 n0 _ T16.heap _
      rw [e16]
      exact ⟨rfl, N16⟩
    show own_Go p e below G (s₁.setTop (mkF m 20 #[.val (.int p0), .val (.long q1), .second, .val (.long q2), .second, .val (.long q3), .second, .val (.long q4), .second, .val (.int ad), .val (.int (((p0.toUInt32 >>> ((1 : Int32) &&& 31).toUInt32).toInt32) &&& (3 : Int32))), .unset, .unset, .unset, .unset, .unset] []))
    refine own_st (fun zw zk => XS.iload X0.here hx rfl (hb hby at_20) rfl zk) ?_
    by_cases hc22 : (((p0.toUInt32 >>> ((1 : Int32) &&& 31).toUInt32).toInt32) &&& (3 : Int32)) = (0 : Int32)
    · refine own_st (fun zw zk => XS.ifNo X0.here hx rfl (hb hby at_22) rfl ((if0 _ _).trans (teq hc22).2) zk) ?_
      refine own_st (fun zw zk => XS.lconst X0.here hx rfl (hb hby at_25) zk) ?_
      refine own_st (fun zw zk => XS.lstore X0.here hx rfl (hb hby at_26) rfl rfl zk) ?_
      show own_Go p e below G (s₁.setTop (mkF m 28 #[.val (.int p0), .val (.long q1), .second, .val (.long q2), .second, .val (.long q3), .second, .val (.long q4), .second, .val (.int ad), .val (.int (((p0.toUInt32 >>> ((1 : Int32) &&& 31).toUInt32).toInt32) &&& (3 : Int32))), .val (.long (0 : Int64)), .second, .unset, .unset, .unset] []))
      refine own_st (fun zw zk => XS.goto X0.here hx rfl (pc0 := 28) (pc' := 70) rfl (hb hby at_28) (by decide) (by decide) zk) ?_
      show own_Go p e below G (s₁.setTop (mkF m 70 #[.val (.int p0), .val (.long q1), .second, .val (.long q2), .second, .val (.long q3), .second, .val (.long q4), .second, .val (.int ad), .val (.int (((p0.toUInt32 >>> ((1 : Int32) &&& 31).toUInt32).toInt32) &&& (3 : Int32))), .val (.long (0 : Int64)), .second, .unset, .unset, .unset] []))
      exact J70_12 (0 : Int64) (by decide)
    · refine own_st (fun zw zk => XS.ifYes X0.here hx rfl (pc0 := 22) (pc' := 31) rfl (hb hby at_22) rfl ((if0 _ _).trans (feq hc22).2) (by decide) (by decide) zk) ?_
      refine own_st (fun zw zk => XS.iload X0.here hx rfl (hb hby at_31) rfl zk) ?_
      refine own_st (fun zw zk => XS.iconst X0.here hx rfl (hb hby at_33) zk) ?_
      by_cases hc34 : (((p0.toUInt32 >>> ((1 : Int32) &&& 31).toUInt32).toInt32) &&& (3 : Int32)) = (1 : Int32)
      · refine own_st (fun zw zk => XS.icmpNo X0.here hx rfl (hb hby at_34) rfl (teq hc34).2 zk) ?_
        refine own_st (fun zw zk => X0.ldc2Long hx hown (mvT hZ (hw _ (List.mem_of_getElem? (i := 35) rfl))) (g := (mkF m 37 #[.val (.int p0), .val (.long q1), .second, .val (.long q2), .second, .val (.long q3), .second, .val (.long q4), .second, .val (.int ad), .val (.int (((p0.toUInt32 >>> ((1 : Int32) &&& 31).toUInt32).toInt32) &&& (3 : Int32))), .unset, .unset, .unset, .unset, .unset] [])) rfl (hb hby at_37) _ zk) ?_
        refine own_st (fun zw zk => XS.lstore X0.here hx rfl (hb hby at_40) rfl rfl zk) ?_
        show own_Go p e below G (s₁.setTop (mkF m 42 #[.val (.int p0), .val (.long q1), .second, .val (.long q2), .second, .val (.long q3), .second, .val (.long q4), .second, .val (.int ad), .val (.int (((p0.toUInt32 >>> ((1 : Int32) &&& 31).toUInt32).toInt32) &&& (3 : Int32))), .val (.long (9223372036854775807 : Int64)), .second, .unset, .unset, .unset] []))
        refine own_st (fun zw zk => XS.goto X0.here hx rfl (pc0 := 42) (pc' := 70) rfl (hb hby at_42) (by decide) (by decide) zk) ?_
        show own_Go p e below G (s₁.setTop (mkF m 70 #[.val (.int p0), .val (.long q1), .second, .val (.long q2), .second, .val (.long q3), .second, .val (.long q4), .second, .val (.int ad), .val (.int (((p0.toUInt32 >>> ((1 : Int32) &&& 31).toUInt32).toInt32) &&& (3 : Int32))), .val (.long (9223372036854775807 : Int64)), .second, .unset, .unset, .unset] []))
        exact J70_12 (9223372036854775807 : Int64) (by decide)
      · refine own_st (fun zw zk => XS.icmpYes X0.here hx rfl (pc0 := 34) (pc' := 45) rfl (hb hby at_34) rfl (feq hc34).2 (by decide) (by decide) zk) ?_
        refine own_st (fun zw zk => XS.iload X0.here hx rfl (hb hby at_45) rfl zk) ?_
        refine own_st (fun zw zk => XS.iconst X0.here hx rfl (hb hby at_47) zk) ?_
        by_cases hc48 : (((p0.toUInt32 >>> ((1 : Int32) &&& 31).toUInt32).toInt32) &&& (3 : Int32)) = (2 : Int32)
        · refine own_st (fun zw zk => XS.icmpNo X0.here hx rfl (hb hby at_48) rfl (teq hc48).2 zk) ?_
          show own_Go p e below G (s₁.setTop (mkF m 51 #[.val (.int p0), .val (.long q1), .second, .val (.long q2), .second, .val (.long q3), .second, .val (.long q4), .second, .val (.int ad), .val (.int (((p0.toUInt32 >>> ((1 : Int32) &&& 31).toUInt32).toInt32) &&& (3 : Int32))), .unset, .unset, .unset, .unset, .unset] []))
          refine own_st (fun zw zk => XS.lload X0.here hx rfl (hb hby at_51) rfl zk) ?_
          refine own_st (fun zw zk => X0.ldc2Long hx hown (mvT hZ (hw _ (List.mem_of_getElem? (i := 36) rfl))) (g := (mkF m 53 #[.val (.int p0), .val (.long q1), .second, .val (.long q2), .second, .val (.long q3), .second, .val (.long q4), .second, .val (.int ad), .val (.int (((p0.toUInt32 >>> ((1 : Int32) &&& 31).toUInt32).toInt32) &&& (3 : Int32))), .unset, .unset, .unset, .unset, .unset] [(.long q3)])) rfl (hb hby at_53) _ zk) ?_
          refine own_st (fun zw zk => XS.land X0.here hx rfl (hb hby at_56) rfl zk) ?_
          refine own_st (fun zw zk => XS.lstore X0.here hx rfl (hb hby at_57) rfl rfl zk) ?_
          show own_Go p e below G (s₁.setTop (mkF m 59 #[.val (.int p0), .val (.long q1), .second, .val (.long q2), .second, .val (.long q3), .second, .val (.long q4), .second, .val (.int ad), .val (.int (((p0.toUInt32 >>> ((1 : Int32) &&& 31).toUInt32).toInt32) &&& (3 : Int32))), .val (.long (q3 &&& (4095 : Int64))), .second, .unset, .unset, .unset] []))
          refine own_st (fun zw zk => XS.goto X0.here hx rfl (pc0 := 59) (pc' := 70) rfl (hb hby at_59) (by decide) (by decide) zk) ?_
          show own_Go p e below G (s₁.setTop (mkF m 70 #[.val (.int p0), .val (.long q1), .second, .val (.long q2), .second, .val (.long q3), .second, .val (.long q4), .second, .val (.int ad), .val (.int (((p0.toUInt32 >>> ((1 : Int32) &&& 31).toUInt32).toInt32) &&& (3 : Int32))), .val (.long (q3 &&& (4095 : Int64))), .second, .unset, .unset, .unset] []))
          exact J70_12 (q3 &&& (4095 : Int64)) (own_m12 _)
        · refine own_st (fun zw zk => XS.icmpYes X0.here hx rfl (pc0 := 48) (pc' := 62) rfl (hb hby at_48) rfl (feq hc48).2 (by decide) (by decide) zk) ?_
          show own_Go p e below G (s₁.setTop (mkF m 62 #[.val (.int p0), .val (.long q1), .second, .val (.long q2), .second, .val (.long q3), .second, .val (.long q4), .second, .val (.int ad), .val (.int (((p0.toUInt32 >>> ((1 : Int32) &&& 31).toUInt32).toInt32) &&& (3 : Int32))), .unset, .unset, .unset, .unset, .unset] []))
          refine own_st (fun zw zk => XS.lload X0.here hx rfl (hb hby at_62) rfl zk) ?_
          refine own_st (fun zw zk => X0.ldc2Long hx hown (mvT hZ (hw _ (List.mem_of_getElem? (i := 35) rfl))) (g := (mkF m 64 #[.val (.int p0), .val (.long q1), .second, .val (.long q2), .second, .val (.long q3), .second, .val (.long q4), .second, .val (.int ad), .val (.int (((p0.toUInt32 >>> ((1 : Int32) &&& 31).toUInt32).toInt32) &&& (3 : Int32))), .unset, .unset, .unset, .unset, .unset] [(.long q3)])) rfl (hb hby at_64) _ zk) ?_
          refine own_st (fun zw zk => XS.land X0.here hx rfl (hb hby at_67) rfl zk) ?_
          refine own_st (fun zw zk => XS.lstore X0.here hx rfl (hb hby at_68) rfl rfl zk) ?_
          show own_Go p e below G (s₁.setTop (mkF m 70 #[.val (.int p0), .val (.long q1), .second, .val (.long q2), .second, .val (.long q3), .second, .val (.long q4), .second, .val (.int ad), .val (.int (((p0.toUInt32 >>> ((1 : Int32) &&& 31).toUInt32).toInt32) &&& (3 : Int32))), .val (.long (q3 &&& (9223372036854775807 : Int64))), .second, .unset, .unset, .unset] []))
          exact J70_12 (q3 &&& (9223372036854775807 : Int64)) (own_m63 _)
  show own_Go p e below G (s₁.setTop (mkF m 0 #[.val (.int p0), .val (.long q1), .second, .val (.long q2), .second, .val (.long q3), .second, .val (.long q4), .second, .unset, .unset, .unset, .unset, .unset, .unset, .unset] []))
  refine own_st (fun zw zk => XS.iloadN X0.here hx rfl (hb hby at_0) rfl zk) ?_
  refine own_st (fun zw zk => XS.iconst X0.here hx rfl (hb hby at_1) zk) ?_
  refine own_st (fun zw zk => XS.iand X0.here hx rfl (hb hby at_2) rfl zk) ?_
  by_cases hc3 : (p0 &&& (1 : Int32)) = (0 : Int32)
  · refine own_st (fun zw zk => XS.ifYes X0.here hx rfl (pc0 := 3) (pc' := 10) rfl (hb hby at_3) rfl ((if0 _ _).trans (teq hc3).1) (by decide) (by decide) zk) ?_
    refine own_st (fun zw zk => XS.iconst X0.here hx rfl (hb hby at_10) zk) ?_
    refine own_st (fun zw zk => XS.istore X0.here hx rfl (hb hby at_11) rfl rfl zk) ?_
    show own_Go p e below G (s₁.setTop (mkF m 13 #[.val (.int p0), .val (.long q1), .second, .val (.long q2), .second, .val (.long q3), .second, .val (.long q4), .second, .val (.int (0 : Int32)), .unset, .unset, .unset, .unset, .unset, .unset] []))
    exact J13_11 (0 : Int32)
  · refine own_st (fun zw zk => XS.ifNo X0.here hx rfl (hb hby at_3) rfl ((if0 _ _).trans (feq hc3).1) zk) ?_
    refine own_st (fun zw zk => XS.iconst X0.here hx rfl (hb hby at_6) zk) ?_
    refine own_st (fun zw zk => XS.goto X0.here hx rfl (pc0 := 7) (pc' := 11) rfl (hb hby at_7) (by decide) (by decide) zk) ?_
    show own_Go p e below G (s₁.setTop (mkF m 11 #[.val (.int p0), .val (.long q1), .second, .val (.long q2), .second, .val (.long q3), .second, .val (.long q4), .second, .unset, .unset, .unset, .unset, .unset, .unset, .unset] [(.int (1 : Int32))]))
    refine own_st (fun zw zk => XS.istore X0.here hx rfl (hb hby at_11) rfl rfl zk) ?_
    show own_Go p e below G (s₁.setTop (mkF m 13 #[.val (.int p0), .val (.long q1), .second, .val (.long q2), .second, .val (.long q3), .second, .val (.long q4), .second, .val (.int (1 : Int32)), .unset, .unset, .unset, .unset, .unset, .unset] []))
    exact J13_11 (1 : Int32)
set_option maxRecDepth 65536 in
set_option maxHeartbeats 40000000 in
theorem comes_1 {Post : Tables → Env → Array Value → State → Outcome → State → Prop} (hpost : ∀ tb e args s v u, (limb_1_1.after args s (.returned v) u = true ∧ limb_1_2.after args s (.returned v) u = true ∧ True) → FrameEnd s (.returned v) u (Jvm.fieldLocs frame_1_writes args s ++ Jvm.arrayLocs frame_1_arrays args s ++ Jvm.staticLocs frame_1_statics s) 16 128 → Post tb e args s (.returned v) u) :
    ArmFor flags0 classFile x code maxLocals ret World_1 tables_1 room_1 Calls_1 rest_1 Pre_1 Post := by
  intro l hfl _ _ p e ha hc hk s m args below hf hA hF happ hP
  obtain ⟨hcalls, hrest, hpre⟩ := hP
  obtain ⟨-, -, -, hnamed, -, -, -, hat⟩ := (Spec.applies_iff hf).mp happ
  obtain ⟨hg, hn⟩ := and_e (Cond.before_iff.mp (show (Jvm.Cond.and given_1 narrow_1).before args s = true from hpre))
  obtain ⟨g1, g2⟩ := and_e hg
  obtain ⟨g3, g4⟩ := and_e g2
  obtain ⟨g5, g6⟩ := and_e g4
  obtain ⟨g7, g8⟩ := and_e g6
  obtain ⟨g9, g10⟩ := and_e g8
  obtain ⟨w0, w1, w2, w3, w4, rfl⟩ : ∃ w0 w1 w2 w3 w4 : Value, args = #[w0, w1, w2, w3, w4] := by
    have hs : args.size = 5 := by simpa [Cond.value, given_1] using g1
    obtain ⟨L⟩ := args
    match L, hs with
    | [w0, w1, w2, w3, w4], _ => exact ⟨w0, w1, w2, w3, w4, rfl⟩
  have hw := fun d (hd : d ∈ tables_1) => atoms_spec (ws := Jvm.Cond.code x code maxLocals ret :: tables_1) hat d (List.mem_cons_of_mem _ hd)
  obtain ⟨i0, ei0⟩ := is_v g3
  obtain rfl : w0 = (.int i0) := Option.some.inj ei0
  obtain ⟨i1, ei1⟩ := isL_v g5
  obtain rfl : w1 = (.long i1) := Option.some.inj ei1
  obtain ⟨i2, ei2⟩ := isL_v g7
  obtain rfl : w2 = (.long i2) := Option.some.inj ei2
  obtain ⟨i3, ei3⟩ := isL_v g9
  obtain rfl : w3 = (.long i3) := Option.some.inj ei3
  obtain ⟨i4, ei4⟩ := isL_v g10
  obtain rfl : w4 = (.long i4) := Option.some.inj ei4
  obtain ⟨n, o, h1, h2, h3, _, L, rfl, ⟨rfl, N⟩, hq⟩ := rm0 l s _ hw tables_1 i0 i1 i2 i3 i4 s.heap s.heap.size (Nat.le_refl _) p e ha hc hk s m _ below hf ((Spec.applies_iff_loose hf).mp happ).1 ⟨rfl, State.Warmed39.refl s, rfl⟩ trivial
  refine ⟨n, _, h1, h2, h3, hpost _ _ _ _ _ _ ⟨Cond.after_iff.mpr rfl, Cond.after_iff.mpr (eq_i res_at (Term.int_eval (1)) rfl), trivial⟩ ⟨hq.1, hq.2.1, (hq.2.2.sift fun y hy => Or.inr (N y hy)).mono (by decide) (by decide)⟩⟩
theorem main_1_1 : Claimed_1_1 := comes_1 fun _ _ _ _ _ _ h hF => ⟨h.1, hF⟩
theorem main_1_2 : Claimed_1_2 := comes_1 fun _ _ _ _ _ _ h hF => ⟨h.2.1, hF⟩
end Jvm.Pilot.@@N@@
namespace Jvm.Pilot.@@N@@
open Jvm Jvm.ClassFile Sem Op Lib Jvm.Free Jvm.Stand Jvm.Pilot.@@N@@.Jvm.D
/-! MADE BY PROGRAM (witnessworld.py) out of the Statement's table words and the real class files: 10 classes; the members and pool entries that the words name. The judged class is class 1, her method 2. -/
namespace start1
open Jvm.ClassFile
def u (s : String) : CpInfo := .utf8 (stringToUtf16 s)
/-- a pool by its gaps: so many unusable entries, then the entry; so many at the end -/
def gap : Nat → List CpInfo → List CpInfo
  | 0, r => r
  | n + 1, r => .unusable :: gap n r
def poolList (es : List (Nat × CpInfo)) (last : Nat) : List CpInfo := es.foldr (fun e r => gap e.1 (e.2 :: r)) (gap last [])
def pool (es : List (Nat × CpInfo)) (last : Nat) : Array CpInfo := ⟨poolList es last⟩
def fileOf (pool : Array CpInfo) (this : Nat) (attrs : Array Attribute := #[]) (ms : Array MethodInfo := #[]) (fl : Nat := 33) (sup : Nat := 0) (ifs : Array Nat := #[]) (fds : Array FieldInfo := #[]) : ClassFile where
  minorVersion := 0
  majorVersion := 65
  constantPool := pool
  accessFlags := fl
  thisClass := this
  superClass := sup
  interfaces := ifs
  fields := fds
  methods := ms
  attributes := attrs
def plain (name : String) (sup : Option ClassId) : Class where
  name := name
  kind := .ordinary
  loader := none
  accessFlags := 33
  super := sup
  interfaces := #[]
  cf := none
  fields := #[]
  methods := #[]
  instanceTypes := #[]
  staticTypes := #[]
  resolved := #[]
  callSites := []
  init := .initialized
  statics := none
  mirror := none

def pool0 : Array CpInfo := pool [(5, u "<init>"), (0, u "()V"), (1, .class_ 10), (1, u "java/lang/Object")] 113

def k0c0 : Code := { maxStack := 0, maxLocals := 1, code := object_method_1_code, exceptionTable := #[], attributes := #[] }
def k0m0 : Method := { name := "<init>", desc := "()V", sig := { parameters := [], returnType := none }, accessFlags := 1, code := some k0c0 }
/-- java/lang/Object -/
def k0 : Class := { plain "java/lang/Object" none with
  accessFlags := 33
  interfaces := #[]
  cf := some (fileOf pool0 8 #[] #[{ accessFlags := 1, nameIndex := 5, descriptorIndex := 6, attributes := #[] }] 33 0 #[] #[])
  fields := #[]
  methods := #[k0m0]
  instanceTypes := #[]
  staticTypes := #[]
  resolved := Array.replicate 124 none
  statics := none }

def pool1 : Array CpInfo := pool [(2, .class_ 4), (1, u "java/lang/Object"), (0, u "<init>"), (0, u "()V"), (2, .long 9223372036854775807), (1, .long 1000), (1, .long 4095), (1, .class_ 16), (0, u "com/example/headroom/headroom/Decision"), (0, .methodref 15 18), (0, .nameAndType 5 19), (0, u "(ZJJJJ)V"), (0, .methodref 15 21), (0, .nameAndType 22 23), (0, u "retryAfterSeconds"), (0, u "()J"), (0, .methodref 25 26), (0, .class_ 27), (0, .nameAndType 28 29), (0, u "com/example/headroom/headroom/DecisionRetryAfterSecondsPinLaw"), (0, u "expectedSeconds"), (0, u "(J)J"), (3, u "law"), (0, u "(IJJJJ)Z")] 2

def k1m0 : Method := { name := "<init>", desc := "()V", sig := { parameters := [], returnType := none }, accessFlags := 1, code := none }
def k1c1 : Code := { maxStack := 4, maxLocals := 2, code := method_2_code, exceptionTable := #[], attributes := #[] }
def k1m1 : Method := { name := "expectedSeconds", desc := "(J)J", sig := { parameters := [.long], returnType := some .long }, accessFlags := 10, code := some k1c1 }
def k1c2 : Code := { maxStack := 11, maxLocals := 16, code := code, exceptionTable := #[], attributes := #[] }
def k1m2 : Method := { name := "law", desc := "(IJJJJ)Z", sig := { parameters := [.int, .long, .long, .long, .long], returnType := some .boolean }, accessFlags := 9, code := some k1c2 }
/-- com/example/headroom/headroom/DecisionRetryAfterSecondsPinLaw -/
def k1 : Class := { plain "com/example/headroom/headroom/DecisionRetryAfterSecondsPinLaw" (some 0) with
  accessFlags := 49
  interfaces := #[]
  cf := some (fileOf pool1 25 #[] #[{ accessFlags := 1, nameIndex := 5, descriptorIndex := 6, attributes := #[] }, { accessFlags := 10, nameIndex := 28, descriptorIndex := 29, attributes := #[] }, { accessFlags := 9, nameIndex := 33, descriptorIndex := 34, attributes := #[] }] 49 2 #[] #[])
  fields := #[]
  methods := #[k1m0, k1m1, k1m2]
  instanceTypes := #[]
  staticTypes := #[]
  resolved := Array.replicate 37 none
  statics := none }

def pool2 : Array CpInfo := pool [(1, .methodref 2 3), (0, .class_ 4), (0, .nameAndType 5 6), (0, u "java/lang/Object"), (0, u "<init>"), (0, u "()V"), (0, .class_ 8), (0, u "java/lang/Record")] 13

def k2c0 : Code := { maxStack := 1, maxLocals := 1, code := jdk_30_method_1_code, exceptionTable := #[], attributes := #[] }
def k2m0 : Method := { name := "<init>", desc := "()V", sig := { parameters := [], returnType := none }, accessFlags := 4, code := some k2c0 }
/-- java/lang/Record -/
def k2 : Class := { plain "java/lang/Record" (some 0) with
  accessFlags := 1057
  interfaces := #[]
  cf := some (fileOf pool2 7 #[] #[{ accessFlags := 4, nameIndex := 5, descriptorIndex := 6, attributes := #[] }] 1057 2 #[] #[])
  fields := #[]
  methods := #[k2m0]
  instanceTypes := #[]
  staticTypes := #[]
  resolved := Array.replicate 22 none
  statics := none }

def pool3 : Array CpInfo := pool [(3, .methodref 4 5), (0, .class_ 6), (0, .nameAndType 7 8), (0, u "java/lang/Record"), (0, u "<init>"), (0, u "()V"), (0, .fieldref 10 11), (0, .class_ 12), (0, .nameAndType 13 14), (0, u "com/example/headroom/headroom/Decision"), (0, u "admitted"), (0, u "Z"), (0, .fieldref 10 16), (0, .nameAndType 17 18), (0, u "limit"), (0, u "J"), (0, .fieldref 10 20), (0, .nameAndType 21 18), (0, u "remaining"), (0, .fieldref 10 23), (0, .nameAndType 24 18), (0, u "retryAfterMillis"), (0, .fieldref 10 26), (0, .nameAndType 27 18), (0, u "delayMillis"), (2, u "(ZJJJJ)V"), (0, .long 9223372036854775807), (1, .long 1000), (13, u "NEVER"), (6, u "retryAfterSeconds"), (0, u "()J")] 29

def k3c0 : Code := { maxStack := 3, maxLocals := 10, code := prog_10_method_1_code, exceptionTable := #[], attributes := #[] }
def k3m0 : Method := { name := "<init>", desc := "(ZJJJJ)V", sig := { parameters := [.boolean, .long, .long, .long, .long], returnType := none }, accessFlags := 1, code := some k3c0 }
def k3c1 : Code := { maxStack := 6, maxLocals := 1, code := prog_10_method_4_code, exceptionTable := #[], attributes := #[] }
def k3m1 : Method := { name := "retryAfterSeconds", desc := "()J", sig := { parameters := [], returnType := some .long }, accessFlags := 1, code := some k3c1 }
/-- com/example/headroom/headroom/Decision -/
def k3 : Class := { plain "com/example/headroom/headroom/Decision" (some 2) with
  accessFlags := 49
  interfaces := #[]
  cf := some (fileOf pool3 10 #[] #[{ accessFlags := 1, nameIndex := 7, descriptorIndex := 30, attributes := #[] }, { accessFlags := 1, nameIndex := 54, descriptorIndex := 55, attributes := #[] }] 49 4 #[] #[{ accessFlags := 18, nameIndex := 13, descriptorIndex := 14, attributes := #[] }, { accessFlags := 18, nameIndex := 17, descriptorIndex := 18, attributes := #[] }, { accessFlags := 18, nameIndex := 21, descriptorIndex := 18, attributes := #[] }, { accessFlags := 18, nameIndex := 24, descriptorIndex := 18, attributes := #[] }, { accessFlags := 18, nameIndex := 27, descriptorIndex := 18, attributes := #[] }, { accessFlags := 25, nameIndex := 47, descriptorIndex := 18, attributes := #[] }])
  fields := #[{ name := "admitted", type := .boolean, accessFlags := 18, slot := 0, constantValue := 0 }, { name := "limit", type := .long, accessFlags := 18, slot := 1, constantValue := 0 }, { name := "remaining", type := .long, accessFlags := 18, slot := 2, constantValue := 0 }, { name := "retryAfterMillis", type := .long, accessFlags := 18, slot := 3, constantValue := 0 }, { name := "delayMillis", type := .long, accessFlags := 18, slot := 4, constantValue := 0 }, { name := "NEVER", type := .long, accessFlags := 25, slot := 0, constantValue := 0 }]
  methods := #[k3m0, k3m1]
  instanceTypes := #[.boolean, .long, .long, .long, .long]
  staticTypes := #[.long]
  resolved := Array.replicate 85 none
  statics := none }

def pool4 : Array CpInfo := pool [(1, u "java/lang/Cloneable"), (0, .class_ 1), (0, u "java/lang/Object"), (0, .class_ 3)] 3

/-- java/lang/Cloneable -/
def k4 : Class := { plain "java/lang/Cloneable" (some 0) with
  accessFlags := 1537
  interfaces := #[]
  cf := some (fileOf pool4 2 #[] #[] 1537 4 #[] #[])
  fields := #[]
  methods := #[]
  instanceTypes := #[]
  staticTypes := #[]
  resolved := Array.replicate 8 none
  statics := none }

def pool5 : Array CpInfo := pool [(1, u "java/io/Serializable"), (0, .class_ 1), (0, u "java/lang/Object"), (0, .class_ 3)] 3

/-- java/io/Serializable -/
def k5 : Class := { plain "java/io/Serializable" (some 0) with
  accessFlags := 1537
  interfaces := #[]
  cf := some (fileOf pool5 2 #[] #[] 1537 4 #[] #[])
  fields := #[]
  methods := #[]
  instanceTypes := #[]
  staticTypes := #[]
  resolved := Array.replicate 8 none
  statics := none }

/-- the primitive byte -/
def k6 : Class := { plain "byte" none with kind := .primitive 'B', accessFlags := 0x411 }
/-- [B -/
def k7 : Class := { plain "[B" (some 0) with kind := .array 6 .byte, interfaces := #[4, 5], accessFlags := 1041 }

/-- the primitive int -/
def k8 : Class := { plain "int" none with kind := .primitive 'I', accessFlags := 0x411 }
/-- [I -/
def k9 : Class := { plain "[I" (some 0) with kind := .array 8 .int, interfaces := #[4, 5], accessFlags := 1041 }

def heap : Heap := #[]
def classes : Array Class := #[k0, k1, k2, k3, k4, k5, k6, k7, k8, k9]
def interned : List (Array UInt16 × Addr) := []
def slotsUsed : Nat := 0
def theMethod : MethodId := ⟨1, 2⟩
def args0 : Array Value := #[.int 5, .long 6, .long 7, .long 8, .long 9]
def aboutOver (below : List Frame) : State where
  vm := { classes := classes, interned := interned.toArray }
  heap := heap
  slotsUsed := slotsUsed
  threads := #[{ frames := .invoking theMethod args0 :: below }]
def below0 : List Frame := [.native { method := ⟨0, 0⟩, args := #[] }]
def about1 : State := aboutOver below0
def p0 : Program := .bare "" "" ""
def e0 : Env := launch0.env 0 0 0
theorem w_frames : about1.frames = Frame.invoking theMethod args0 :: below0 := rfl
set_option maxRecDepth 65536 in
theorem w_args : argsFit about1.vm theMethod args0 = true := by decide +kernel
set_option maxRecDepth 65536 in
theorem w_heap : heapFits about1 = true := by decide +kernel
set_option maxRecDepth 65536 in
theorem w_runnable : about1.curStatus? = some .runnable := by decide +kernel
set_option maxRecDepth 65536 in
theorem w_alone : about1.alone = true := by decide +kernel
set_option maxRecDepth 65536 in
theorem w_named : about1.methodNamed? x = some theMethod := by decide +kernel
set_option maxRecDepth 65536 in
theorem w_hears : about1.hears theMethod below0 = true := by decide +kernel
set_option maxRecDepth 65536 in
theorem w_ripe : about1.ripe theMethod args0 below0 = true := by decide +kernel
theorem w_running : about1.status = .running := rfl
set_option maxRecDepth 65536 in
theorem w_room : about1.hasRoom e0.platform room_1 = true :=
  launch0.hasRoom_least _ room_1 (by decide +kernel) (by decide +kernel) (by decide +kernel) (by decide +kernel) (by decide +kernel) (by decide +kernel)
theorem allAtoms_all (ts : List Jvm.Cond) (a : Array Jvm.Value) (st : Jvm.State) : (allAtoms ts).before a st = ts.all (fun c => c.before a st) := by
  induction ts with
  | nil => rfl
  | cons c t ih =>
    show (Jvm.Cond.and c (allAtoms t)).before a st = _
    rw [Jvm.Cond.before_and, ih, List.all_cons]
def words1 : List Jvm.Cond := Jvm.Cond.code x code maxLocals ret :: tables_1
/-- a 'code' word, met by the world's own term for the bytes: nothing is compared byte by byte -/
theorem code_word {y : MethodName} {bytes : ByteArray} {mx : Nat} {rt : Option FieldType} {a : Array Value} {s : State} {m : MethodId} {meth : Method} {c : Code} (h1 : s.methodNamed? y = some m) (h2 : s.vm.method? m = some meth) (h3 : meth.code = some c) (h4 : c.code = bytes)
    (h5 : (c.maxLocals == mx && c.exceptionTable.isEmpty && decide (c.maxStack ≤ mostOperands) && decide (meth.sig.returnType = rt) && !meth.locks && decide (parseMethodDescriptor y.desc = some meth.sig)) = true) : (Jvm.Cond.code y bytes mx rt).before a s = true := by
  simp only [Bool.and_eq_true, beq_iff_eq, Bool.not_eq_true', decide_eq_true_eq] at h5
  obtain ⟨⟨⟨⟨⟨g1, g2⟩, g3⟩, g4⟩, g5⟩, g6⟩ := h5
  simp [Cond.before, Cond.holds, Cond.value, h1, h2, h3, h4, g1, g2, g3, g4, g5, g6]
def isCode : Jvm.Cond → Bool
  | .code _ _ _ _ => true
  | _ => false
theorem all_split {L : List Jvm.Cond} {P : Jvm.Cond → Bool} (h1 : L.all (fun c => isCode c || P c) = true) (h2 : ∀ c ∈ L.filter isCode, P c = true) : L.all P = true := by
  refine List.all_eq_true.mpr fun c hc => ?_
  have h := List.all_eq_true.mp h1 c hc
  rcases Bool.eq_false_or_eq_true (isCode c) with hi | hi
  · exact h2 c (List.mem_filter.mpr ⟨hc, hi⟩)
  · simpa [hi] using h
set_option maxRecDepth 65536 in
theorem w_c0 : (Jvm.Cond.code x code maxLocals ret).before args0 about1 = true := code_word (m := ⟨1, 2⟩) (meth := k1m2) (c := k1c2) (by decide +kernel) rfl rfl rfl (by decide +kernel)
set_option maxRecDepth 65536 in
theorem w_c1 : (Jvm.Cond.code ({ cls := "com/example/headroom/headroom/Decision", name := "<init>", desc := "(ZJJJJ)V" } : Jvm.MethodName) prog_10_method_1_code (10 : Nat) (Option.none : Option Jvm.ClassFile.FieldType)).before args0 about1 = true := code_word (m := ⟨3, 0⟩) (meth := k3m0) (c := k3c0) (by decide +kernel) rfl rfl rfl (by decide +kernel)
set_option maxRecDepth 65536 in
theorem w_c2 : (Jvm.Cond.code ({ cls := "java/lang/Record", name := "<init>", desc := "()V" } : Jvm.MethodName) jdk_30_method_1_code (1 : Nat) (Option.none : Option Jvm.ClassFile.FieldType)).before args0 about1 = true := code_word (m := ⟨2, 0⟩) (meth := k2m0) (c := k2c0) (by decide +kernel) rfl rfl rfl (by decide +kernel)
set_option maxRecDepth 65536 in
theorem w_c3 : (Jvm.Cond.code ({ cls := "java/lang/Object", name := "<init>", desc := "()V" } : Jvm.MethodName) object_method_1_code (1 : Nat) (Option.none : Option Jvm.ClassFile.FieldType)).before args0 about1 = true := code_word (m := ⟨0, 0⟩) (meth := k0m0) (c := k0c0) (by decide +kernel) rfl rfl rfl (by decide +kernel)
set_option maxRecDepth 65536 in
theorem w_c4 : (Jvm.Cond.code ({ cls := "com/example/headroom/headroom/Decision", name := "retryAfterSeconds", desc := "()J" } : Jvm.MethodName) prog_10_method_4_code (1 : Nat) (Option.some Jvm.ClassFile.FieldType.long)).before args0 about1 = true := code_word (m := ⟨3, 1⟩) (meth := k3m1) (c := k3c1) (by decide +kernel) rfl rfl rfl (by decide +kernel)
set_option maxRecDepth 65536 in
theorem w_c5 : (Jvm.Cond.code ({ cls := "com/example/headroom/headroom/DecisionRetryAfterSecondsPinLaw", name := "expectedSeconds", desc := "(J)J" } : Jvm.MethodName) method_2_code (2 : Nat) (Option.some Jvm.ClassFile.FieldType.long)).before args0 about1 = true := code_word (m := ⟨1, 1⟩) (meth := k1m1) (c := k1c1) (by decide +kernel) rfl rfl rfl (by decide +kernel)
def codes1 : List Jvm.Cond := [Jvm.Cond.code x code maxLocals ret, Jvm.Cond.code ({ cls := "com/example/headroom/headroom/Decision", name := "<init>", desc := "(ZJJJJ)V" } : Jvm.MethodName) prog_10_method_1_code (10 : Nat) (Option.none : Option Jvm.ClassFile.FieldType), Jvm.Cond.code ({ cls := "java/lang/Record", name := "<init>", desc := "()V" } : Jvm.MethodName) jdk_30_method_1_code (1 : Nat) (Option.none : Option Jvm.ClassFile.FieldType), Jvm.Cond.code ({ cls := "java/lang/Object", name := "<init>", desc := "()V" } : Jvm.MethodName) object_method_1_code (1 : Nat) (Option.none : Option Jvm.ClassFile.FieldType), Jvm.Cond.code ({ cls := "com/example/headroom/headroom/Decision", name := "retryAfterSeconds", desc := "()J" } : Jvm.MethodName) prog_10_method_4_code (1 : Nat) (Option.some Jvm.ClassFile.FieldType.long), Jvm.Cond.code ({ cls := "com/example/headroom/headroom/DecisionRetryAfterSecondsPinLaw", name := "expectedSeconds", desc := "(J)J" } : Jvm.MethodName) method_2_code (2 : Nat) (Option.some Jvm.ClassFile.FieldType.long)]
set_option maxRecDepth 65536 in
theorem codes_eq : words1.filter isCode = codes1 := rfl
theorem w_codes : ∀ c ∈ words1.filter isCode, c.before args0 about1 = true := by
  rw [codes_eq]
  intro c hc
  simp only [codes1, List.mem_cons, List.not_mem_nil, or_false] at hc
  rcases hc with rfl | rfl | rfl | rfl | rfl | rfl
  · exact w_c0
  · exact w_c1
  · exact w_c2
  · exact w_c3
  · exact w_c4
  · exact w_c5
set_option maxRecDepth 65536 in
theorem w_t1 : (words1.take 24).all (fun c => isCode c || c.before args0 about1) = true := by decide +kernel
set_option maxRecDepth 65536 in
theorem w_t2 : (words1.drop 24).all (fun c => isCode c || c.before args0 about1) = true := by decide +kernel
theorem w_tables : (allAtoms (Jvm.Cond.code x code maxLocals ret :: tables_1)).before args0 about1 = true := by
  rw [allAtoms_all]
  show words1.all (fun c => c.before args0 about1) = true
  refine all_split ?_ w_codes
  rw [← List.take_append_drop 24 words1, List.all_append, w_t1, w_t2]
  rfl
set_option maxRecDepth 65536 in
theorem w_case : (Jvm.Cond.and given_1 narrow_1).before args0 about1 = true := by decide +kernel
theorem w_applies : (headSpec (Jvm.Cond.code x code maxLocals ret :: tables_1) room_1).applies x e0.platform about1 = true :=
  (Spec.applies_iff w_frames).mpr ⟨w_running, w_runnable, w_alone, w_named, w_hears, w_ripe, w_room, w_tables⟩
theorem atStart : AtStart classFile x code maxLocals ret World_1 tables_1 room_1 Calls_1 rest_1 Pre_1 launch0 p0 e0 about1 theMethod args0 below0 :=
  ⟨lists_1, trivial, launch0.admits_env _ _ _, launch0.least_env, fairChoices_fair.cas, fairChoices_fair.clock, w_frames, w_args, w_heap, w_applies, trivial, trivial, w_case⟩
end start1
theorem witness_1 : WitnessClaimed_1 := ⟨start1.p0, start1.e0, start1.about1, start1.theMethod, start1.args0, start1.below0, start1.atStart⟩
end Jvm.Pilot.@@N@@
