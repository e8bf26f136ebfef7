import JvmDerived
import JvmDerived.Pilot.@@N@@Statement
import JvmDerived.Pilot.@@N@@Code
set_option linter.unusedVariables false
set_option linter.unusedSimpArgs false
namespace Jvm.Pilot.@@N@@
open Jvm Jvm.ClassFile Sem Op Lib Jvm.Free Jvm.Stand Jvm.LawKit Jvm.RoadKit Bundle Jvm.Pilot.@@N@@.Jvm.D
/-! own_Go: from t the run comes to a state where G holds. A walk is written backwards from the goal, so that a case split may stand anywhere. -/
def own_Go (p : Program) (e : Env) (below : List Frame) (G : State → Prop) (t : State) : Prop := ∃ u, Steps p.tables e below t u ∧ G u
theorem own_st {p : Program} {e : Env} {below : List Frame} {G : State → Prop} {t u : State} (f : ∀ w, Steps p.tables e below u w → Steps p.tables e below t w) (k : own_Go p e below G u) : own_Go p e below G t := by
  obtain ⟨w, s, g⟩ := k
  exact ⟨w, f w s, g⟩
theorem own_jp {p : Program} {e : Env} {below : List Frame} {G : State → Prop} {t u : State} (f : Steps p.tables e below t u) (k : own_Go p e below G u) : own_Go p e below G t := by
  obtain ⟨w, s, g⟩ := k
  exact ⟨w, f.trans s, g⟩
theorem own_out {p : Program} {e : Env} {below : List Frame} {t : State} {Q : Outcome → State → Prop} (k : own_Go p e below (fun u => ∃ o, u.status = .running ∧ Ended u below o ∧ Q o u) t) : ∃ s₂ o, Steps p.tables e below t s₂ ∧ s₂.status = .running ∧ Ended s₂ below o ∧ Q o s₂ := by
  obtain ⟨w, s, o, g⟩ := k
  exact ⟨w, o, s, g⟩
theorem own_nm {p : Program} {e : Env} {below : List Frame} {G0 : State → Prop} {t : State} (k : ∀ G, G = G0 → own_Go p e below G t) : own_Go p e below G0 t := k _ rfl
theorem own_tll {x y : Int64} (h : x < y) : lcmpW x y < 0 := (lw_lt x y).mpr h
theorem own_fll {x y : Int64} (h : ¬ x < y) : ¬ lcmpW x y < 0 := fun q => h ((lw_lt x y).mp q)
theorem own_tlg {x y : Int64} (h : y < x) : 0 < lcmpW x y := (lw_gt x y).mpr h
theorem own_flg {x y : Int64} (h : ¬ y < x) : ¬ 0 < lcmpW x y := fun q => h ((lw_gt x y).mp q)
theorem own_tle {x y : Int64} (h : x = y) : lcmpW x y = 0 := (lw_eq x y).mpr h
theorem own_fle {x y : Int64} (h : ¬ x = y) : ¬ lcmpW x y = 0 := fun q => h ((lw_eq x y).mp q)
section Own
variable {p : Program} {l : Launch} {e : Env} {R : Room} {s : State} {m : MethodId} {args : Array Value} {below : List Frame} {meth : Method} {c : Code} {T : State} {locs : List Loc} {cells slots : Nat} {Z : State} {h h' : Heap} {a b : Addr} {ty : FieldType} {vs : List Value} {v : Value}
theorem own_retI (X : Stand p l e R s m args below meth c T locs cells slots) (hx : p.tables.exec = Jvm.exec) {pc : Nat} {Ls : Array Slot} {z : Int32} {rest : List Value} (hret : meth.sig.returnType = some .int) (hd : decode c.code pc = .ok (.ireturn, 1)) {fs : List Frame}
    (hl : ∀ (f : JFrame) (acts : List Action), f.method = m → f.locked = none → f.entered = [] → (doReturn e (T.setTop f) acts (some (.int z))).1 = T.setFrames fs) : Steps p.tables e below (T.setTop (mkF m pc Ls (.int z :: rest))) (T.setFrames fs) :=
  retOut X hx hret rfl (Or.inl ⟨rfl, Or.inl rfl, z, rfl⟩) hd hl
theorem own_retJ (X : Stand p l e R s m args below meth c T locs cells slots) (hx : p.tables.exec = Jvm.exec) {pc : Nat} {Ls : Array Slot} {z : Int64} {rest : List Value} (hret : meth.sig.returnType = some .long) (hd : decode c.code pc = .ok (.lreturn, 1)) {fs : List Frame}
    (hl : ∀ (f : JFrame) (acts : List Action), f.method = m → f.locked = none → f.entered = [] → (doReturn e (T.setTop f) acts (some (.long z))).1 = T.setFrames fs) : Steps p.tables e below (T.setTop (mkF m pc Ls (.long z :: rest))) (T.setFrames fs) :=
  retOut X hx hret rfl (Or.inr (Or.inl ⟨rfl, rfl, z, rfl⟩)) hd hl
/-! own_L: the array at a holds just the list vs -/
def own_L (Z : State) (h : Heap) (a : Addr) (ty : FieldType) (vs : List Value) : Prop := ∃ cl : Cell, Arr Z h a cl ty ∧ cl.slots = vs.toArray
theorem own_L.lt (F : own_L Z h a ty vs) : a < h.size := by obtain ⟨cl, A, -⟩ := F; exact A.lt
theorem own_L.ext (F : own_L Z h a ty vs) (E : Ext h h') : own_L Z h' a ty vs := by obtain ⟨cl, A, q⟩ := F; exact ⟨cl, A.ext E, q⟩
theorem own_L.other {sl : Nat} (F : own_L Z h b ty vs) (W : Wr h h' a sl v) (q : b ≠ a) : own_L Z h' b ty vs := by obtain ⟨cl, A, r⟩ := F; exact ⟨cl, A.other W q, r⟩
theorem own_L.keep {ws : List Addr} (F : own_L Z h a ty vs) (K : Keep h h' ws) (q : a ∉ ws) : own_L Z h' a ty vs := by obtain ⟨cl, A, r⟩ := F; exact ⟨cl, ⟨K.2.1 a cl A.1 q, A.2⟩, r⟩
theorem own_L.new {k : ClassId} {z : Int32} (A : Arr Z h a (newA k ty z) ty) : own_L Z h a ty (List.replicate z.toNatClampNeg (defaultValue ty)) := ⟨_, A, by simp [newA]⟩
theorem own_L.same {k : Nat} (F : own_L Z h a ty vs) (W : Wr h h' a k v) : own_L Z h' a ty (vs.set k v) := by
  obtain ⟨cl, A, q⟩ := F
  exact ⟨_, A.same W, by simp [Cell.setSlot, q]⟩
theorem own_in {cl : Cell} {j : Int32} (q : cl.slots = vs.toArray) (h1 : ¬ j < 0) (h2 : j.toNatClampNeg < vs.length) : ¬ (j < 0 ∨ cl.slots.size ≤ j.toNatClampNeg) := by
  rw [q]
  rintro (r | r)
  · exact h1 r
  · simp at r; omega
theorem own_at {cl : Cell} {k : Nat} (q : cl.slots = vs.toArray) (hv : vs[k]? = some v) : cl.slots[k]? = some v := by rw [q]; simpa using hv
theorem own_lt {k : Nat} (hv : vs[k]? = some v) : k < vs.length := by
  obtain ⟨q, -⟩ := List.getElem?_eq_some_iff.mp hv
  exact q
theorem own_bld (X : Stand p l e R s m args below meth c T locs cells slots) (hx : p.tables.exec = Jvm.exec) (hZ : Z.Warmed39 s.vm) (eT : T.heap = h) (F : own_L Z h a .byte vs) {j : Int32} {i : Nat} (h1 : ¬ j < 0) (hi : j.toNatClampNeg = i) (hv : vs[i]? = some v) {g : JFrame} (hg : g.method = m) {rest : List Value} (hs : g.stack = .int j :: .ref a :: rest) (hd : decode c.code g.pc = .ok (.baload, 1)) :
    ∀ target, Steps p.tables e below (T.setTop { g with pc := g.pc + 1, stack := v :: rest }) target → Steps p.tables e below (T.setTop g) target := by
  obtain ⟨cl, A, q⟩ := F
  subst hi
  exact X.baloadBytes hx (by rw [eT]; exact A.1) (State.isArrayOf_alike hZ.alike A.2.1) A.2.2 (own_in q h1 (own_lt hv)) (own_at q hv) hg hs hd
theorem own_jld (X : Stand p l e R s m args below meth c T locs cells slots) (hx : p.tables.exec = Jvm.exec) (hZ : Z.Warmed39 s.vm) (eT : T.heap = h) (F : own_L Z h a .long vs) {j : Int32} {i : Nat} (h1 : ¬ j < 0) (hi : j.toNatClampNeg = i) (hv : vs[i]? = some v) {g : JFrame} (hg : g.method = m) {rest : List Value} (hs : g.stack = .int j :: .ref a :: rest) (hd : decode c.code g.pc = .ok (.laload, 1)) :
    ∀ target, Steps p.tables e below (T.setTop { g with pc := g.pc + 1, stack := v :: rest }) target → Steps p.tables e below (T.setTop g) target := by
  obtain ⟨cl, A, q⟩ := F
  subst hi
  exact X.laload hx (by rw [eT]; exact A.1) (State.isArrayOf_alike hZ.alike A.2.1) A.2.2 (own_in q h1 (own_lt hv)) (own_at q hv) hg hs hd
theorem own_ild (X : Stand p l e R s m args below meth c T locs cells slots) (hx : p.tables.exec = Jvm.exec) (hZ : Z.Warmed39 s.vm) (eT : T.heap = h) (F : own_L Z h a .int vs) {j : Int32} {i : Nat} (h1 : ¬ j < 0) (hi : j.toNatClampNeg = i) (hv : vs[i]? = some v) {g : JFrame} (hg : g.method = m) {rest : List Value} (hs : g.stack = .int j :: .ref a :: rest) (hd : decode c.code g.pc = .ok (.iaload, 1)) :
    ∀ target, Steps p.tables e below (T.setTop { g with pc := g.pc + 1, stack := v :: rest }) target → Steps p.tables e below (T.setTop g) target := by
  obtain ⟨cl, A, q⟩ := F
  subst hi
  exact X.iaload hx (by rw [eT]; exact A.1) (State.isArrayOf_alike hZ.alike A.2.1) A.2.2 (own_in q h1 (own_lt hv)) (own_at q hv) hg hs hd
theorem own_zld (X : Stand p l e R s m args below meth c T locs cells slots) (hx : p.tables.exec = Jvm.exec) (hZ : Z.Warmed39 s.vm) (eT : T.heap = h) (F : own_L Z h a .boolean vs) {j : Int32} {i : Nat} (h1 : ¬ j < 0) (hi : j.toNatClampNeg = i) (hv : vs[i]? = some v) {g : JFrame} (hg : g.method = m) {rest : List Value} (hs : g.stack = .int j :: .ref a :: rest) (hd : decode c.code g.pc = .ok (.baload, 1)) :
    ∀ target, Steps p.tables e below (T.setTop { g with pc := g.pc + 1, stack := v :: rest }) target → Steps p.tables e below (T.setTop g) target := by
  obtain ⟨cl, A, q⟩ := F
  subst hi
  exact X.baloadBooleans hx (by rw [eT]; exact A.1) (State.isArrayOf_alike hZ.alike A.2.1) A.2.2 (own_in q h1 (own_lt hv)) (own_at q hv) hg hs hd
theorem own_len (X : Stand p l e R s m args below meth c T locs cells slots) (hx : p.tables.exec = Jvm.exec) (hZ : Z.Warmed39 s.vm) (eT : T.heap = h) (F : own_L Z h a ty vs) {z : Int32} (hz : vs.length.toInt32 = z) {g : JFrame} (hg : g.method = m) {rest : List Value} (hs : g.stack = .ref a :: rest) (hd : decode c.code g.pc = .ok (.arraylength, 1)) :
    ∀ target, Steps p.tables e below (T.setTop { g with pc := g.pc + 1, stack := .int z :: rest }) target → Steps p.tables e below (T.setTop g) target := by
  obtain ⟨cl, A, q⟩ := F
  intro w k
  refine X.arraylength hx (by rw [eT]; exact A.1) (State.isArrayOf_alike hZ.alike A.2.1) hg hs hd w ?_
  have q2 : cl.slots.size.toInt32 = z := by rw [← hz, q]; simp
  rw [q2]; exact k
theorem own_bst (X : Stand p l e R s m args below meth c T locs cells slots) (hx : p.tables.exec = Jvm.exec) (hZ : Z.Warmed39 s.vm) (eT : T.heap = h) (F : own_L Z h a .byte vs) {j x : Int32} (i : Nat) (h1 : ¬ j < 0) (hi : j.toNatClampNeg = i) (h2 : i < vs.length) {g : JFrame} (hg : g.method = m) {rest : List Value} (hs : g.stack = .int x :: .int j :: .ref a :: rest) (hd : decode c.code g.pc = .ok (.bastore, 1)) :
    ∃ T' h', Stand p l e R s m args below meth c T' (locs ++ [⟨a, i⟩]) cells slots ∧ T'.heap = h' ∧ Wr h h' a i (.int x.toInt8.toInt32) ∧ own_L Z h' a .byte (vs.set i (.int x.toInt8.toInt32)) ∧ ∀ target, Steps p.tables e below (T'.setTop { g with pc := g.pc + 1, stack := rest }) target → Steps p.tables e below (T.setTop g) target := by
  obtain ⟨cl, A, q⟩ := F
  subst hi
  obtain ⟨T', h', X', e', W, st⟩ := stB X hx hZ eT A (own_in q h1 h2) hg hs hd
  exact ⟨T', h', X', e', W, own_L.same ⟨cl, A, q⟩ W, st⟩
theorem own_zst (X : Stand p l e R s m args below meth c T locs cells slots) (hx : p.tables.exec = Jvm.exec) (hZ : Z.Warmed39 s.vm) (eT : T.heap = h) (F : own_L Z h a .boolean vs) {j x : Int32} (i : Nat) (h1 : ¬ j < 0) (hi : j.toNatClampNeg = i) (h2 : i < vs.length) {g : JFrame} (hg : g.method = m) {rest : List Value} (hs : g.stack = .int x :: .int j :: .ref a :: rest) (hd : decode c.code g.pc = .ok (.bastore, 1)) :
    ∃ T' h', Stand p l e R s m args below meth c T' (locs ++ [⟨a, i⟩]) cells slots ∧ T'.heap = h' ∧ Wr h h' a i (.int (x &&& 1)) ∧ own_L Z h' a .boolean (vs.set i (.int (x &&& 1))) ∧ ∀ target, Steps p.tables e below (T'.setTop { g with pc := g.pc + 1, stack := rest }) target → Steps p.tables e below (T.setTop g) target := by
  obtain ⟨cl, A, q⟩ := F
  subst hi
  obtain ⟨T', h', X', e', W, st⟩ := stZ X hx hZ eT A (own_in q h1 h2) hg hs hd
  exact ⟨T', h', X', e', W, own_L.same ⟨cl, A, q⟩ W, st⟩
theorem own_jst (X : Stand p l e R s m args below meth c T locs cells slots) (hx : p.tables.exec = Jvm.exec) (hZ : Z.Warmed39 s.vm) (eT : T.heap = h) (F : own_L Z h a .long vs) {j : Int32} {x : Int64} (i : Nat) (h1 : ¬ j < 0) (hi : j.toNatClampNeg = i) (h2 : i < vs.length) {g : JFrame} (hg : g.method = m) {rest : List Value} (hs : g.stack = .long x :: .int j :: .ref a :: rest) (hd : decode c.code g.pc = .ok (.lastore, 1)) :
    ∃ T' h', Stand p l e R s m args below meth c T' (locs ++ [⟨a, i⟩]) cells slots ∧ T'.heap = h' ∧ Wr h h' a i (.long x) ∧ own_L Z h' a .long (vs.set i (.long x)) ∧ ∀ target, Steps p.tables e below (T'.setTop { g with pc := g.pc + 1, stack := rest }) target → Steps p.tables e below (T.setTop g) target := by
  obtain ⟨cl, A, q⟩ := F
  subst hi
  obtain ⟨T', h', X', e', W, st⟩ := stJ X hx hZ eT A (own_in q h1 h2) hg hs hd
  exact ⟨T', h', X', e', W, own_L.same ⟨cl, A, q⟩ W, st⟩
theorem own_ist (X : Stand p l e R s m args below meth c T locs cells slots) (hx : p.tables.exec = Jvm.exec) (hZ : Z.Warmed39 s.vm) (eT : T.heap = h) (F : own_L Z h a .int vs) {j x : Int32} (i : Nat) (h1 : ¬ j < 0) (hi : j.toNatClampNeg = i) (h2 : i < vs.length) {g : JFrame} (hg : g.method = m) {rest : List Value} (hs : g.stack = .int x :: .int j :: .ref a :: rest) (hd : decode c.code g.pc = .ok (.iastore, 1)) :
    ∃ T' h', Stand p l e R s m args below meth c T' (locs ++ [⟨a, i⟩]) cells slots ∧ T'.heap = h' ∧ Wr h h' a i (.int x) ∧ own_L Z h' a .int (vs.set i (.int x)) ∧ ∀ target, Steps p.tables e below (T'.setTop { g with pc := g.pc + 1, stack := rest }) target → Steps p.tables e below (T.setTop g) target := by
  obtain ⟨cl, A, q⟩ := F
  subst hi
  obtain ⟨T', h', X', e', W, st⟩ := stI X hx hZ eT A (own_in q h1 h2) hg hs hd
  exact ⟨T', h', X', e', W, own_L.same ⟨cl, A, q⟩ W, st⟩
theorem own_clone (X : Stand p l e R s m args below meth c T locs cells slots) (hx : p.tables.exec = Jvm.exec) (hZ : Z.Warmed39 s.vm) {a0 : Array Value} {own ad : String} {index : Nat} (hown : s.vm.findClass own = some m.cls)
    (w1 : (Cond.methodLink own index ⟨ad, "clone", "()Ljava/lang/Object;"⟩).before a0 Z = true) (w2 : (Cond.sameMethod ad "java/lang/Object" "clone" "()Ljava/lang/Object;").before a0 Z = true) (w3 : (Cond.native ⟨"java/lang/Object", "clone", "()Ljava/lang/Object;"⟩).before a0 Z = true)
    (w4 : (Cond.instanceMethod ⟨"java/lang/Object", "clone", "()Ljava/lang/Object;"⟩).before a0 Z = true) (w5 : (Cond.selects ad ⟨ad, "clone", "()Ljava/lang/Object;"⟩ ⟨"java/lang/Object", "clone", "()Ljava/lang/Object;"⟩).before a0 Z = true) (w6 : (Cond.castable ad "java/lang/Cloneable").before a0 Z = true)
    (eT : T.heap = h) (F : own_L Z h a ty vs) (E : Exa Z h a ad) (hfit : ∀ v ∈ vs, fits ty v = true) {g : JFrame} (hg : g.method = m) (hsize : g.locals.size = c.maxLocals) {rest : List Value} (hs : g.stack = .ref a :: rest) (hd : decode c.code g.pc = .ok (.invokevirtual index, 3))
    (hf : 1 ≤ R.frames) {W cap : Nat} (hW : 2 * g.monitorRoom + (rest.map fun v => v.category).sum ≤ W) (hl : W + 14 ≤ R.locals) (hcap : vs.length ≤ cap) (hc : cells + 1 ≤ R.cells) (hsl : slots + cap ≤ R.slots) :
    ∃ T' h', Stand p l e R s m args below meth c T' locs (cells + 1) (slots + cap) ∧ T'.heap = h' ∧ Ext h h' ∧ own_L Z h' h.size ty vs ∧ Exa Z h' h.size ad ∧
      ∀ target, Steps p.tables e below (T'.setTop { g with pc := g.pc + 3, stack := .ref h.size :: rest }) target → Steps p.tables e below (T.setTop g) target := by
  obtain ⟨cl, A, q⟩ := F
  have FC : FitC Z cl := fitC_of A fun i hi v hv => hfit v (by
    rw [q] at hv
    exact List.mem_of_getElem? (by simpa using hv))
  obtain ⟨T', h', X', e', ex, A', E', st⟩ := cloneA X hx hZ hown w1 w2 w3 w4 w5 w6 eT A E FC hg hsize hs hd hf hW hl (by rw [q]; simpa using hcap) hc hsl
  exact ⟨T', h', X', e', ex, ⟨cloneOf cl, A', q⟩, E', st⟩
end Own
theorem pn_0 : plainName "com/example/netz/netz/net/SparseVectorIsNonNegativePinLaw" = true := by first | (simp [plainName, overriddenIn]; done) | decide +kernel
theorem d1_0 : decode method_2_code 0 = .ok (.lload_n 0, 1) := by decide +kernel
theorem d1_1 : decode method_2_code 1 = .ok (.lconst 0, 1) := by decide +kernel
theorem d1_2 : decode method_2_code 2 = .ok (.lcmp, 1) := by decide +kernel
theorem d1_3 : decode method_2_code 3 = .ok (.ifCond .ne 7, 3) := by decide +kernel
theorem d1_6 : decode method_2_code 6 = .ok (.lconst 1, 1) := by decide +kernel
theorem d1_7 : decode method_2_code 7 = .ok (.goto 4, 3) := by decide +kernel
theorem d1_10 : decode method_2_code 10 = .ok (.lload_n 0, 1) := by decide +kernel
theorem d1_11 : decode method_2_code 11 = .ok (.lreturn, 1) := by decide +kernel
theorem ef_rm1 (m : MethodId) (u : Int64) : entryFrame m #[(.long u)] 2 = mkF m 0 #[.val (.long u), .second] [] := by first | (simp [entryFrame, mkF, argsToLocals, Value.category]; done) | rfl
def own_nz (u : Int64) : Int64 := (if u = (0 : Int64) then (1 : Int64) else u)
def Q1 (Z : State) (u : Int64) (h0 : Heap) (n0 : Nat) (rv : Option Value) (hq : Heap) (Lq : List Loc) : Prop := rv = some (.long (own_nz u)) ∧ Fr n0 Lq ∧ hq = h0
set_option maxRecDepth 65536 in
set_option maxHeartbeats 40000000 in
theorem rm1 (l : Launch) (Z : State) (a0 : Array Value) (hw : ∀ d ∈ tables_1, d.before a0 Z = true) (ws : List Jvm.Cond) (u : Int64) (h0 : Heap) (n0 : Nat) (Z0 : n0 ≤ h0.size) :
    MetFree l (⟨"com/example/netz/netz/net/SparseVectorIsNonNegativePinLaw", "nonZero", "(J)J"⟩ : MethodName) (head1 (Jvm.Cond.code (⟨"com/example/netz/netz/net/SparseVectorIsNonNegativePinLaw", "nonZero", "(J)J"⟩ : MethodName) method_2_code 2 (some .long) :: ws) ({ frames := 0, cells := 0, slots := 0, locals := 0 } : Room)) (fun za U => za = #[(.long u)] ∧ Z.Warmed39 U.vm ∧ U.heap = h0) (fun _ _ _ _ _ => True) (fun _ U o U' => ∃ rv Lq, o = .returned rv ∧ Q1 Z u h0 n0 rv U'.heap Lq ∧ FrameEnd U o U' Lq ({ frames := 0, cells := 0, slots := 0, locals := 0 } : Room).cells ({ frames := 0, cells := 0, slots := 0, locals := 0 } : Room).slots) := by
  refine MetFree.of_bodySF (plainFor_of_name pn_0) hisR ?_
  intro p e s m args below meth c s₁ Bd hml0 hP hK
  obtain ⟨rfl, hZ, hh⟩ := hP
  have hx := Bd.exec
  have hby := Bd.bytes
  have hml : c.maxLocals = 2 := hml0
  have hown : s.vm.findClass "com/example/netz/netz/net/SparseVectorIsNonNegativePinLaw" = some m.cls := findClass_of_methodNamed Bd.named
  have hnm := (name_of_methodNamed Bd.named Bd.method).1
  have X0 : Stand p l e ({ frames := 0, cells := 0, slots := 0, locals := 0 } : Room) s m #[(.long u)] below meth c s₁ [] 0 0 := Stand.of_body Bd
  have e0 : s₁.heap = h0 := by rw [← hh, Bd.state]; rfl
  have N0 := Fr.nil n0
  refine own_out (own_nm fun G hG => own_st (fun zt zk => castTop (ef_rm1 m u) zk) ?_)
  show own_Go p e below G (s₁.setTop (mkF m 0 #[.val (.long u), .second] []))
  refine own_st (fun zw zk => XS.lloadN X0.here hx rfl (hb hby d1_0) rfl zk) ?_
  refine own_st (fun zw zk => XS.lconst X0.here hx rfl (hb hby d1_1) zk) ?_
  refine own_st (fun zw zk => XS.lcmp X0.here hx rfl (hb hby d1_2) rfl zk) ?_
  by_cases hc3 : u = (0 : Int64)
  · refine own_st (fun zw zk => XS.ifNo X0.here hx rfl (hb hby d1_3) rfl ((if0 _ _).trans (teq (own_tle hc3)).2) zk) ?_
    refine own_st (fun zw zk => XS.lconst X0.here hx rfl (hb hby d1_6) zk) ?_
    refine own_st (fun zw zk => XS.goto X0.here hx rfl (pc0 := 7) (pc' := 11) rfl (hb hby d1_7) (by decide) (by decide) zk) ?_
    show own_Go p e below G (s₁.setTop (mkF m 11 #[.val (.long u), .second] [(.long (1 : Int64))]))
    subst hG
    obtain ⟨fs, hr, hrun, hended, hW, hsame⟩ := X0.leave (v := some (.long (1 : Int64))) (fun h => by rw [Bd.returns] at h; cases h)
    refine ⟨_, own_retJ X0 hx Bd.returns (hb hby d1_11) hr, _, hrun, hended, _, _, rfl, ?_, ⟨_, rfl⟩, hW, hsame.mono (by decide) (by decide)⟩
    show Q1 Z u h0 n0 _ s₁.heap _
    rw [e0]
    exact ⟨by unfold own_nz; rw [if_pos hc3], N0, rfl⟩
  · refine own_st (fun zw zk => XS.ifYes X0.here hx rfl (pc0 := 3) (pc' := 10) rfl (hb hby d1_3) rfl ((if0 _ _).trans (feq (own_fle hc3)).2) (by decide) (by decide) zk) ?_
    refine own_st (fun zw zk => XS.lloadN X0.here hx rfl (hb hby d1_10) rfl zk) ?_
    subst hG
    obtain ⟨fs, hr, hrun, hended, hW, hsame⟩ := X0.leave (v := some (.long u)) (fun h => by rw [Bd.returns] at h; cases h)
    refine ⟨_, own_retJ X0 hx Bd.returns (hb hby d1_11) hr, _, hrun, hended, _, _, rfl, ?_, ⟨_, rfl⟩, hW, hsame.mono (by decide) (by decide)⟩
    show Q1 Z u h0 n0 _ s₁.heap _
    rw [e0]
    exact ⟨by unfold own_nz; rw [if_neg hc3], N0, rfl⟩
theorem pn_1 : plainName "com/example/netz/netz/net/SparseVector" = true := by first | (simp [plainName, overriddenIn]; done) | decide +kernel
theorem d2_0 : decode prog_42_method_1_code 0 = .ok (.aload_n 0, 1) := by decide +kernel
theorem d2_1 : decode prog_42_method_1_code 1 = .ok (.invokespecial 1, 3) := by decide +kernel
theorem d2_4 : decode prog_42_method_1_code 4 = .ok (.aload_n 0, 1) := by decide +kernel
theorem d2_5 : decode prog_42_method_1_code 5 = .ok (.aload_n 1, 1) := by decide +kernel
theorem d2_6 : decode prog_42_method_1_code 6 = .ok (.putfield 7, 3) := by decide +kernel
theorem d2_9 : decode prog_42_method_1_code 9 = .ok (.aload_n 0, 1) := by decide +kernel
theorem d2_10 : decode prog_42_method_1_code 10 = .ok (.aload_n 2, 1) := by decide +kernel
theorem d2_11 : decode prog_42_method_1_code 11 = .ok (.putfield 13, 3) := by decide +kernel
theorem d2_14 : decode prog_42_method_1_code 14 = .ok (.return_, 1) := by decide +kernel
theorem ef_rm2 (m : MethodId) (d : Addr) (i1 : Addr) (t2 : Addr) : entryFrame m #[(.ref d), (.ref i1), (.ref t2)] 3 = mkF m 0 #[.val (.ref d), .val (.ref i1), .val (.ref t2)] [] := by first | (simp [entryFrame, mkF, argsToLocals, Value.category]; done) | rfl
def Q2 (Z : State) (d : Addr) (i1 : Addr) (t2 : Addr) (h0 : Heap) (n0 : Nat) (rv : Option Value) (hq : Heap) (Lq : List Loc) : Prop := rv = none ∧ Fr n0 Lq ∧ Keep h0 hq [d] ∧ Exa Z hq d "com/example/netz/netz/net/SparseVector" ∧ Fld Z hq d "com/example/netz/netz/net/SparseVector" "indices" "[I" (.ref i1) ∧ Fld Z hq d "com/example/netz/netz/net/SparseVector" "values" "[J" (.ref t2)
set_option maxRecDepth 65536 in
set_option maxHeartbeats 40000000 in
theorem rm2 (l : Launch) (Z : State) (a0 : Array Value) (hw : ∀ d ∈ tables_1, d.before a0 Z = true) (ws : List Jvm.Cond) (d : Addr) (i1 : Addr) (t2 : Addr) (h0 : Heap) (n0 : Nat) (Z0 : n0 ≤ h0.size) (F0_ : Exa Z h0 d "com/example/netz/netz/net/SparseVector") (F1_ : Fld Z h0 d "com/example/netz/netz/net/SparseVector" "indices" "[I" .null) (F2_ : Fld Z h0 d "com/example/netz/netz/net/SparseVector" "values" "[J" .null) (ge_d : n0 ≤ d) :
    MetFree l (⟨"com/example/netz/netz/net/SparseVector", "<init>", "([I[J)V"⟩ : MethodName) (head1 (Jvm.Cond.code (⟨"com/example/netz/netz/net/SparseVector", "<init>", "([I[J)V"⟩ : MethodName) prog_42_method_1_code 3 none :: ws) ({ frames := 1, cells := 0, slots := 0, locals := 12 } : Room)) (fun za U => za = #[(.ref d), (.ref i1), (.ref t2)] ∧ Z.Warmed39 U.vm ∧ U.heap = h0) (fun _ _ _ _ _ => True) (fun _ U o U' => ∃ rv Lq, o = .returned rv ∧ Q2 Z d i1 t2 h0 n0 rv U'.heap Lq ∧ FrameEnd U o U' Lq ({ frames := 1, cells := 0, slots := 0, locals := 12 } : Room).cells ({ frames := 1, cells := 0, slots := 0, locals := 12 } : Room).slots) := by
  refine MetFree.of_bodySF (plainFor_of_name pn_1) hisR ?_
  intro p e s m args below meth c s₁ Bd hml0 hP hK
  obtain ⟨rfl, hZ, hh⟩ := hP
  have hx := Bd.exec
  have hby := Bd.bytes
  have hml : c.maxLocals = 3 := hml0
  have hown : s.vm.findClass "com/example/netz/netz/net/SparseVector" = some m.cls := findClass_of_methodNamed Bd.named
  have hnm := (name_of_methodNamed Bd.named Bd.method).1
  have X0 : Stand p l e ({ frames := 1, cells := 0, slots := 0, locals := 12 } : Room) s m #[(.ref d), (.ref i1), (.ref t2)] below meth c s₁ [] 0 0 := Stand.of_body Bd
  have e0 : s₁.heap = h0 := by rw [← hh, Bd.state]; rfl
  have N0 := Fr.nil n0
  refine own_out (own_nm fun G hG => own_st (fun zt zk => castTop (ef_rm2 m d i1 t2) zk) ?_)
  show own_Go p e below G (s₁.setTop (mkF m 0 #[.val (.ref d), .val (.ref i1), .val (.ref t2)] []))
  refine own_st (fun zw zk => XS.aloadN X0.here hx rfl (hb hby d2_0) rfl rfl zk) ?_
  obtain ⟨T1, X1, e1, st1⟩ := initO X0 hx hZ hown (hw _ (List.mem_of_getElem? (i := 12) rfl)) (hw _ (List.mem_of_getElem? (i := 13) rfl)) (hw _ (List.mem_of_getElem? (i := 14) rfl)) e0 (g := (mkF m 1 #[.val (.ref d), .val (.ref i1), .val (.ref t2)] [(.ref d)])) rfl (by rw [hml]; rfl) rfl (hb hby d2_1) (by decide) (W := 0) (by show 2 * 0 + _ ≤ _; exact Nat.le_of_eq rfl) (by decide)
  refine own_st (fun zw zk => st1 zw zk) ?_
  refine own_st (fun zw zk => XS.aloadN X1.here hx rfl (hb hby d2_4) rfl rfl zk) ?_
  refine own_st (fun zw zk => XS.aloadN X1.here hx rfl (hb hby d2_5) rfl rfl zk) ?_
  obtain ⟨T2, h2, X2, e2, W2, st2⟩ := putF X1 hx hZ hown (host := "") (Or.inl (hw _ (List.mem_of_getElem? (i := 15) rfl))) Via.refl e1 F1_ F0_ (Or.inr ⟨(hw _ (List.mem_of_getElem? (i := 16) rfl)), rfl, hnm⟩) (hw _ (List.mem_of_getElem? (i := 7) rfl)) (ty := (.array .int)) (by decide) rfl rfl (g := (mkF m 6 #[.val (.ref d), .val (.ref i1), .val (.ref t2)] [(.ref i1), (.ref d)])) rfl rfl (hb hby d2_6)
  have F1_2 := F1_.same W2
  have N2 := Fr.snoc X2 N0 ge_d
  refine own_st (fun zw zk => st2 zw zk) ?_
  have F0_2 := F0_.wr W2
  have F2_2 := F2_.other W2 (Or.inr (slot_ne (Or.inr (hw _ (List.mem_of_getElem? (i := 18) rfl))) (Or.inr (hw _ (List.mem_of_getElem? (i := 16) rfl))) (by decide) (t := (.array .long)) (t' := (.array .int)) (by decide) (by decide)))
  have Z2 : n0 ≤ h2.size := Nat.le_trans Z0 (Keep.of_wr W2).1
  have Kp2 := (Keep.refl h0 [d]).wr W2 (Or.inl (List.mem_of_getElem? (i := 0) rfl))
  refine own_st (fun zw zk => XS.aloadN X2.here hx rfl (hb hby d2_9) rfl rfl zk) ?_
  refine own_st (fun zw zk => XS.aloadN X2.here hx rfl (hb hby d2_10) rfl rfl zk) ?_
  obtain ⟨T3, h3, X3, e3, W3, st3⟩ := putF X2 hx hZ hown (host := "") (Or.inl (hw _ (List.mem_of_getElem? (i := 17) rfl))) Via.refl e2 F2_2 F0_2 (Or.inr ⟨(hw _ (List.mem_of_getElem? (i := 18) rfl)), rfl, hnm⟩) (hw _ (List.mem_of_getElem? (i := 7) rfl)) (ty := (.array .long)) (by decide) rfl rfl (g := (mkF m 11 #[.val (.ref d), .val (.ref i1), .val (.ref t2)] [(.ref t2), (.ref d)])) rfl rfl (hb hby d2_11)
  have F2_3 := F2_2.same W3
  have N3 := Fr.snoc X3 N2 ge_d
  refine own_st (fun zw zk => st3 zw zk) ?_
  have F0_3 := F0_2.wr W3
  have F1_3 := F1_2.other W3 (Or.inr (slot_ne (Or.inr (hw _ (List.mem_of_getElem? (i := 16) rfl))) (Or.inr (hw _ (List.mem_of_getElem? (i := 18) rfl))) (by decide) (t := (.array .int)) (t' := (.array .long)) (by decide) (by decide)))
  have Z3 : n0 ≤ h3.size := Nat.le_trans Z2 (Keep.of_wr W3).1
  have Kp3 := Kp2.wr W3 (Or.inl (List.mem_of_getElem? (i := 0) rfl))
  show own_Go p e below G (T3.setTop (mkF m 14 #[.val (.ref d), .val (.ref i1), .val (.ref t2)] []))
  subst hG
  obtain ⟨fs, hr, hrun, hended, hW, hsame⟩ := X3.leave (v := none) (fun _ => rfl)
  refine ⟨_, X3.returnOut hx Bd.returns (hb hby d2_14) hr, _, hrun, hended, _, _, rfl, ?_, ⟨_, rfl⟩, hW, hsame.mono (by decide) (by decide)⟩
  show Q2 Z d i1 t2 h0 n0 _ T3.heap _
  rw [e3]
  exact ⟨rfl, N3, Kp3, F0_3, F1_3, F2_3⟩
theorem d4_0 : decode prog_42_method_11_code 0 = .ok (.aload_n 0, 1) := by decide +kernel
theorem d4_1 : decode prog_42_method_11_code 1 = .ok (.getfield 13, 3) := by decide +kernel
theorem d4_4 : decode prog_42_method_11_code 4 = .ok (.astore_n 1, 1) := by decide +kernel
theorem d4_5 : decode prog_42_method_11_code 5 = .ok (.aload_n 1, 1) := by decide +kernel
theorem d4_6 : decode prog_42_method_11_code 6 = .ok (.arraylength, 1) := by decide +kernel
theorem d4_7 : decode prog_42_method_11_code 7 = .ok (.istore_n 2, 1) := by decide +kernel
theorem d4_8 : decode prog_42_method_11_code 8 = .ok (.iconst 0, 1) := by decide +kernel
theorem d4_9 : decode prog_42_method_11_code 9 = .ok (.istore_n 3, 1) := by decide +kernel
theorem d4_10 : decode prog_42_method_11_code 10 = .ok (.iload_n 3, 1) := by decide +kernel
theorem d4_11 : decode prog_42_method_11_code 11 = .ok (.iload_n 2, 1) := by decide +kernel
theorem d4_12 : decode prog_42_method_11_code 12 = .ok (.if_icmp .ge 23, 3) := by decide +kernel
theorem d4_35 : decode prog_42_method_11_code 35 = .ok (.iconst 1, 1) := by decide +kernel
theorem d4_36 : decode prog_42_method_11_code 36 = .ok (.ireturn, 1) := by decide +kernel
theorem ef_rm4_0 (m : MethodId) (d : Addr) : entryFrame m #[(.ref d)] 6 = mkF m 0 #[.val (.ref d), .unset, .unset, .unset, .unset, .unset] [] := by first | (simp [entryFrame, mkF, argsToLocals, Value.category]; done) | rfl
def own_nn0  : Int32 := (1 : Int32)
def Q4_0 (Z : State) (d : Addr) (t : Addr) (h0 : Heap) (n0 : Nat) (rv : Option Value) (hq : Heap) (Lq : List Loc) : Prop := rv = some (.int (own_nn0 )) ∧ Fr n0 Lq ∧ hq = h0
set_option maxRecDepth 65536 in
set_option maxHeartbeats 40000000 in
theorem rm4_0 (l : Launch) (Z : State) (a0 : Array Value) (hw : ∀ d ∈ tables_1, d.before a0 Z = true) (ws : List Jvm.Cond) (d : Addr) (t : Addr) (h0 : Heap) (n0 : Nat) (Z0 : n0 ≤ h0.size) (F0_ : Fld Z h0 d "com/example/netz/netz/net/SparseVector" "values" "[J" (.ref t)) (F1_ : own_L Z h0 t .long ([])) :
    MetFree l (⟨"com/example/netz/netz/net/SparseVector", "isNonNegative", "()Z"⟩ : MethodName) (head1 (Jvm.Cond.code (⟨"com/example/netz/netz/net/SparseVector", "isNonNegative", "()Z"⟩ : MethodName) prog_42_method_11_code 6 (some .boolean) :: ws) ({ frames := 0, cells := 0, slots := 0, locals := 0 } : Room)) (fun za U => za = #[(.ref d)] ∧ Z.Warmed39 U.vm ∧ U.heap = h0) (fun _ _ _ _ _ => True) (fun _ U o U' => ∃ rv Lq, o = .returned rv ∧ Q4_0 Z d t h0 n0 rv U'.heap Lq ∧ FrameEnd U o U' Lq ({ frames := 0, cells := 0, slots := 0, locals := 0 } : Room).cells ({ frames := 0, cells := 0, slots := 0, locals := 0 } : Room).slots) := by
  refine MetFree.of_bodySF (plainFor_of_name pn_1) hisR ?_
  intro p e s m args below meth c s₁ Bd hml0 hP hK
  obtain ⟨rfl, hZ, hh⟩ := hP
  have hx := Bd.exec
  have hby := Bd.bytes
  have hml : c.maxLocals = 6 := hml0
  have hown : s.vm.findClass "com/example/netz/netz/net/SparseVector" = some m.cls := findClass_of_methodNamed Bd.named
  have hnm := (name_of_methodNamed Bd.named Bd.method).1
  have X0 : Stand p l e ({ frames := 0, cells := 0, slots := 0, locals := 0 } : Room) s m #[(.ref d)] below meth c s₁ [] 0 0 := Stand.of_body Bd
  have e0 : s₁.heap = h0 := by rw [← hh, Bd.state]; rfl
  have N0 := Fr.nil n0
  refine own_out (own_nm fun G hG => own_st (fun zt zk => castTop (ef_rm4_0 m d) zk) ?_)
  show own_Go p e below G (s₁.setTop (mkF m 0 #[.val (.ref d), .unset, .unset, .unset, .unset, .unset] []))
  refine own_st (fun zw zk => XS.aloadN X0.here hx rfl (hb hby d4_0) rfl rfl zk) ?_
  obtain ⟨T4, X4, e4, st4⟩ := getF X0 hx hZ hown (host := "") (Or.inl (hw _ (List.mem_of_getElem? (i := 17) rfl))) Via.refl e0 F0_ (g := (mkF m 1 #[.val (.ref d), .unset, .unset, .unset, .unset, .unset] [(.ref d)])) rfl rfl (hb hby d4_1)
  refine own_st (fun zw zk => st4 zw zk) ?_
  refine own_st (fun zw zk => XS.astoreN X4.here hx rfl (hb hby d4_4) rfl rfl rfl zk) ?_
  show own_Go p e below G (T4.setTop (mkF m 5 #[.val (.ref d), .val (.ref t), .unset, .unset, .unset, .unset] []))
  refine own_st (fun zw zk => XS.aloadN X4.here hx rfl (hb hby d4_5) rfl rfl zk) ?_
  refine own_st (fun zw zk => own_len X4 hx hZ e4 F1_ (z := (0 : Int32)) (rfl) (g := (mkF m 6 #[.val (.ref d), .val (.ref t), .unset, .unset, .unset, .unset] [(.ref t)])) rfl rfl (hb hby d4_6) _ zk) ?_
  refine own_st (fun zw zk => XS.istoreN X4.here hx rfl (hb hby d4_7) rfl rfl zk) ?_
  show own_Go p e below G (T4.setTop (mkF m 8 #[.val (.ref d), .val (.ref t), .val (.int (0 : Int32)), .unset, .unset, .unset] []))
  refine own_st (fun zw zk => XS.iconst X4.here hx rfl (hb hby d4_8) zk) ?_
  refine own_st (fun zw zk => XS.istoreN X4.here hx rfl (hb hby d4_9) rfl rfl zk) ?_
  show own_Go p e below G (T4.setTop (mkF m 10 #[.val (.ref d), .val (.ref t), .val (.int (0 : Int32)), .val (.int (0 : Int32)), .unset, .unset] []))
  refine own_st (fun zw zk => XS.iloadN X4.here hx rfl (hb hby d4_10) rfl zk) ?_
  refine own_st (fun zw zk => XS.iloadN X4.here hx rfl (hb hby d4_11) rfl zk) ?_
  refine own_st (fun zw zk => XS.icmpYes X4.here hx rfl (pc0 := 12) (pc' := 35) rfl (hb hby d4_12) rfl (flt (by decide : ¬ ((0 : Int32) < (0 : Int32)))).2.1 (by decide) (by decide) zk) ?_
  refine own_st (fun zw zk => XS.iconst X4.here hx rfl (hb hby d4_35) zk) ?_
  subst hG
  obtain ⟨fs, hr, hrun, hended, hW, hsame⟩ := X4.leave (v := some (.int (1 : Int32))) (fun h => by rw [Bd.returns] at h; cases h)
  refine ⟨_, retN X4 hx (t := .boolean) Bd.returns (by simp) (hb hby d4_36) hr, _, hrun, hended, _, _, rfl, ?_, ⟨_, rfl⟩, hW, hsame.mono (by decide) (by decide)⟩
  show Q4_0 Z d t h0 n0 _ T4.heap _
  rw [e4]
  exact ⟨rfl, N0, rfl⟩
theorem d4_15 : decode prog_42_method_11_code 15 = .ok (.aload_n 1, 1) := by decide +kernel
theorem d4_16 : decode prog_42_method_11_code 16 = .ok (.iload_n 3, 1) := by decide +kernel
theorem d4_17 : decode prog_42_method_11_code 17 = .ok (.laload, 1) := by decide +kernel
theorem d4_18 : decode prog_42_method_11_code 18 = .ok (.lstore 4, 2) := by decide +kernel
theorem d4_20 : decode prog_42_method_11_code 20 = .ok (.lload 4, 2) := by decide +kernel
theorem d4_22 : decode prog_42_method_11_code 22 = .ok (.lconst 0, 1) := by decide +kernel
theorem d4_23 : decode prog_42_method_11_code 23 = .ok (.lcmp, 1) := by decide +kernel
theorem d4_24 : decode prog_42_method_11_code 24 = .ok (.ifCond .ge 5, 3) := by decide +kernel
theorem d4_27 : decode prog_42_method_11_code 27 = .ok (.iconst 0, 1) := by decide +kernel
theorem d4_28 : decode prog_42_method_11_code 28 = .ok (.ireturn, 1) := by decide +kernel
theorem d4_29 : decode prog_42_method_11_code 29 = .ok (.iinc 3 1, 3) := by decide +kernel
theorem d4_32 : decode prog_42_method_11_code 32 = .ok (.goto (-22), 3) := by decide +kernel
theorem ef_rm4_1 (m : MethodId) (d : Addr) : entryFrame m #[(.ref d)] 6 = mkF m 0 #[.val (.ref d), .unset, .unset, .unset, .unset, .unset] [] := by first | (simp [entryFrame, mkF, argsToLocals, Value.category]; done) | rfl
def own_nn1 (w0 : Int64) : Int32 := (if w0 < (0 : Int64) then (0 : Int32) else (1 : Int32))
def Q4_1 (Z : State) (d : Addr) (t : Addr) (w0 : Int64) (h0 : Heap) (n0 : Nat) (rv : Option Value) (hq : Heap) (Lq : List Loc) : Prop := rv = some (.int (own_nn1 w0)) ∧ Fr n0 Lq ∧ hq = h0
set_option maxRecDepth 65536 in
set_option maxHeartbeats 40000000 in
theorem rm4_1 (l : Launch) (Z : State) (a0 : Array Value) (hw : ∀ d ∈ tables_1, d.before a0 Z = true) (ws : List Jvm.Cond) (d : Addr) (t : Addr) (w0 : Int64) (h0 : Heap) (n0 : Nat) (Z0 : n0 ≤ h0.size) (F0_ : Fld Z h0 d "com/example/netz/netz/net/SparseVector" "values" "[J" (.ref t)) (F1_ : own_L Z h0 t .long ([(.long w0)])) :
    MetFree l (⟨"com/example/netz/netz/net/SparseVector", "isNonNegative", "()Z"⟩ : MethodName) (head1 (Jvm.Cond.code (⟨"com/example/netz/netz/net/SparseVector", "isNonNegative", "()Z"⟩ : MethodName) prog_42_method_11_code 6 (some .boolean) :: ws) ({ frames := 0, cells := 0, slots := 0, locals := 0 } : Room)) (fun za U => za = #[(.ref d)] ∧ Z.Warmed39 U.vm ∧ U.heap = h0) (fun _ _ _ _ _ => True) (fun _ U o U' => ∃ rv Lq, o = .returned rv ∧ Q4_1 Z d t w0 h0 n0 rv U'.heap Lq ∧ FrameEnd U o U' Lq ({ frames := 0, cells := 0, slots := 0, locals := 0 } : Room).cells ({ frames := 0, cells := 0, slots := 0, locals := 0 } : Room).slots) := by
  refine MetFree.of_bodySF (plainFor_of_name pn_1) hisR ?_
  intro p e s m args below meth c s₁ Bd hml0 hP hK
  obtain ⟨rfl, hZ, hh⟩ := hP
  have hx := Bd.exec
  have hby := Bd.bytes
  have hml : c.maxLocals = 6 := hml0
  have hown : s.vm.findClass "com/example/netz/netz/net/SparseVector" = some m.cls := findClass_of_methodNamed Bd.named
  have hnm := (name_of_methodNamed Bd.named Bd.method).1
  have X0 : Stand p l e ({ frames := 0, cells := 0, slots := 0, locals := 0 } : Room) s m #[(.ref d)] below meth c s₁ [] 0 0 := Stand.of_body Bd
  have e0 : s₁.heap = h0 := by rw [← hh, Bd.state]; rfl
  have N0 := Fr.nil n0
  refine own_out (own_nm fun G hG => own_st (fun zt zk => castTop (ef_rm4_1 m d) zk) ?_)
  show own_Go p e below G (s₁.setTop (mkF m 0 #[.val (.ref d), .unset, .unset, .unset, .unset, .unset] []))
  refine own_st (fun zw zk => XS.aloadN X0.here hx rfl (hb hby d4_0) rfl rfl zk) ?_
  obtain ⟨T5, X5, e5, st5⟩ := getF X0 hx hZ hown (host := "") (Or.inl (hw _ (List.mem_of_getElem? (i := 17) rfl))) Via.refl e0 F0_ (g := (mkF m 1 #[.val (.ref d), .unset, .unset, .unset, .unset, .unset] [(.ref d)])) rfl rfl (hb hby d4_1)
  refine own_st (fun zw zk => st5 zw zk) ?_
  refine own_st (fun zw zk => XS.astoreN X5.here hx rfl (hb hby d4_4) rfl rfl rfl zk) ?_
  show own_Go p e below G (T5.setTop (mkF m 5 #[.val (.ref d), .val (.ref t), .unset, .unset, .unset, .unset] []))
  refine own_st (fun zw zk => XS.aloadN X5.here hx rfl (hb hby d4_5) rfl rfl zk) ?_
  refine own_st (fun zw zk => own_len X5 hx hZ e5 F1_ (z := (1 : Int32)) (rfl) (g := (mkF m 6 #[.val (.ref d), .val (.ref t), .unset, .unset, .unset, .unset] [(.ref t)])) rfl rfl (hb hby d4_6) _ zk) ?_
  refine own_st (fun zw zk => XS.istoreN X5.here hx rfl (hb hby d4_7) rfl rfl zk) ?_
  show own_Go p e below G (T5.setTop (mkF m 8 #[.val (.ref d), .val (.ref t), .val (.int (1 : Int32)), .unset, .unset, .unset] []))
  refine own_st (fun zw zk => XS.iconst X5.here hx rfl (hb hby d4_8) zk) ?_
  refine own_st (fun zw zk => XS.istoreN X5.here hx rfl (hb hby d4_9) rfl rfl zk) ?_
  show own_Go p e below G (T5.setTop (mkF m 10 #[.val (.ref d), .val (.ref t), .val (.int (1 : Int32)), .val (.int (0 : Int32)), .unset, .unset] []))
  refine own_st (fun zw zk => XS.iloadN X5.here hx rfl (hb hby d4_10) rfl zk) ?_
  refine own_st (fun zw zk => XS.iloadN X5.here hx rfl (hb hby d4_11) rfl zk) ?_
  refine own_st (fun zw zk => XS.icmpNo X5.here hx rfl (hb hby d4_12) rfl (tlt (by decide : (0 : Int32) < (1 : Int32))).2.1 zk) ?_
  refine own_st (fun zw zk => XS.aloadN X5.here hx rfl (hb hby d4_15) rfl rfl zk) ?_
  refine own_st (fun zw zk => XS.iloadN X5.here hx rfl (hb hby d4_16) rfl zk) ?_
  refine own_st (fun zw zk => own_jld X5 hx hZ e5 F1_ (j := (0 : Int32)) (v := (.long w0)) (i := 0) (by decide) (by decide) rfl (g := (mkF m 17 #[.val (.ref d), .val (.ref t), .val (.int (1 : Int32)), .val (.int (0 : Int32)), .unset, .unset] [(.int (0 : Int32)), (.ref t)])) rfl rfl (hb hby d4_17) _ zk) ?_
  refine own_st (fun zw zk => XS.lstore X5.here hx rfl (hb hby d4_18) rfl rfl zk) ?_
  show own_Go p e below G (T5.setTop (mkF m 20 #[.val (.ref d), .val (.ref t), .val (.int (1 : Int32)), .val (.int (0 : Int32)), .val (.long w0), .second] []))
  refine own_st (fun zw zk => XS.lload X5.here hx rfl (hb hby d4_20) rfl zk) ?_
  refine own_st (fun zw zk => XS.lconst X5.here hx rfl (hb hby d4_22) zk) ?_
  refine own_st (fun zw zk => XS.lcmp X5.here hx rfl (hb hby d4_23) rfl zk) ?_
  by_cases hc24 : w0 < (0 : Int64)
  · refine own_st (fun zw zk => XS.ifNo X5.here hx rfl (hb hby d4_24) rfl ((if0 _ _).trans (tlt (own_tll hc24)).2.1) zk) ?_
    refine own_st (fun zw zk => XS.iconst X5.here hx rfl (hb hby d4_27) zk) ?_
    subst hG
    obtain ⟨fs, hr, hrun, hended, hW, hsame⟩ := X5.leave (v := some (.int (0 : Int32))) (fun h => by rw [Bd.returns] at h; cases h)
    refine ⟨_, retN X5 hx (t := .boolean) Bd.returns (by simp) (hb hby d4_28) hr, _, hrun, hended, _, _, rfl, ?_, ⟨_, rfl⟩, hW, hsame.mono (by decide) (by decide)⟩
    show Q4_1 Z d t w0 h0 n0 _ T5.heap _
    rw [e5]
    exact ⟨by unfold own_nn1; rw [if_pos hc24], N0, rfl⟩
  · refine own_st (fun zw zk => XS.ifYes X5.here hx rfl (pc0 := 24) (pc' := 29) rfl (hb hby d4_24) rfl ((if0 _ _).trans (flt (own_fll hc24)).2.1) (by decide) (by decide) zk) ?_
    refine own_st (fun zw zk => XS.iinc X5.here hx rfl (hb hby d4_29) rfl rfl zk) ?_
    show own_Go p e below G (T5.setTop (mkF m 32 #[.val (.ref d), .val (.ref t), .val (.int (1 : Int32)), .val (.int (1 : Int32)), .val (.long w0), .second] []))
    refine own_st (fun zw zk => XS.goto X5.here hx rfl (pc0 := 32) (pc' := 10) rfl (hb hby d4_32) (by decide) (by decide) zk) ?_
    show own_Go p e below G (T5.setTop (mkF m 10 #[.val (.ref d), .val (.ref t), .val (.int (1 : Int32)), .val (.int (1 : Int32)), .val (.long w0), .second] []))
    refine own_st (fun zw zk => XS.iloadN X5.here hx rfl (hb hby d4_10) rfl zk) ?_
    refine own_st (fun zw zk => XS.iloadN X5.here hx rfl (hb hby d4_11) rfl zk) ?_
    refine own_st (fun zw zk => XS.icmpYes X5.here hx rfl (pc0 := 12) (pc' := 35) rfl (hb hby d4_12) rfl (flt (by decide : ¬ ((1 : Int32) < (1 : Int32)))).2.1 (by decide) (by decide) zk) ?_
    refine own_st (fun zw zk => XS.iconst X5.here hx rfl (hb hby d4_35) zk) ?_
    subst hG
    obtain ⟨fs, hr, hrun, hended, hW, hsame⟩ := X5.leave (v := some (.int (1 : Int32))) (fun h => by rw [Bd.returns] at h; cases h)
    refine ⟨_, retN X5 hx (t := .boolean) Bd.returns (by simp) (hb hby d4_36) hr, _, hrun, hended, _, _, rfl, ?_, ⟨_, rfl⟩, hW, hsame.mono (by decide) (by decide)⟩
    show Q4_1 Z d t w0 h0 n0 _ T5.heap _
    rw [e5]
    exact ⟨by unfold own_nn1; rw [if_neg hc24], N0, rfl⟩
theorem ef_rm4_2 (m : MethodId) (d : Addr) : entryFrame m #[(.ref d)] 6 = mkF m 0 #[.val (.ref d), .unset, .unset, .unset, .unset, .unset] [] := by first | (simp [entryFrame, mkF, argsToLocals, Value.category]; done) | rfl
def own_nn2 (w0 : Int64) (w1 : Int64) : Int32 := (if w0 < (0 : Int64) then (0 : Int32) else (if w1 < (0 : Int64) then (0 : Int32) else (1 : Int32)))
def Q4_2 (Z : State) (d : Addr) (t : Addr) (w0 : Int64) (w1 : Int64) (h0 : Heap) (n0 : Nat) (rv : Option Value) (hq : Heap) (Lq : List Loc) : Prop := rv = some (.int (own_nn2 w0 w1)) ∧ Fr n0 Lq ∧ hq = h0
set_option maxRecDepth 65536 in
set_option maxHeartbeats 40000000 in
theorem rm4_2 (l : Launch) (Z : State) (a0 : Array Value) (hw : ∀ d ∈ tables_1, d.before a0 Z = true) (ws : List Jvm.Cond) (d : Addr) (t : Addr) (w0 : Int64) (w1 : Int64) (h0 : Heap) (n0 : Nat) (Z0 : n0 ≤ h0.size) (F0_ : Fld Z h0 d "com/example/netz/netz/net/SparseVector" "values" "[J" (.ref t)) (F1_ : own_L Z h0 t .long ([(.long w0), (.long w1)])) :
    MetFree l (⟨"com/example/netz/netz/net/SparseVector", "isNonNegative", "()Z"⟩ : MethodName) (head1 (Jvm.Cond.code (⟨"com/example/netz/netz/net/SparseVector", "isNonNegative", "()Z"⟩ : MethodName) prog_42_method_11_code 6 (some .boolean) :: ws) ({ frames := 0, cells := 0, slots := 0, locals := 0 } : Room)) (fun za U => za = #[(.ref d)] ∧ Z.Warmed39 U.vm ∧ U.heap = h0) (fun _ _ _ _ _ => True) (fun _ U o U' => ∃ rv Lq, o = .returned rv ∧ Q4_2 Z d t w0 w1 h0 n0 rv U'.heap Lq ∧ FrameEnd U o U' Lq ({ frames := 0, cells := 0, slots := 0, locals := 0 } : Room).cells ({ frames := 0, cells := 0, slots := 0, locals := 0 } : Room).slots) := by
  refine MetFree.of_bodySF (plainFor_of_name pn_1) hisR ?_
  intro p e s m args below meth c s₁ Bd hml0 hP hK
  obtain ⟨rfl, hZ, hh⟩ := hP
  have hx := Bd.exec
  have hby := Bd.bytes
  have hml : c.maxLocals = 6 := hml0
  have hown : s.vm.findClass "com/example/netz/netz/net/SparseVector" = some m.cls := findClass_of_methodNamed Bd.named
  have hnm := (name_of_methodNamed Bd.named Bd.method).1
  have X0 : Stand p l e ({ frames := 0, cells := 0, slots := 0, locals := 0 } : Room) s m #[(.ref d)] below meth c s₁ [] 0 0 := Stand.of_body Bd
  have e0 : s₁.heap = h0 := by rw [← hh, Bd.state]; rfl
  have N0 := Fr.nil n0
  refine own_out (own_nm fun G hG => own_st (fun zt zk => castTop (ef_rm4_2 m d) zk) ?_)
  show own_Go p e below G (s₁.setTop (mkF m 0 #[.val (.ref d), .unset, .unset, .unset, .unset, .unset] []))
  refine own_st (fun zw zk => XS.aloadN X0.here hx rfl (hb hby d4_0) rfl rfl zk) ?_
  obtain ⟨T6, X6, e6, st6⟩ := getF X0 hx hZ hown (host := "") (Or.inl (hw _ (List.mem_of_getElem? (i := 17) rfl))) Via.refl e0 F0_ (g := (mkF m 1 #[.val (.ref d), .unset, .unset, .unset, .unset, .unset] [(.ref d)])) rfl rfl (hb hby d4_1)
  refine own_st (fun zw zk => st6 zw zk) ?_
  refine own_st (fun zw zk => XS.astoreN X6.here hx rfl (hb hby d4_4) rfl rfl rfl zk) ?_
  show own_Go p e below G (T6.setTop (mkF m 5 #[.val (.ref d), .val (.ref t), .unset, .unset, .unset, .unset] []))
  refine own_st (fun zw zk => XS.aloadN X6.here hx rfl (hb hby d4_5) rfl rfl zk) ?_
  refine own_st (fun zw zk => own_len X6 hx hZ e6 F1_ (z := (2 : Int32)) (rfl) (g := (mkF m 6 #[.val (.ref d), .val (.ref t), .unset, .unset, .unset, .unset] [(.ref t)])) rfl rfl (hb hby d4_6) _ zk) ?_
  refine own_st (fun zw zk => XS.istoreN X6.here hx rfl (hb hby d4_7) rfl rfl zk) ?_
  show own_Go p e below G (T6.setTop (mkF m 8 #[.val (.ref d), .val (.ref t), .val (.int (2 : Int32)), .unset, .unset, .unset] []))
  refine own_st (fun zw zk => XS.iconst X6.here hx rfl (hb hby d4_8) zk) ?_
  refine own_st (fun zw zk => XS.istoreN X6.here hx rfl (hb hby d4_9) rfl rfl zk) ?_
  show own_Go p e below G (T6.setTop (mkF m 10 #[.val (.ref d), .val (.ref t), .val (.int (2 : Int32)), .val (.int (0 : Int32)), .unset, .unset] []))
  refine own_st (fun zw zk => XS.iloadN X6.here hx rfl (hb hby d4_10) rfl zk) ?_
  refine own_st (fun zw zk => XS.iloadN X6.here hx rfl (hb hby d4_11) rfl zk) ?_
  refine own_st (fun zw zk => XS.icmpNo X6.here hx rfl (hb hby d4_12) rfl (tlt (by decide : (0 : Int32) < (2 : Int32))).2.1 zk) ?_
  refine own_st (fun zw zk => XS.aloadN X6.here hx rfl (hb hby d4_15) rfl rfl zk) ?_
  refine own_st (fun zw zk => XS.iloadN X6.here hx rfl (hb hby d4_16) rfl zk) ?_
  refine own_st (fun zw zk => own_jld X6 hx hZ e6 F1_ (j := (0 : Int32)) (v := (.long w0)) (i := 0) (by decide) (by decide) rfl (g := (mkF m 17 #[.val (.ref d), .val (.ref t), .val (.int (2 : Int32)), .val (.int (0 : Int32)), .unset, .unset] [(.int (0 : Int32)), (.ref t)])) rfl rfl (hb hby d4_17) _ zk) ?_
  refine own_st (fun zw zk => XS.lstore X6.here hx rfl (hb hby d4_18) rfl rfl zk) ?_
  show own_Go p e below G (T6.setTop (mkF m 20 #[.val (.ref d), .val (.ref t), .val (.int (2 : Int32)), .val (.int (0 : Int32)), .val (.long w0), .second] []))
  refine own_st (fun zw zk => XS.lload X6.here hx rfl (hb hby d4_20) rfl zk) ?_
  refine own_st (fun zw zk => XS.lconst X6.here hx rfl (hb hby d4_22) zk) ?_
  refine own_st (fun zw zk => XS.lcmp X6.here hx rfl (hb hby d4_23) rfl zk) ?_
  by_cases hc24 : w0 < (0 : Int64)
  · refine own_st (fun zw zk => XS.ifNo X6.here hx rfl (hb hby d4_24) rfl ((if0 _ _).trans (tlt (own_tll hc24)).2.1) zk) ?_
    refine own_st (fun zw zk => XS.iconst X6.here hx rfl (hb hby d4_27) zk) ?_
    subst hG
    obtain ⟨fs, hr, hrun, hended, hW, hsame⟩ := X6.leave (v := some (.int (0 : Int32))) (fun h => by rw [Bd.returns] at h; cases h)
    refine ⟨_, retN X6 hx (t := .boolean) Bd.returns (by simp) (hb hby d4_28) hr, _, hrun, hended, _, _, rfl, ?_, ⟨_, rfl⟩, hW, hsame.mono (by decide) (by decide)⟩
    show Q4_2 Z d t w0 w1 h0 n0 _ T6.heap _
    rw [e6]
    exact ⟨by unfold own_nn2; rw [if_pos hc24], N0, rfl⟩
  · refine own_st (fun zw zk => XS.ifYes X6.here hx rfl (pc0 := 24) (pc' := 29) rfl (hb hby d4_24) rfl ((if0 _ _).trans (flt (own_fll hc24)).2.1) (by decide) (by decide) zk) ?_
    refine own_st (fun zw zk => XS.iinc X6.here hx rfl (hb hby d4_29) rfl rfl zk) ?_
    show own_Go p e below G (T6.setTop (mkF m 32 #[.val (.ref d), .val (.ref t), .val (.int (2 : Int32)), .val (.int (1 : Int32)), .val (.long w0), .second] []))
    refine own_st (fun zw zk => XS.goto X6.here hx rfl (pc0 := 32) (pc' := 10) rfl (hb hby d4_32) (by decide) (by decide) zk) ?_
    show own_Go p e below G (T6.setTop (mkF m 10 #[.val (.ref d), .val (.ref t), .val (.int (2 : Int32)), .val (.int (1 : Int32)), .val (.long w0), .second] []))
    refine own_st (fun zw zk => XS.iloadN X6.here hx rfl (hb hby d4_10) rfl zk) ?_
    refine own_st (fun zw zk => XS.iloadN X6.here hx rfl (hb hby d4_11) rfl zk) ?_
    refine own_st (fun zw zk => XS.icmpNo X6.here hx rfl (hb hby d4_12) rfl (tlt (by decide : (1 : Int32) < (2 : Int32))).2.1 zk) ?_
    refine own_st (fun zw zk => XS.aloadN X6.here hx rfl (hb hby d4_15) rfl rfl zk) ?_
    refine own_st (fun zw zk => XS.iloadN X6.here hx rfl (hb hby d4_16) rfl zk) ?_
    refine own_st (fun zw zk => own_jld X6 hx hZ e6 F1_ (j := (1 : Int32)) (v := (.long w1)) (i := 1) (by decide) (by decide) rfl (g := (mkF m 17 #[.val (.ref d), .val (.ref t), .val (.int (2 : Int32)), .val (.int (1 : Int32)), .val (.long w0), .second] [(.int (1 : Int32)), (.ref t)])) rfl rfl (hb hby d4_17) _ zk) ?_
    refine own_st (fun zw zk => XS.lstore X6.here hx rfl (hb hby d4_18) rfl rfl zk) ?_
    show own_Go p e below G (T6.setTop (mkF m 20 #[.val (.ref d), .val (.ref t), .val (.int (2 : Int32)), .val (.int (1 : Int32)), .val (.long w1), .second] []))
    refine own_st (fun zw zk => XS.lload X6.here hx rfl (hb hby d4_20) rfl zk) ?_
    refine own_st (fun zw zk => XS.lconst X6.here hx rfl (hb hby d4_22) zk) ?_
    refine own_st (fun zw zk => XS.lcmp X6.here hx rfl (hb hby d4_23) rfl zk) ?_
    by_cases hc24_1 : w1 < (0 : Int64)
    · refine own_st (fun zw zk => XS.ifNo X6.here hx rfl (hb hby d4_24) rfl ((if0 _ _).trans (tlt (own_tll hc24_1)).2.1) zk) ?_
      refine own_st (fun zw zk => XS.iconst X6.here hx rfl (hb hby d4_27) zk) ?_
      subst hG
      obtain ⟨fs, hr, hrun, hended, hW, hsame⟩ := X6.leave (v := some (.int (0 : Int32))) (fun h => by rw [Bd.returns] at h; cases h)
      refine ⟨_, retN X6 hx (t := .boolean) Bd.returns (by simp) (hb hby d4_28) hr, _, hrun, hended, _, _, rfl, ?_, ⟨_, rfl⟩, hW, hsame.mono (by decide) (by decide)⟩
      show Q4_2 Z d t w0 w1 h0 n0 _ T6.heap _
      rw [e6]
      exact ⟨by unfold own_nn2; rw [if_neg hc24, if_pos hc24_1], N0, rfl⟩
    · refine own_st (fun zw zk => XS.ifYes X6.here hx rfl (pc0 := 24) (pc' := 29) rfl (hb hby d4_24) rfl ((if0 _ _).trans (flt (own_fll hc24_1)).2.1) (by decide) (by decide) zk) ?_
      refine own_st (fun zw zk => XS.iinc X6.here hx rfl (hb hby d4_29) rfl rfl zk) ?_
      show own_Go p e below G (T6.setTop (mkF m 32 #[.val (.ref d), .val (.ref t), .val (.int (2 : Int32)), .val (.int (2 : Int32)), .val (.long w1), .second] []))
      refine own_st (fun zw zk => XS.goto X6.here hx rfl (pc0 := 32) (pc' := 10) rfl (hb hby d4_32) (by decide) (by decide) zk) ?_
      show own_Go p e below G (T6.setTop (mkF m 10 #[.val (.ref d), .val (.ref t), .val (.int (2 : Int32)), .val (.int (2 : Int32)), .val (.long w1), .second] []))
      refine own_st (fun zw zk => XS.iloadN X6.here hx rfl (hb hby d4_10) rfl zk) ?_
      refine own_st (fun zw zk => XS.iloadN X6.here hx rfl (hb hby d4_11) rfl zk) ?_
      refine own_st (fun zw zk => XS.icmpYes X6.here hx rfl (pc0 := 12) (pc' := 35) rfl (hb hby d4_12) rfl (flt (by decide : ¬ ((2 : Int32) < (2 : Int32)))).2.1 (by decide) (by decide) zk) ?_
      refine own_st (fun zw zk => XS.iconst X6.here hx rfl (hb hby d4_35) zk) ?_
      subst hG
      obtain ⟨fs, hr, hrun, hended, hW, hsame⟩ := X6.leave (v := some (.int (1 : Int32))) (fun h => by rw [Bd.returns] at h; cases h)
      refine ⟨_, retN X6 hx (t := .boolean) Bd.returns (by simp) (hb hby d4_36) hr, _, hrun, hended, _, _, rfl, ?_, ⟨_, rfl⟩, hW, hsame.mono (by decide) (by decide)⟩
      show Q4_2 Z d t w0 w1 h0 n0 _ T6.heap _
      rw [e6]
      exact ⟨by unfold own_nn2; rw [if_neg hc24, if_neg hc24_1], N0, rfl⟩
theorem ef_rm4_3 (m : MethodId) (d : Addr) : entryFrame m #[(.ref d)] 6 = mkF m 0 #[.val (.ref d), .unset, .unset, .unset, .unset, .unset] [] := by first | (simp [entryFrame, mkF, argsToLocals, Value.category]; done) | rfl
def own_nn3 (w0 : Int64) (w1 : Int64) (w2 : Int64) : Int32 := (if w0 < (0 : Int64) then (0 : Int32) else (if w1 < (0 : Int64) then (0 : Int32) else (if w2 < (0 : Int64) then (0 : Int32) else (1 : Int32))))
def Q4_3 (Z : State) (d : Addr) (t : Addr) (w0 : Int64) (w1 : Int64) (w2 : Int64) (h0 : Heap) (n0 : Nat) (rv : Option Value) (hq : Heap) (Lq : List Loc) : Prop := rv = some (.int (own_nn3 w0 w1 w2)) ∧ Fr n0 Lq ∧ hq = h0
set_option maxRecDepth 65536 in
set_option maxHeartbeats 40000000 in
theorem rm4_3 (l : Launch) (Z : State) (a0 : Array Value) (hw : ∀ d ∈ tables_1, d.before a0 Z = true) (ws : List Jvm.Cond) (d : Addr) (t : Addr) (w0 : Int64) (w1 : Int64) (w2 : Int64) (h0 : Heap) (n0 : Nat) (Z0 : n0 ≤ h0.size) (F0_ : Fld Z h0 d "com/example/netz/netz/net/SparseVector" "values" "[J" (.ref t)) (F1_ : own_L Z h0 t .long ([(.long w0), (.long w1), (.long w2)])) :
    MetFree l (⟨"com/example/netz/netz/net/SparseVector", "isNonNegative", "()Z"⟩ : MethodName) (head1 (Jvm.Cond.code (⟨"com/example/netz/netz/net/SparseVector", "isNonNegative", "()Z"⟩ : MethodName) prog_42_method_11_code 6 (some .boolean) :: ws) ({ frames := 0, cells := 0, slots := 0, locals := 0 } : Room)) (fun za U => za = #[(.ref d)] ∧ Z.Warmed39 U.vm ∧ U.heap = h0) (fun _ _ _ _ _ => True) (fun _ U o U' => ∃ rv Lq, o = .returned rv ∧ Q4_3 Z d t w0 w1 w2 h0 n0 rv U'.heap Lq ∧ FrameEnd U o U' Lq ({ frames := 0, cells := 0, slots := 0, locals := 0 } : Room).cells ({ frames := 0, cells := 0, slots := 0, locals := 0 } : Room).slots) := by
  refine MetFree.of_bodySF (plainFor_of_name pn_1) hisR ?_
  intro p e s m args below meth c s₁ Bd hml0 hP hK
  obtain ⟨rfl, hZ, hh⟩ := hP
  have hx := Bd.exec
  have hby := Bd.bytes
  have hml : c.maxLocals = 6 := hml0
  have hown : s.vm.findClass "com/example/netz/netz/net/SparseVector" = some m.cls := findClass_of_methodNamed Bd.named
  have hnm := (name_of_methodNamed Bd.named Bd.method).1
  have X0 : Stand p l e ({ frames := 0, cells := 0, slots := 0, locals := 0 } : Room) s m #[(.ref d)] below meth c s₁ [] 0 0 := Stand.of_body Bd
  have e0 : s₁.heap = h0 := by rw [← hh, Bd.state]; rfl
  have N0 := Fr.nil n0
  refine own_out (own_nm fun G hG => own_st (fun zt zk => castTop (ef_rm4_3 m d) zk) ?_)
  show own_Go p e below G (s₁.setTop (mkF m 0 #[.val (.ref d), .unset, .unset, .unset, .unset, .unset] []))
  refine own_st (fun zw zk => XS.aloadN X0.here hx rfl (hb hby d4_0) rfl rfl zk) ?_
  obtain ⟨T7, X7, e7, st7⟩ := getF X0 hx hZ hown (host := "") (Or.inl (hw _ (List.mem_of_getElem? (i := 17) rfl))) Via.refl e0 F0_ (g := (mkF m 1 #[.val (.ref d), .unset, .unset, .unset, .unset, .unset] [(.ref d)])) rfl rfl (hb hby d4_1)
  refine own_st (fun zw zk => st7 zw zk) ?_
  refine own_st (fun zw zk => XS.astoreN X7.here hx rfl (hb hby d4_4) rfl rfl rfl zk) ?_
  show own_Go p e below G (T7.setTop (mkF m 5 #[.val (.ref d), .val (.ref t), .unset, .unset, .unset, .unset] []))
  refine own_st (fun zw zk => XS.aloadN X7.here hx rfl (hb hby d4_5) rfl rfl zk) ?_
  refine own_st (fun zw zk => own_len X7 hx hZ e7 F1_ (z := (3 : Int32)) (rfl) (g := (mkF m 6 #[.val (.ref d), .val (.ref t), .unset, .unset, .unset, .unset] [(.ref t)])) rfl rfl (hb hby d4_6) _ zk) ?_
  refine own_st (fun zw zk => XS.istoreN X7.here hx rfl (hb hby d4_7) rfl rfl zk) ?_
  show own_Go p e below G (T7.setTop (mkF m 8 #[.val (.ref d), .val (.ref t), .val (.int (3 : Int32)), .unset, .unset, .unset] []))
  refine own_st (fun zw zk => XS.iconst X7.here hx rfl (hb hby d4_8) zk) ?_
  refine own_st (fun zw zk => XS.istoreN X7.here hx rfl (hb hby d4_9) rfl rfl zk) ?_
  show own_Go p e below G (T7.setTop (mkF m 10 #[.val (.ref d), .val (.ref t), .val (.int (3 : Int32)), .val (.int (0 : Int32)), .unset, .unset] []))
  refine own_st (fun zw zk => XS.iloadN X7.here hx rfl (hb hby d4_10) rfl zk) ?_
  refine own_st (fun zw zk => XS.iloadN X7.here hx rfl (hb hby d4_11) rfl zk) ?_
  refine own_st (fun zw zk => XS.icmpNo X7.here hx rfl (hb hby d4_12) rfl (tlt (by decide : (0 : Int32) < (3 : Int32))).2.1 zk) ?_
  refine own_st (fun zw zk => XS.aloadN X7.here hx rfl (hb hby d4_15) rfl rfl zk) ?_
  refine own_st (fun zw zk => XS.iloadN X7.here hx rfl (hb hby d4_16) rfl zk) ?_
  refine own_st (fun zw zk => own_jld X7 hx hZ e7 F1_ (j := (0 : Int32)) (v := (.long w0)) (i := 0) (by decide) (by decide) rfl (g := (mkF m 17 #[.val (.ref d), .val (.ref t), .val (.int (3 : Int32)), .val (.int (0 : Int32)), .unset, .unset] [(.int (0 : Int32)), (.ref t)])) rfl rfl (hb hby d4_17) _ zk) ?_
  refine own_st (fun zw zk => XS.lstore X7.here hx rfl (hb hby d4_18) rfl rfl zk) ?_
  show own_Go p e below G (T7.setTop (mkF m 20 #[.val (.ref d), .val (.ref t), .val (.int (3 : Int32)), .val (.int (0 : Int32)), .val (.long w0), .second] []))
  refine own_st (fun zw zk => XS.lload X7.here hx rfl (hb hby d4_20) rfl zk) ?_
  refine own_st (fun zw zk => XS.lconst X7.here hx rfl (hb hby d4_22) zk) ?_
  refine own_st (fun zw zk => XS.lcmp X7.here hx rfl (hb hby d4_23) rfl zk) ?_
  by_cases hc24 : w0 < (0 : Int64)
  · refine own_st (fun zw zk => XS.ifNo X7.here hx rfl (hb hby d4_24) rfl ((if0 _ _).trans (tlt (own_tll hc24)).2.1) zk) ?_
    refine own_st (fun zw zk => XS.iconst X7.here hx rfl (hb hby d4_27) zk) ?_
    subst hG
    obtain ⟨fs, hr, hrun, hended, hW, hsame⟩ := X7.leave (v := some (.int (0 : Int32))) (fun h => by rw [Bd.returns] at h; cases h)
    refine ⟨_, retN X7 hx (t := .boolean) Bd.returns (by simp) (hb hby d4_28) hr, _, hrun, hended, _, _, rfl, ?_, ⟨_, rfl⟩, hW, hsame.mono (by decide) (by decide)⟩
    show Q4_3 Z d t w0 w1 w2 h0 n0 _ T7.heap _
    rw [e7]
    exact ⟨by unfold own_nn3; rw [if_pos hc24], N0, rfl⟩
  · refine own_st (fun zw zk => XS.ifYes X7.here hx rfl (pc0 := 24) (pc' := 29) rfl (hb hby d4_24) rfl ((if0 _ _).trans (flt (own_fll hc24)).2.1) (by decide) (by decide) zk) ?_
    refine own_st (fun zw zk => XS.iinc X7.here hx rfl (hb hby d4_29) rfl rfl zk) ?_
    show own_Go p e below G (T7.setTop (mkF m 32 #[.val (.ref d), .val (.ref t), .val (.int (3 : Int32)), .val (.int (1 : Int32)), .val (.long w0), .second] []))
    refine own_st (fun zw zk => XS.goto X7.here hx rfl (pc0 := 32) (pc' := 10) rfl (hb hby d4_32) (by decide) (by decide) zk) ?_
    show own_Go p e below G (T7.setTop (mkF m 10 #[.val (.ref d), .val (.ref t), .val (.int (3 : Int32)), .val (.int (1 : Int32)), .val (.long w0), .second] []))
    refine own_st (fun zw zk => XS.iloadN X7.here hx rfl (hb hby d4_10) rfl zk) ?_
    refine own_st (fun zw zk => XS.iloadN X7.here hx rfl (hb hby d4_11) rfl zk) ?_
    refine own_st (fun zw zk => XS.icmpNo X7.here hx rfl (hb hby d4_12) rfl (tlt (by decide : (1 : Int32) < (3 : Int32))).2.1 zk) ?_
    refine own_st (fun zw zk => XS.aloadN X7.here hx rfl (hb hby d4_15) rfl rfl zk) ?_
    refine own_st (fun zw zk => XS.iloadN X7.here hx rfl (hb hby d4_16) rfl zk) ?_
    refine own_st (fun zw zk => own_jld X7 hx hZ e7 F1_ (j := (1 : Int32)) (v := (.long w1)) (i := 1) (by decide) (by decide) rfl (g := (mkF m 17 #[.val (.ref d), .val (.ref t), .val (.int (3 : Int32)), .val (.int (1 : Int32)), .val (.long w0), .second] [(.int (1 : Int32)), (.ref t)])) rfl rfl (hb hby d4_17) _ zk) ?_
    refine own_st (fun zw zk => XS.lstore X7.here hx rfl (hb hby d4_18) rfl rfl zk) ?_
    show own_Go p e below G (T7.setTop (mkF m 20 #[.val (.ref d), .val (.ref t), .val (.int (3 : Int32)), .val (.int (1 : Int32)), .val (.long w1), .second] []))
    refine own_st (fun zw zk => XS.lload X7.here hx rfl (hb hby d4_20) rfl zk) ?_
    refine own_st (fun zw zk => XS.lconst X7.here hx rfl (hb hby d4_22) zk) ?_
    refine own_st (fun zw zk => XS.lcmp X7.here hx rfl (hb hby d4_23) rfl zk) ?_
    by_cases hc24_1 : w1 < (0 : Int64)
    · refine own_st (fun zw zk => XS.ifNo X7.here hx rfl (hb hby d4_24) rfl ((if0 _ _).trans (tlt (own_tll hc24_1)).2.1) zk) ?_
      refine own_st (fun zw zk => XS.iconst X7.here hx rfl (hb hby d4_27) zk) ?_
      subst hG
      obtain ⟨fs, hr, hrun, hended, hW, hsame⟩ := X7.leave (v := some (.int (0 : Int32))) (fun h => by rw [Bd.returns] at h; cases h)
      refine ⟨_, retN X7 hx (t := .boolean) Bd.returns (by simp) (hb hby d4_28) hr, _, hrun, hended, _, _, rfl, ?_, ⟨_, rfl⟩, hW, hsame.mono (by decide) (by decide)⟩
      show Q4_3 Z d t w0 w1 w2 h0 n0 _ T7.heap _
      rw [e7]
      exact ⟨by unfold own_nn3; rw [if_neg hc24, if_pos hc24_1], N0, rfl⟩
    · refine own_st (fun zw zk => XS.ifYes X7.here hx rfl (pc0 := 24) (pc' := 29) rfl (hb hby d4_24) rfl ((if0 _ _).trans (flt (own_fll hc24_1)).2.1) (by decide) (by decide) zk) ?_
      refine own_st (fun zw zk => XS.iinc X7.here hx rfl (hb hby d4_29) rfl rfl zk) ?_
      show own_Go p e below G (T7.setTop (mkF m 32 #[.val (.ref d), .val (.ref t), .val (.int (3 : Int32)), .val (.int (2 : Int32)), .val (.long w1), .second] []))
      refine own_st (fun zw zk => XS.goto X7.here hx rfl (pc0 := 32) (pc' := 10) rfl (hb hby d4_32) (by decide) (by decide) zk) ?_
      show own_Go p e below G (T7.setTop (mkF m 10 #[.val (.ref d), .val (.ref t), .val (.int (3 : Int32)), .val (.int (2 : Int32)), .val (.long w1), .second] []))
      refine own_st (fun zw zk => XS.iloadN X7.here hx rfl (hb hby d4_10) rfl zk) ?_
      refine own_st (fun zw zk => XS.iloadN X7.here hx rfl (hb hby d4_11) rfl zk) ?_
      refine own_st (fun zw zk => XS.icmpNo X7.here hx rfl (hb hby d4_12) rfl (tlt (by decide : (2 : Int32) < (3 : Int32))).2.1 zk) ?_
      refine own_st (fun zw zk => XS.aloadN X7.here hx rfl (hb hby d4_15) rfl rfl zk) ?_
      refine own_st (fun zw zk => XS.iloadN X7.here hx rfl (hb hby d4_16) rfl zk) ?_
      refine own_st (fun zw zk => own_jld X7 hx hZ e7 F1_ (j := (2 : Int32)) (v := (.long w2)) (i := 2) (by decide) (by decide) rfl (g := (mkF m 17 #[.val (.ref d), .val (.ref t), .val (.int (3 : Int32)), .val (.int (2 : Int32)), .val (.long w1), .second] [(.int (2 : Int32)), (.ref t)])) rfl rfl (hb hby d4_17) _ zk) ?_
      refine own_st (fun zw zk => XS.lstore X7.here hx rfl (hb hby d4_18) rfl rfl zk) ?_
      show own_Go p e below G (T7.setTop (mkF m 20 #[.val (.ref d), .val (.ref t), .val (.int (3 : Int32)), .val (.int (2 : Int32)), .val (.long w2), .second] []))
      refine own_st (fun zw zk => XS.lload X7.here hx rfl (hb hby d4_20) rfl zk) ?_
      refine own_st (fun zw zk => XS.lconst X7.here hx rfl (hb hby d4_22) zk) ?_
      refine own_st (fun zw zk => XS.lcmp X7.here hx rfl (hb hby d4_23) rfl zk) ?_
      by_cases hc24_2 : w2 < (0 : Int64)
      · refine own_st (fun zw zk => XS.ifNo X7.here hx rfl (hb hby d4_24) rfl ((if0 _ _).trans (tlt (own_tll hc24_2)).2.1) zk) ?_
        refine own_st (fun zw zk => XS.iconst X7.here hx rfl (hb hby d4_27) zk) ?_
        subst hG
        obtain ⟨fs, hr, hrun, hended, hW, hsame⟩ := X7.leave (v := some (.int (0 : Int32))) (fun h => by rw [Bd.returns] at h; cases h)
        refine ⟨_, retN X7 hx (t := .boolean) Bd.returns (by simp) (hb hby d4_28) hr, _, hrun, hended, _, _, rfl, ?_, ⟨_, rfl⟩, hW, hsame.mono (by decide) (by decide)⟩
        show Q4_3 Z d t w0 w1 w2 h0 n0 _ T7.heap _
        rw [e7]
        exact ⟨by unfold own_nn3; rw [if_neg hc24, if_neg hc24_1, if_pos hc24_2], N0, rfl⟩
      · refine own_st (fun zw zk => XS.ifYes X7.here hx rfl (pc0 := 24) (pc' := 29) rfl (hb hby d4_24) rfl ((if0 _ _).trans (flt (own_fll hc24_2)).2.1) (by decide) (by decide) zk) ?_
        refine own_st (fun zw zk => XS.iinc X7.here hx rfl (hb hby d4_29) rfl rfl zk) ?_
        show own_Go p e below G (T7.setTop (mkF m 32 #[.val (.ref d), .val (.ref t), .val (.int (3 : Int32)), .val (.int (3 : Int32)), .val (.long w2), .second] []))
        refine own_st (fun zw zk => XS.goto X7.here hx rfl (pc0 := 32) (pc' := 10) rfl (hb hby d4_32) (by decide) (by decide) zk) ?_
        show own_Go p e below G (T7.setTop (mkF m 10 #[.val (.ref d), .val (.ref t), .val (.int (3 : Int32)), .val (.int (3 : Int32)), .val (.long w2), .second] []))
        refine own_st (fun zw zk => XS.iloadN X7.here hx rfl (hb hby d4_10) rfl zk) ?_
        refine own_st (fun zw zk => XS.iloadN X7.here hx rfl (hb hby d4_11) rfl zk) ?_
        refine own_st (fun zw zk => XS.icmpYes X7.here hx rfl (pc0 := 12) (pc' := 35) rfl (hb hby d4_12) rfl (flt (by decide : ¬ ((3 : Int32) < (3 : Int32)))).2.1 (by decide) (by decide) zk) ?_
        refine own_st (fun zw zk => XS.iconst X7.here hx rfl (hb hby d4_35) zk) ?_
        subst hG
        obtain ⟨fs, hr, hrun, hended, hW, hsame⟩ := X7.leave (v := some (.int (1 : Int32))) (fun h => by rw [Bd.returns] at h; cases h)
        refine ⟨_, retN X7 hx (t := .boolean) Bd.returns (by simp) (hb hby d4_36) hr, _, hrun, hended, _, _, rfl, ?_, ⟨_, rfl⟩, hW, hsame.mono (by decide) (by decide)⟩
        show Q4_3 Z d t w0 w1 w2 h0 n0 _ T7.heap _
        rw [e7]
        exact ⟨by unfold own_nn3; rw [if_neg hc24, if_neg hc24_1, if_neg hc24_2], N0, rfl⟩
theorem own_and3 (q : Int32) : (q &&& 3 = 0 ∨ q &&& 3 = 1 ∨ q &&& 3 = 2 ∨ q &&& 3 = 3) := by
  have h := c_mask q 3 2 (by decide) (by decide)
  have z0 : (0 : Int32).toInt = 0 := by decide
  have z1 : (1 : Int32).toInt = 1 := by decide
  have z2 : (2 : Int32).toInt = 2 := by decide
  have z3 : (3 : Int32).toInt = 3 := by decide
  simp only [← Int32.toInt_inj, z0, z1, z2, z3]
  have : (2 ^ 2 : Nat) = 4 := rfl
  rw [this] at h
  omega
theorem pd_0 : parseMethodDescriptor "(J)J" = some ⟨[.long], some .long⟩ := by decide +kernel
theorem pd_1 : parseMethodDescriptor "([I[J)V" = some ⟨[(.array .int), (.array .long)], none⟩ := by decide +kernel
theorem pd_2 : parseMethodDescriptor "()Z" = some ⟨[], some .boolean⟩ := by decide +kernel
theorem ef_rm0 (m : MethodId) (p0 : Int32) (q1 : Int64) (q2 : Int64) (q3 : Int64) : entryFrame m #[(.int p0), (.long q1), (.long q2), (.long q3)] maxLocals = mkF m 0 #[.val (.int p0), .val (.long q1), .second, .val (.long q2), .second, .val (.long q3), .second, .unset, .unset, .unset, .unset, .unset, .unset, .unset, .unset, .unset, .unset] [] := by first | (simp [entryFrame, mkF, argsToLocals, Value.category, maxLocals]; done) | rfl
def Q0 (Z : State) (p0 : Int32) (q1 : Int64) (q2 : Int64) (q3 : Int64) (h0 : Heap) (n0 : Nat) (rv : Option Value) (hq : Heap) (Lq : List Loc) : Prop := rv = some (.int 1) ∧ Fr n0 Lq
set_option maxRecDepth 65536 in
set_option maxHeartbeats 40000000 in
theorem rm0 (l : Launch) (Z : State) (a0 : Array Value) (hw : ∀ d ∈ tables_1, d.before a0 Z = true) (ws : List Jvm.Cond) (p0 : Int32) (q1 : Int64) (q2 : Int64) (q3 : Int64) (h0 : Heap) (n0 : Nat) (Z0 : n0 ≤ h0.size) :
    MetFree l x (head1 (Jvm.Cond.code x code maxLocals ret :: ws) room_1) (fun za U => za = #[(.int p0), (.long q1), (.long q2), (.long q3)] ∧ Z.Warmed39 U.vm ∧ U.heap = h0) (fun _ _ _ _ _ => True) (fun _ U o U' => ∃ rv Lq, o = .returned rv ∧ Q0 Z p0 q1 q2 q3 h0 n0 rv U'.heap Lq ∧ FrameEnd U o U' Lq room_1.cells room_1.slots) := by
  refine MetFree.of_bodySF (plainFor_of_name pn_0) hisR ?_
  intro p e s m args below meth c s₁ Bd hml0 hP hK
  obtain ⟨rfl, hZ, hh⟩ := hP
  have hx := Bd.exec
  have hby := Bd.bytes
  have hml : c.maxLocals = 17 := hml0
  have hown : s.vm.findClass "com/example/netz/netz/net/SparseVectorIsNonNegativePinLaw" = some m.cls := findClass_of_methodNamed Bd.named
  have hnm := (name_of_methodNamed Bd.named Bd.method).1
  have X0 : Stand p l e room_1 s m #[(.int p0), (.long q1), (.long q2), (.long q3)] below meth c s₁ [] 0 0 := Stand.of_body Bd
  have e0 : s₁.heap = h0 := by rw [← hh, Bd.state]; rfl
  have N0 := Fr.nil n0
  refine own_out (own_nm fun G hG => own_st (fun zt zk => castTop (ef_rm0 m p0 q1 q2 q3) zk) ?_)
  show own_Go p e below G (s₁.setTop (mkF m 0 #[.val (.int p0), .val (.long q1), .second, .val (.long q2), .second, .val (.long q3), .second, .unset, .unset, .unset, .unset, .unset, .unset, .unset, .unset, .unset, .unset] []))
  refine own_st (fun zw zk => XS.iloadN X0.here hx rfl (hb hby at_0) rfl zk) ?_
  refine own_st (fun zw zk => XS.iconst X0.here hx rfl (hb hby at_1) zk) ?_
  refine own_st (fun zw zk => XS.iand X0.here hx rfl (hb hby at_2) rfl zk) ?_
  refine own_st (fun zw zk => XS.istore X0.here hx rfl (hb hby at_3) rfl rfl zk) ?_
  show own_Go p e below G (s₁.setTop (mkF m 5 #[.val (.int p0), .val (.long q1), .second, .val (.long q2), .second, .val (.long q3), .second, .val (.int (p0 &&& (3 : Int32))), .unset, .unset, .unset, .unset, .unset, .unset, .unset, .unset, .unset] []))
  refine own_st (fun zw zk => XS.lloadN X0.here hx rfl (hb hby at_5) rfl zk) ?_
  obtain ⟨_, _, ⟨T8, L8, k8, n8⟩, -, X8, ⟨Lc8, hQ8, l8, y8, z8⟩, st8⟩ := Jvm.LawKit.callS X0 hx (y := (⟨"com/example/netz/netz/net/SparseVectorIsNonNegativePinLaw", "nonZero", "(J)J"⟩ : MethodName)) hown (mvT hZ (hw _ (List.mem_of_getElem? (i := 0) rfl))) (mvT hZ (hw _ (List.mem_of_getElem? (i := 1) rfl))) (mvT hZ (hw _ (List.mem_of_getElem? (i := 2) rfl))) (mvT hZ (hw _ (List.mem_of_getElem? (i := 3) rfl))) (by decide) (backOf (W := 0) (rm1 l Z a0 hw [] q1 h0 n0 Z0) hZ (hw _ (List.mem_of_getElem? (i := 3) rfl)) (hw _ (List.mem_of_getElem? (i := 2) rfl)) (by decide) (by decide)) (g := (mkF m 6 #[.val (.int p0), .val (.long q1), .second, .val (.long q2), .second, .val (.long q3), .second, .val (.int (p0 &&& (3 : Int32))), .unset, .unset, .unset, .unset, .unset, .unset, .unset, .unset, .unset] [(.long q1)])) rfl (by rw [hml]; rfl) (argsL := [(.long q1)]) (rest := []) (lenOf pd_0 rfl) rfl (by show 2 * 0 + _ ≤ _; exact Nat.le_of_eq rfl) (hb hby at_6) (fun _ _ => ⟨rfl, e0, (by decide : 0 + 0 ≤ _), (by decide : 0 + 0 ≤ _)⟩)
  dsimp only [Pt.U, Pt.locs, Pt.cells, Pt.slots] at X8 l8 y8 z8 st8 hQ8
  subst l8 y8 z8
  obtain ⟨rfl, N8q, e8⟩ := hQ8
  have N8 := Fr.app N0 N8q
  refine own_st (fun zw zk => st8 zw zk) ?_
  refine own_st (fun zw zk => XS.lstore X8.here hx rfl (hb hby at_9) rfl rfl zk) ?_
  show own_Go p e below G (T8.setTop (mkF m 11 #[.val (.int p0), .val (.long q1), .second, .val (.long q2), .second, .val (.long q3), .second, .val (.int (p0 &&& (3 : Int32))), .val (.long (own_nz q1)), .second, .unset, .unset, .unset, .unset, .unset, .unset, .unset] []))
  refine own_st (fun zw zk => XS.lloadN X8.here hx rfl (hb hby at_11) rfl zk) ?_
  obtain ⟨_, _, ⟨T9, L9, k9, n9⟩, -, X9, ⟨Lc9, hQ9, l9, y9, z9⟩, st9⟩ := Jvm.LawKit.callS X8 hx (y := (⟨"com/example/netz/netz/net/SparseVectorIsNonNegativePinLaw", "nonZero", "(J)J"⟩ : MethodName)) hown (mvT hZ (hw _ (List.mem_of_getElem? (i := 0) rfl))) (mvT hZ (hw _ (List.mem_of_getElem? (i := 1) rfl))) (mvT hZ (hw _ (List.mem_of_getElem? (i := 2) rfl))) (mvT hZ (hw _ (List.mem_of_getElem? (i := 3) rfl))) (by decide) (backOf (W := 0) (rm1 l Z a0 hw [] q2 h0 n0 Z0) hZ (hw _ (List.mem_of_getElem? (i := 3) rfl)) (hw _ (List.mem_of_getElem? (i := 2) rfl)) (by decide) (by decide)) (g := (mkF m 12 #[.val (.int p0), .val (.long q1), .second, .val (.long q2), .second, .val (.long q3), .second, .val (.int (p0 &&& (3 : Int32))), .val (.long (own_nz q1)), .second, .unset, .unset, .unset, .unset, .unset, .unset, .unset] [(.long q2)])) rfl (by rw [hml]; rfl) (argsL := [(.long q2)]) (rest := []) (lenOf pd_0 rfl) rfl (by show 2 * 0 + _ ≤ _; exact Nat.le_of_eq rfl) (hb hby at_12) (fun _ _ => ⟨rfl, e8, (by decide : 0 + 0 ≤ _), (by decide : 0 + 0 ≤ _)⟩)
  dsimp only [Pt.U, Pt.locs, Pt.cells, Pt.slots] at X9 l9 y9 z9 st9 hQ9
  subst l9 y9 z9
  obtain ⟨rfl, N9q, e9⟩ := hQ9
  have N9 := Fr.app N8 N9q
  refine own_st (fun zw zk => st9 zw zk) ?_
  refine own_st (fun zw zk => XS.lstore X9.here hx rfl (hb hby at_15) rfl rfl zk) ?_
  show own_Go p e below G (T9.setTop (mkF m 17 #[.val (.int p0), .val (.long q1), .second, .val (.long q2), .second, .val (.long q3), .second, .val (.int (p0 &&& (3 : Int32))), .val (.long (own_nz q1)), .second, .val (.long (own_nz q2)), .second, .unset, .unset, .unset, .unset, .unset] []))
  refine own_st (fun zw zk => XS.lload X9.here hx rfl (hb hby at_17) rfl zk) ?_
  obtain ⟨_, _, ⟨T10, L10, k10, n10⟩, -, X10, ⟨Lc10, hQ10, l10, y10, z10⟩, st10⟩ := Jvm.LawKit.callS X9 hx (y := (⟨"com/example/netz/netz/net/SparseVectorIsNonNegativePinLaw", "nonZero", "(J)J"⟩ : MethodName)) hown (mvT hZ (hw _ (List.mem_of_getElem? (i := 0) rfl))) (mvT hZ (hw _ (List.mem_of_getElem? (i := 1) rfl))) (mvT hZ (hw _ (List.mem_of_getElem? (i := 2) rfl))) (mvT hZ (hw _ (List.mem_of_getElem? (i := 3) rfl))) (by decide) (backOf (W := 0) (rm1 l Z a0 hw [] q3 h0 n0 Z0) hZ (hw _ (List.mem_of_getElem? (i := 3) rfl)) (hw _ (List.mem_of_getElem? (i := 2) rfl)) (by decide) (by decide)) (g := (mkF m 19 #[.val (.int p0), .val (.long q1), .second, .val (.long q2), .second, .val (.long q3), .second, .val (.int (p0 &&& (3 : Int32))), .val (.long (own_nz q1)), .second, .val (.long (own_nz q2)), .second, .unset, .unset, .unset, .unset, .unset] [(.long q3)])) rfl (by rw [hml]; rfl) (argsL := [(.long q3)]) (rest := []) (lenOf pd_0 rfl) rfl (by show 2 * 0 + _ ≤ _; exact Nat.le_of_eq rfl) (hb hby at_19) (fun _ _ => ⟨rfl, e9, (by decide : 0 + 0 ≤ _), (by decide : 0 + 0 ≤ _)⟩)
  dsimp only [Pt.U, Pt.locs, Pt.cells, Pt.slots] at X10 l10 y10 z10 st10 hQ10
  subst l10 y10 z10
  obtain ⟨rfl, N10q, e10⟩ := hQ10
  have N10 := Fr.app N9 N10q
  refine own_st (fun zw zk => st10 zw zk) ?_
  refine own_st (fun zw zk => XS.lstore X10.here hx rfl (hb hby at_22) rfl rfl zk) ?_
  show own_Go p e below G (T10.setTop (mkF m 24 #[.val (.int p0), .val (.long q1), .second, .val (.long q2), .second, .val (.long q3), .second, .val (.int (p0 &&& (3 : Int32))), .val (.long (own_nz q1)), .second, .val (.long (own_nz q2)), .second, .val (.long (own_nz q3)), .second, .unset, .unset, .unset] []))
  generalize hn7 : (p0 &&& (3 : Int32)) = n7
  rcases (hn7 ▸ own_and3 p0) with rfl | rfl | rfl | rfl
  · refine own_st (fun zw zk => XS.iload X10.here hx rfl (hb hby at_24) rfl zk) ?_
    refine own_st (fun zw zk => XS.ifNo X10.here hx rfl (hb hby at_26) rfl ((if0 _ _).trans (teq (by decide : (0 : Int32) = (0 : Int32))).2) zk) ?_
    refine own_st (fun zw zk => XS.iconst X10.here hx rfl (hb hby at_29) zk) ?_
    obtain ⟨T11, h11, k11, X11, e11, E11, A11, st11⟩ := newP X10 hx hZ (hw _ (List.mem_of_getElem? (i := 4) rfl)) e10 (g := (mkF m 30 #[.val (.int p0), .val (.long q1), .second, .val (.long q2), .second, .val (.long q3), .second, .val (.int (0 : Int32)), .val (.long (own_nz q1)), .second, .val (.long (own_nz q2)), .second, .val (.long (own_nz q3)), .second, .unset, .unset, .unset] [(.int (0 : Int32))])) rfl (hb hby at_30) rfl (by decide) (cap := 0) (by decide) (by decide) (by decide) (by decide)
    obtain ⟨b11, g11⟩ : ∃ z, z = h0.size := ⟨_, rfl⟩
    rw [← g11] at A11 st11
    have G11 : n0 ≤ b11 := Nat.le_trans Z0 (Nat.le_of_eq g11.symm)
    have Z11 : n0 ≤ h11.size := Nat.le_trans Z0 E11.1
    have V11 : own_L Z h11 b11 .int ([]) := own_L.new A11
    refine own_st (fun zw zk => st11 zw zk) ?_
    refine own_st (fun zw zk => XS.astore X11.here hx rfl (hb hby at_32) rfl rfl rfl zk) ?_
    show own_Go p e below G (T11.setTop (mkF m 34 #[.val (.int p0), .val (.long q1), .second, .val (.long q2), .second, .val (.long q3), .second, .val (.int (0 : Int32)), .val (.long (own_nz q1)), .second, .val (.long (own_nz q2)), .second, .val (.long (own_nz q3)), .second, .val (.ref b11), .unset, .unset] []))
    refine own_st (fun zw zk => XS.iconst X11.here hx rfl (hb hby at_34) zk) ?_
    obtain ⟨T12, h12, k12, X12, e12, E12, A12, st12⟩ := newP X11 hx hZ (hw _ (List.mem_of_getElem? (i := 5) rfl)) e11 (g := (mkF m 35 #[.val (.int p0), .val (.long q1), .second, .val (.long q2), .second, .val (.long q3), .second, .val (.int (0 : Int32)), .val (.long (own_nz q1)), .second, .val (.long (own_nz q2)), .second, .val (.long (own_nz q3)), .second, .val (.ref b11), .unset, .unset] [(.int (0 : Int32))])) rfl (hb hby at_35) rfl (by decide) (cap := 0) (by decide) (by decide) (by decide) (by decide)
    obtain ⟨b12, g12⟩ : ∃ z, z = h11.size := ⟨_, rfl⟩
    rw [← g12] at A12 st12
    have G12 : n0 ≤ b12 := Nat.le_trans Z11 (Nat.le_of_eq g12.symm)
    have ne_b11_b12 : b11 ≠ b12 := Nat.ne_of_lt (Nat.lt_of_lt_of_le V11.lt (Nat.le_of_eq g12.symm))
    have Vb11_12 := V11.ext E12
    have Z12 : n0 ≤ h12.size := Nat.le_trans Z11 E12.1
    have V12 : own_L Z h12 b12 .long ([]) := own_L.new A12
    refine own_st (fun zw zk => st12 zw zk) ?_
    refine own_st (fun zw zk => XS.astore X12.here hx rfl (hb hby at_37) rfl rfl rfl zk) ?_
    show own_Go p e below G (T12.setTop (mkF m 39 #[.val (.int p0), .val (.long q1), .second, .val (.long q2), .second, .val (.long q3), .second, .val (.int (0 : Int32)), .val (.long (own_nz q1)), .second, .val (.long (own_nz q2)), .second, .val (.long (own_nz q3)), .second, .val (.ref b11), .val (.ref b12), .unset] []))
    refine own_st (fun zw zk => XS.goto X12.here hx rfl (pc0 := 39) (pc' := 144) rfl (hb hby at_39) (by decide) (by decide) zk) ?_
    show own_Go p e below G (T12.setTop (mkF m 144 #[.val (.int p0), .val (.long q1), .second, .val (.long q2), .second, .val (.long q3), .second, .val (.int (0 : Int32)), .val (.long (own_nz q1)), .second, .val (.long (own_nz q2)), .second, .val (.long (own_nz q3)), .second, .val (.ref b11), .val (.ref b12), .unset] []))
    refine own_st (fun zw zk => XS.iload X12.here hx rfl (hb hby at_144) rfl zk) ?_
    refine own_st (fun zw zk => XS.iconst X12.here hx rfl (hb hby at_146) zk) ?_
    refine own_st (fun zw zk => XS.icmpYes X12.here hx rfl (pc0 := 147) (pc' := 157) rfl (hb hby at_147) rfl (tlt (by decide : (0 : Int32) < (1 : Int32))).1 (by decide) (by decide) zk) ?_
    refine own_st (fun zw zk => XS.iload X12.here hx rfl (hb hby at_157) rfl zk) ?_
    refine own_st (fun zw zk => XS.iconst X12.here hx rfl (hb hby at_159) zk) ?_
    refine own_st (fun zw zk => XS.icmpYes X12.here hx rfl (pc0 := 160) (pc' := 170) rfl (hb hby at_160) rfl (tlt (by decide : (0 : Int32) < (2 : Int32))).1 (by decide) (by decide) zk) ?_
    refine own_st (fun zw zk => XS.iload X12.here hx rfl (hb hby at_170) rfl zk) ?_
    refine own_st (fun zw zk => XS.iconst X12.here hx rfl (hb hby at_172) zk) ?_
    show own_Go p e below G (T12.setTop (mkF m 173 #[.val (.int p0), .val (.long q1), .second, .val (.long q2), .second, .val (.long q3), .second, .val (.int (0 : Int32)), .val (.long (own_nz q1)), .second, .val (.long (own_nz q2)), .second, .val (.long (own_nz q3)), .second, .val (.ref b11), .val (.ref b12), .unset] [(.int (3 : Int32)), (.int (0 : Int32))]))
    refine own_st (fun zw zk => XS.icmpYes X12.here hx rfl (pc0 := 173) (pc' := 183) rfl (hb hby at_173) rfl (tlt (by decide : (0 : Int32) < (3 : Int32))).1 (by decide) (by decide) zk) ?_
    refine own_st (fun zw zk => XS.iconst X12.here hx rfl (hb hby at_183) zk) ?_
    refine own_st (fun zw zk => XS.goto X12.here hx rfl (pc0 := 184) (pc' := 188) rfl (hb hby at_184) (by decide) (by decide) zk) ?_
    show own_Go p e below G (T12.setTop (mkF m 188 #[.val (.int p0), .val (.long q1), .second, .val (.long q2), .second, .val (.long q3), .second, .val (.int (0 : Int32)), .val (.long (own_nz q1)), .second, .val (.long (own_nz q2)), .second, .val (.long (own_nz q3)), .second, .val (.ref b11), .val (.ref b12), .unset] [(.int (1 : Int32))]))
    refine own_st (fun zw zk => XS.istore X12.here hx rfl (hb hby at_188) rfl rfl zk) ?_
    show own_Go p e below G (T12.setTop (mkF m 190 #[.val (.int p0), .val (.long q1), .second, .val (.long q2), .second, .val (.long q3), .second, .val (.int (0 : Int32)), .val (.long (own_nz q1)), .second, .val (.long (own_nz q2)), .second, .val (.long (own_nz q3)), .second, .val (.ref b11), .val (.ref b12), .val (.int (1 : Int32))] []))
    obtain ⟨T13, h13, X13, e13, E13, A13, D13, -, st13⟩ := newO X12 hx hZ hown (hw _ (List.mem_of_getElem? (i := 6) rfl)) (hw _ (List.mem_of_getElem? (i := 7) rfl)) (hw _ (List.mem_of_getElem? (i := 8) rfl)) e12 (g := (mkF m 190 #[.val (.int p0), .val (.long q1), .second, .val (.long q2), .second, .val (.long q3), .second, .val (.int (0 : Int32)), .val (.long (own_nz q1)), .second, .val (.long (own_nz q2)), .second, .val (.long (own_nz q3)), .second, .val (.ref b11), .val (.ref b12), .val (.int (1 : Int32))] [])) rfl (hb hby at_190) (by decide) (by decide)
    obtain ⟨b13, g13⟩ : ∃ z, z = h12.size := ⟨_, rfl⟩
    rw [← g13] at A13 D13 st13
    have G13 : n0 ≤ b13 := Nat.le_trans Z12 (Nat.le_of_eq g13.symm)
    have ne_b11_b13 : b11 ≠ b13 := Nat.ne_of_lt (Nat.lt_of_lt_of_le Vb11_12.lt (Nat.le_of_eq g13.symm))
    have ne_b12_b13 : b12 ≠ b13 := Nat.ne_of_lt (Nat.lt_of_lt_of_le V12.lt (Nat.le_of_eq g13.symm))
    have Vb11_13 := Vb11_12.ext E13
    have Vb12_13 := V12.ext E13
    have Z13 : n0 ≤ h13.size := Nat.le_trans Z12 E13.1
    have Fb13indices : Fld Z h13 b13 "com/example/netz/netz/net/SparseVector" "indices" "[I" .null := D13 (Or.inr (hw _ (List.mem_of_getElem? (i := 16) rfl))) (ty := (.array .int)) (by decide)
    have Fb13values : Fld Z h13 b13 "com/example/netz/netz/net/SparseVector" "values" "[J" .null := D13 (Or.inr (hw _ (List.mem_of_getElem? (i := 18) rfl))) (ty := (.array .long)) (by decide)
    refine own_st (fun zw zk => st13 zw zk) ?_
    refine own_st (fun zw zk => XS.dup X13.here hx rfl (hb hby at_193) rfl rfl zk) ?_
    refine own_st (fun zw zk => XS.aload X13.here hx rfl (hb hby at_194) rfl rfl zk) ?_
    refine own_st (fun zw zk => XS.aload X13.here hx rfl (hb hby at_196) rfl rfl zk) ?_
    obtain ⟨_, _, ⟨T14, L14, k14, n14⟩, -, X14, ⟨Lc14, hQ14, l14, y14, z14⟩, st14⟩ := X13.specialBack hx (y := (⟨"com/example/netz/netz/net/SparseVector", "<init>", "([I[J)V"⟩ : MethodName)) rfl hown (mvT hZ (hw _ (List.mem_of_getElem? (i := 9) rfl))) (mvT hZ (hw _ (List.mem_of_getElem? (i := 10) rfl))) (mvT hZ (hw _ (List.mem_of_getElem? (i := 11) rfl))) (by decide) (backOf (W := 1) (rm2 l Z a0 hw [] b13 b11 b12 h13 n0 Z13 (A13) (Fb13indices) (Fb13values) (G13)) hZ (hw _ (List.mem_of_getElem? (i := 11) rfl)) (hw _ (List.mem_of_getElem? (i := 8) rfl)) (by decide) (by decide)) (g := (mkF m 198 #[.val (.int p0), .val (.long q1), .second, .val (.long q2), .second, .val (.long q3), .second, .val (.int (0 : Int32)), .val (.long (own_nz q1)), .second, .val (.long (own_nz q2)), .second, .val (.long (own_nz q3)), .second, .val (.ref b11), .val (.ref b12), .val (.int (1 : Int32))] [(.ref b12), (.ref b11), (.ref b13), (.ref b13)])) rfl (by rw [hml]; rfl) (Steps.refl _) (a := b13) (argsL := [(.ref b11), (.ref b12)]) (rest := [(.ref b13)]) (lenOf pd_1 rfl) rfl (by show 2 * 0 + _ ≤ _; exact Nat.le_of_eq rfl) (hb hby at_198) (fun _ _ => ⟨rfl, e13, (by decide : 3 + 0 ≤ _), (by decide : 2 + 0 ≤ _)⟩)
    dsimp only [Pt.U, Pt.locs, Pt.cells, Pt.slots] at X14 l14 y14 z14 st14 hQ14
    subst l14 y14 z14
    obtain ⟨rfl, N14q, K14, O14_0, O14_1, O14_2⟩ := hQ14
    have Vb11_14 := Vb11_13.keep K14 (ninS ne_b11_b13 nin0)
    have Vb12_14 := Vb12_13.keep K14 (ninS ne_b12_b13 nin0)
    have Ab13_14 := A13.keep K14
    have Z14 : n0 ≤ T14.heap.size := Nat.le_trans Z13 K14.1
    have N14 := Fr.app N10 N14q
    refine own_jp st14 ?_
    obtain ⟨cq15, kq15, q15a, q15b, q15c⟩ := isOf hZ rfl O14_0
    obtain ⟨_, _, ⟨T15, L15, k15, n15⟩, -, X15, ⟨Lc15, hQ15, l15, y15, z15⟩, st15⟩ := X14.virtualBack hx (y := (⟨"com/example/netz/netz/net/SparseVector", "isNonNegative", "()Z"⟩ : MethodName)) (z := (⟨"com/example/netz/netz/net/SparseVector", "isNonNegative", "()Z"⟩ : MethodName)) hown (mvT hZ (hw _ (List.mem_of_getElem? (i := 19) rfl))) (mvT hZ (hw _ (List.mem_of_getElem? (i := 20) rfl))) (notFace_of_selects (args := #[]) (mvT hZ (hw _ (List.mem_of_getElem? (i := 22) rfl)))) (mvT hZ (hw _ (List.mem_of_getElem? (i := 22) rfl))) (mvT hZ (hw _ (List.mem_of_getElem? (i := 21) rfl))) (by decide) (backOf (W := 0) (rm4_0 l Z a0 hw [] b13 b12 T14.heap n0 Z14 (O14_2) (Vb12_14)) hZ (hw _ (List.mem_of_getElem? (i := 23) rfl)) (hw _ (List.mem_of_getElem? (i := 8) rfl)) (by decide) (by decide)) q15a q15c (g := (mkF m 201 #[.val (.int p0), .val (.long q1), .second, .val (.long q2), .second, .val (.long q3), .second, .val (.int (0 : Int32)), .val (.long (own_nz q1)), .second, .val (.long (own_nz q2)), .second, .val (.long (own_nz q3)), .second, .val (.ref b11), .val (.ref b12), .val (.int (1 : Int32))] [(.ref b13)])) rfl (by rw [hml]; rfl) (Steps.refl _) (argsL := []) (rest := []) (lenOf pd_2 rfl) rfl (by show 2 * 0 + _ ≤ _; exact Nat.le_of_eq rfl) (hb hby at_201) (fun _ _ => ⟨rfl, rfl, (by decide : 3 + 0 ≤ _), (by decide : 2 + 0 ≤ _)⟩)
    dsimp only [Pt.U, Pt.locs, Pt.cells, Pt.slots] at X15 l15 y15 z15 st15 hQ15
    subst l15 y15 z15
    obtain ⟨rfl, N15q, e15⟩ := hQ15
    have N15 := Fr.app N14 N15q
    refine own_jp st15 ?_
    refine own_st (fun zw zk => XS.iload X15.here hx rfl (hb hby at_204) rfl zk) ?_
    have hc206 : (own_nn0 ) = (1 : Int32) := rfl
    refine own_st (fun zw zk => XS.icmpNo X15.here hx rfl (hb hby at_206) rfl (teq hc206).2 zk) ?_
    show own_Go p e below G (T15.setTop (mkF m 209 #[.val (.int p0), .val (.long q1), .second, .val (.long q2), .second, .val (.long q3), .second, .val (.int (0 : Int32)), .val (.long (own_nz q1)), .second, .val (.long (own_nz q2)), .second, .val (.long (own_nz q3)), .second, .val (.ref b11), .val (.ref b12), .val (.int (1 : Int32))] []))
    refine own_st (fun zw zk => XS.iconst X15.here hx rfl (hb hby at_209) zk) ?_
    refine own_st (fun zw zk => XS.goto X15.here hx rfl (pc0 := 210) (pc' := 214) rfl (hb hby at_210) (by decide) (by decide) zk) ?_
    show own_Go p e below G (T15.setTop (mkF m 214 #[.val (.int p0), .val (.long q1), .second, .val (.long q2), .second, .val (.long q3), .second, .val (.int (0 : Int32)), .val (.long (own_nz q1)), .second, .val (.long (own_nz q2)), .second, .val (.long (own_nz q3)), .second, .val (.ref b11), .val (.ref b12), .val (.int (1 : Int32))] [(.int (1 : Int32))]))
    subst hG
    obtain ⟨fs, hr, hrun, hended, hW, hsame⟩ := X15.leave (v := some (.int (1 : Int32))) (fun h => by rw [Bd.returns] at h; cases h)
    refine ⟨_, retN X15 hx (t := .boolean) Bd.returns (by simp) (hb hby at_214) hr, _, hrun, hended, _, _, rfl, ?_, ⟨_, rfl⟩, hW, hsame.mono (by decide) (by decide)⟩
    show Q0 Z p0 q1 q2 q3 h0 n0 _ T15.heap _
    rw [e15]
    exact ⟨rfl, N15⟩
  · refine own_st (fun zw zk => XS.iload X10.here hx rfl (hb hby at_24) rfl zk) ?_
    refine own_st (fun zw zk => XS.ifYes X10.here hx rfl (pc0 := 26) (pc' := 42) rfl (hb hby at_26) rfl ((if0 _ _).trans (feq (by decide : ¬ ((1 : Int32) = (0 : Int32)))).2) (by decide) (by decide) zk) ?_
    refine own_st (fun zw zk => XS.iload X10.here hx rfl (hb hby at_42) rfl zk) ?_
    refine own_st (fun zw zk => XS.iconst X10.here hx rfl (hb hby at_44) zk) ?_
    refine own_st (fun zw zk => XS.icmpNo X10.here hx rfl (hb hby at_45) rfl (teq (by decide : (1 : Int32) = (1 : Int32))).2 zk) ?_
    refine own_st (fun zw zk => XS.iconst X10.here hx rfl (hb hby at_48) zk) ?_
    obtain ⟨T16, h16, k16, X16, e16, E16, A16, st16⟩ := newP X10 hx hZ (hw _ (List.mem_of_getElem? (i := 4) rfl)) e10 (g := (mkF m 49 #[.val (.int p0), .val (.long q1), .second, .val (.long q2), .second, .val (.long q3), .second, .val (.int (1 : Int32)), .val (.long (own_nz q1)), .second, .val (.long (own_nz q2)), .second, .val (.long (own_nz q3)), .second, .unset, .unset, .unset] [(.int (1 : Int32))])) rfl (hb hby at_49) rfl (by decide) (cap := 1) (by decide) (by decide) (by decide) (by decide)
    obtain ⟨b16, g16⟩ : ∃ z, z = h0.size := ⟨_, rfl⟩
    rw [← g16] at A16 st16
    have G16 : n0 ≤ b16 := Nat.le_trans Z0 (Nat.le_of_eq g16.symm)
    have Z16 : n0 ≤ h16.size := Nat.le_trans Z0 E16.1
    have V16 : own_L Z h16 b16 .int ([(.int (0 : Int32))]) := own_L.new A16
    refine own_st (fun zw zk => st16 zw zk) ?_
    refine own_st (fun zw zk => XS.dup X16.here hx rfl (hb hby at_51) rfl rfl zk) ?_
    show own_Go p e below G (T16.setTop (mkF m 52 #[.val (.int p0), .val (.long q1), .second, .val (.long q2), .second, .val (.long q3), .second, .val (.int (1 : Int32)), .val (.long (own_nz q1)), .second, .val (.long (own_nz q2)), .second, .val (.long (own_nz q3)), .second, .unset, .unset, .unset] [(.ref b16), (.ref b16)]))
    refine own_st (fun zw zk => XS.iconst X16.here hx rfl (hb hby at_52) zk) ?_
    refine own_st (fun zw zk => XS.iconst X16.here hx rfl (hb hby at_53) zk) ?_
    obtain ⟨T17, h17, X17, e17, W17, V17, st17⟩ := own_ist X16 hx hZ e16 V16 (j := (0 : Int32)) (0) (by decide) (by decide) (Nat.le_of_ble_eq_true rfl) (g := (mkF m 54 #[.val (.int p0), .val (.long q1), .second, .val (.long q2), .second, .val (.long q3), .second, .val (.int (1 : Int32)), .val (.long (own_nz q1)), .second, .val (.long (own_nz q2)), .second, .val (.long (own_nz q3)), .second, .unset, .unset, .unset] [(.int (0 : Int32)), (.int (0 : Int32)), (.ref b16), (.ref b16)])) rfl rfl (hb hby at_54)
    have Vb16_17 : own_L Z h17 b16 .int ([(.int (0 : Int32))]) := V17
    have N17 := Fr.snoc X17 N10 G16
    refine own_st (fun zw zk => st17 zw zk) ?_
    have Z17 : n0 ≤ h17.size := Nat.le_trans Z16 (Keep.of_wr W17).1
    refine own_st (fun zw zk => XS.astore X17.here hx rfl (hb hby at_55) rfl rfl rfl zk) ?_
    show own_Go p e below G (T17.setTop (mkF m 57 #[.val (.int p0), .val (.long q1), .second, .val (.long q2), .second, .val (.long q3), .second, .val (.int (1 : Int32)), .val (.long (own_nz q1)), .second, .val (.long (own_nz q2)), .second, .val (.long (own_nz q3)), .second, .val (.ref b16), .unset, .unset] []))
    refine own_st (fun zw zk => XS.iconst X17.here hx rfl (hb hby at_57) zk) ?_
    obtain ⟨T18, h18, k18, X18, e18, E18, A18, st18⟩ := newP X17 hx hZ (hw _ (List.mem_of_getElem? (i := 5) rfl)) e17 (g := (mkF m 58 #[.val (.int p0), .val (.long q1), .second, .val (.long q2), .second, .val (.long q3), .second, .val (.int (1 : Int32)), .val (.long (own_nz q1)), .second, .val (.long (own_nz q2)), .second, .val (.long (own_nz q3)), .second, .val (.ref b16), .unset, .unset] [(.int (1 : Int32))])) rfl (hb hby at_58) rfl (by decide) (cap := 1) (by decide) (by decide) (by decide) (by decide)
    obtain ⟨b18, g18⟩ : ∃ z, z = h17.size := ⟨_, rfl⟩
    rw [← g18] at A18 st18
    have G18 : n0 ≤ b18 := Nat.le_trans Z17 (Nat.le_of_eq g18.symm)
    have ne_b16_b18 : b16 ≠ b18 := Nat.ne_of_lt (Nat.lt_of_lt_of_le Vb16_17.lt (Nat.le_of_eq g18.symm))
    have Vb16_18 := Vb16_17.ext E18
    have Z18 : n0 ≤ h18.size := Nat.le_trans Z17 E18.1
    have V18 : own_L Z h18 b18 .long ([(.long (0 : Int64))]) := own_L.new A18
    refine own_st (fun zw zk => st18 zw zk) ?_
    refine own_st (fun zw zk => XS.dup X18.here hx rfl (hb hby at_60) rfl rfl zk) ?_
    refine own_st (fun zw zk => XS.iconst X18.here hx rfl (hb hby at_61) zk) ?_
    refine own_st (fun zw zk => XS.lload X18.here hx rfl (hb hby at_62) rfl zk) ?_
    obtain ⟨T19, h19, X19, e19, W19, V19, st19⟩ := own_jst X18 hx hZ e18 V18 (j := (0 : Int32)) (0) (by decide) (by decide) (Nat.le_of_ble_eq_true rfl) (g := (mkF m 64 #[.val (.int p0), .val (.long q1), .second, .val (.long q2), .second, .val (.long q3), .second, .val (.int (1 : Int32)), .val (.long (own_nz q1)), .second, .val (.long (own_nz q2)), .second, .val (.long (own_nz q3)), .second, .val (.ref b16), .unset, .unset] [(.long (own_nz q1)), (.int (0 : Int32)), (.ref b18), (.ref b18)])) rfl rfl (hb hby at_64)
    have Vb18_19 : own_L Z h19 b18 .long ([(.long (own_nz q1))]) := V19
    have N19 := Fr.snoc X19 N17 G18
    refine own_st (fun zw zk => st19 zw zk) ?_
    have Vb16_19 := Vb16_18.other W19 ne_b16_b18
    have Z19 : n0 ≤ h19.size := Nat.le_trans Z18 (Keep.of_wr W19).1
    refine own_st (fun zw zk => XS.astore X19.here hx rfl (hb hby at_65) rfl rfl rfl zk) ?_
    show own_Go p e below G (T19.setTop (mkF m 67 #[.val (.int p0), .val (.long q1), .second, .val (.long q2), .second, .val (.long q3), .second, .val (.int (1 : Int32)), .val (.long (own_nz q1)), .second, .val (.long (own_nz q2)), .second, .val (.long (own_nz q3)), .second, .val (.ref b16), .val (.ref b18), .unset] []))
    refine own_st (fun zw zk => XS.goto X19.here hx rfl (pc0 := 67) (pc' := 144) rfl (hb hby at_67) (by decide) (by decide) zk) ?_
    show own_Go p e below G (T19.setTop (mkF m 144 #[.val (.int p0), .val (.long q1), .second, .val (.long q2), .second, .val (.long q3), .second, .val (.int (1 : Int32)), .val (.long (own_nz q1)), .second, .val (.long (own_nz q2)), .second, .val (.long (own_nz q3)), .second, .val (.ref b16), .val (.ref b18), .unset] []))
    refine own_st (fun zw zk => XS.iload X19.here hx rfl (hb hby at_144) rfl zk) ?_
    refine own_st (fun zw zk => XS.iconst X19.here hx rfl (hb hby at_146) zk) ?_
    refine own_st (fun zw zk => XS.icmpNo X19.here hx rfl (hb hby at_147) rfl (flt (by decide : ¬ ((1 : Int32) < (1 : Int32)))).1 zk) ?_
    refine own_st (fun zw zk => XS.lload X19.here hx rfl (hb hby at_150) rfl zk) ?_
    refine own_st (fun zw zk => XS.lconst X19.here hx rfl (hb hby at_152) zk) ?_
    refine own_st (fun zw zk => XS.lcmp X19.here hx rfl (hb hby at_153) rfl zk) ?_
    by_cases hc154 : (own_nz q1) < (0 : Int64)
    · refine own_st (fun zw zk => XS.ifYes X19.here hx rfl (pc0 := 154) (pc' := 187) rfl (hb hby at_154) rfl ((if0 _ _).trans (tlt (own_tll hc154)).1) (by decide) (by decide) zk) ?_
      refine own_st (fun zw zk => XS.iconst X19.here hx rfl (hb hby at_187) zk) ?_
      show own_Go p e below G (T19.setTop (mkF m 188 #[.val (.int p0), .val (.long q1), .second, .val (.long q2), .second, .val (.long q3), .second, .val (.int (1 : Int32)), .val (.long (own_nz q1)), .second, .val (.long (own_nz q2)), .second, .val (.long (own_nz q3)), .second, .val (.ref b16), .val (.ref b18), .unset] [(.int (0 : Int32))]))
      refine own_st (fun zw zk => XS.istore X19.here hx rfl (hb hby at_188) rfl rfl zk) ?_
      show own_Go p e below G (T19.setTop (mkF m 190 #[.val (.int p0), .val (.long q1), .second, .val (.long q2), .second, .val (.long q3), .second, .val (.int (1 : Int32)), .val (.long (own_nz q1)), .second, .val (.long (own_nz q2)), .second, .val (.long (own_nz q3)), .second, .val (.ref b16), .val (.ref b18), .val (.int (0 : Int32))] []))
      obtain ⟨T20, h20, X20, e20, E20, A20, D20, -, st20⟩ := newO X19 hx hZ hown (hw _ (List.mem_of_getElem? (i := 6) rfl)) (hw _ (List.mem_of_getElem? (i := 7) rfl)) (hw _ (List.mem_of_getElem? (i := 8) rfl)) e19 (g := (mkF m 190 #[.val (.int p0), .val (.long q1), .second, .val (.long q2), .second, .val (.long q3), .second, .val (.int (1 : Int32)), .val (.long (own_nz q1)), .second, .val (.long (own_nz q2)), .second, .val (.long (own_nz q3)), .second, .val (.ref b16), .val (.ref b18), .val (.int (0 : Int32))] [])) rfl (hb hby at_190) (by decide) (by decide)
      obtain ⟨b20, g20⟩ : ∃ z, z = h19.size := ⟨_, rfl⟩
      rw [← g20] at A20 D20 st20
      have G20 : n0 ≤ b20 := Nat.le_trans Z19 (Nat.le_of_eq g20.symm)
      have ne_b16_b20 : b16 ≠ b20 := Nat.ne_of_lt (Nat.lt_of_lt_of_le Vb16_19.lt (Nat.le_of_eq g20.symm))
      have ne_b18_b20 : b18 ≠ b20 := Nat.ne_of_lt (Nat.lt_of_lt_of_le Vb18_19.lt (Nat.le_of_eq g20.symm))
      have Vb16_20 := Vb16_19.ext E20
      have Vb18_20 := Vb18_19.ext E20
      have Z20 : n0 ≤ h20.size := Nat.le_trans Z19 E20.1
      have Fb20indices : Fld Z h20 b20 "com/example/netz/netz/net/SparseVector" "indices" "[I" .null := D20 (Or.inr (hw _ (List.mem_of_getElem? (i := 16) rfl))) (ty := (.array .int)) (by decide)
      have Fb20values : Fld Z h20 b20 "com/example/netz/netz/net/SparseVector" "values" "[J" .null := D20 (Or.inr (hw _ (List.mem_of_getElem? (i := 18) rfl))) (ty := (.array .long)) (by decide)
      refine own_st (fun zw zk => st20 zw zk) ?_
      refine own_st (fun zw zk => XS.dup X20.here hx rfl (hb hby at_193) rfl rfl zk) ?_
      refine own_st (fun zw zk => XS.aload X20.here hx rfl (hb hby at_194) rfl rfl zk) ?_
      refine own_st (fun zw zk => XS.aload X20.here hx rfl (hb hby at_196) rfl rfl zk) ?_
      obtain ⟨_, _, ⟨T21, L21, k21, n21⟩, -, X21, ⟨Lc21, hQ21, l21, y21, z21⟩, st21⟩ := X20.specialBack hx (y := (⟨"com/example/netz/netz/net/SparseVector", "<init>", "([I[J)V"⟩ : MethodName)) rfl hown (mvT hZ (hw _ (List.mem_of_getElem? (i := 9) rfl))) (mvT hZ (hw _ (List.mem_of_getElem? (i := 10) rfl))) (mvT hZ (hw _ (List.mem_of_getElem? (i := 11) rfl))) (by decide) (backOf (W := 1) (rm2 l Z a0 hw [] b20 b16 b18 h20 n0 Z20 (A20) (Fb20indices) (Fb20values) (G20)) hZ (hw _ (List.mem_of_getElem? (i := 11) rfl)) (hw _ (List.mem_of_getElem? (i := 8) rfl)) (by decide) (by decide)) (g := (mkF m 198 #[.val (.int p0), .val (.long q1), .second, .val (.long q2), .second, .val (.long q3), .second, .val (.int (1 : Int32)), .val (.long (own_nz q1)), .second, .val (.long (own_nz q2)), .second, .val (.long (own_nz q3)), .second, .val (.ref b16), .val (.ref b18), .val (.int (0 : Int32))] [(.ref b18), (.ref b16), (.ref b20), (.ref b20)])) rfl (by rw [hml]; rfl) (Steps.refl _) (a := b20) (argsL := [(.ref b16), (.ref b18)]) (rest := [(.ref b20)]) (lenOf pd_1 rfl) rfl (by show 2 * 0 + _ ≤ _; exact Nat.le_of_eq rfl) (hb hby at_198) (fun _ _ => ⟨rfl, e20, (by decide : 3 + 0 ≤ _), (by decide : 4 + 0 ≤ _)⟩)
      dsimp only [Pt.U, Pt.locs, Pt.cells, Pt.slots] at X21 l21 y21 z21 st21 hQ21
      subst l21 y21 z21
      obtain ⟨rfl, N21q, K21, O21_0, O21_1, O21_2⟩ := hQ21
      have Vb16_21 := Vb16_20.keep K21 (ninS ne_b16_b20 nin0)
      have Vb18_21 := Vb18_20.keep K21 (ninS ne_b18_b20 nin0)
      have Ab20_21 := A20.keep K21
      have Z21 : n0 ≤ T21.heap.size := Nat.le_trans Z20 K21.1
      have N21 := Fr.app N19 N21q
      refine own_jp st21 ?_
      obtain ⟨cq22, kq22, q22a, q22b, q22c⟩ := isOf hZ rfl O21_0
      obtain ⟨_, _, ⟨T22, L22, k22, n22⟩, -, X22, ⟨Lc22, hQ22, l22, y22, z22⟩, st22⟩ := X21.virtualBack hx (y := (⟨"com/example/netz/netz/net/SparseVector", "isNonNegative", "()Z"⟩ : MethodName)) (z := (⟨"com/example/netz/netz/net/SparseVector", "isNonNegative", "()Z"⟩ : MethodName)) hown (mvT hZ (hw _ (List.mem_of_getElem? (i := 19) rfl))) (mvT hZ (hw _ (List.mem_of_getElem? (i := 20) rfl))) (notFace_of_selects (args := #[]) (mvT hZ (hw _ (List.mem_of_getElem? (i := 22) rfl)))) (mvT hZ (hw _ (List.mem_of_getElem? (i := 22) rfl))) (mvT hZ (hw _ (List.mem_of_getElem? (i := 21) rfl))) (by decide) (backOf (W := 0) (rm4_1 l Z a0 hw [] b20 b18 (own_nz q1) T21.heap n0 Z21 (O21_2) (Vb18_21)) hZ (hw _ (List.mem_of_getElem? (i := 23) rfl)) (hw _ (List.mem_of_getElem? (i := 8) rfl)) (by decide) (by decide)) q22a q22c (g := (mkF m 201 #[.val (.int p0), .val (.long q1), .second, .val (.long q2), .second, .val (.long q3), .second, .val (.int (1 : Int32)), .val (.long (own_nz q1)), .second, .val (.long (own_nz q2)), .second, .val (.long (own_nz q3)), .second, .val (.ref b16), .val (.ref b18), .val (.int (0 : Int32))] [(.ref b20)])) rfl (by rw [hml]; rfl) (Steps.refl _) (argsL := []) (rest := []) (lenOf pd_2 rfl) rfl (by show 2 * 0 + _ ≤ _; exact Nat.le_of_eq rfl) (hb hby at_201) (fun _ _ => ⟨rfl, rfl, (by decide : 3 + 0 ≤ _), (by decide : 4 + 0 ≤ _)⟩)
      dsimp only [Pt.U, Pt.locs, Pt.cells, Pt.slots] at X22 l22 y22 z22 st22 hQ22
      subst l22 y22 z22
      obtain ⟨rfl, N22q, e22⟩ := hQ22
      have N22 := Fr.app N21 N22q
      refine own_jp st22 ?_
      refine own_st (fun zw zk => XS.iload X22.here hx rfl (hb hby at_204) rfl zk) ?_
      have hc206 : (own_nn1 (own_nz q1)) = (0 : Int32) := by unfold own_nn1; rw [if_pos hc154]
      refine own_st (fun zw zk => XS.icmpNo X22.here hx rfl (hb hby at_206) rfl (teq hc206).2 zk) ?_
      show own_Go p e below G (T22.setTop (mkF m 209 #[.val (.int p0), .val (.long q1), .second, .val (.long q2), .second, .val (.long q3), .second, .val (.int (1 : Int32)), .val (.long (own_nz q1)), .second, .val (.long (own_nz q2)), .second, .val (.long (own_nz q3)), .second, .val (.ref b16), .val (.ref b18), .val (.int (0 : Int32))] []))
      refine own_st (fun zw zk => XS.iconst X22.here hx rfl (hb hby at_209) zk) ?_
      refine own_st (fun zw zk => XS.goto X22.here hx rfl (pc0 := 210) (pc' := 214) rfl (hb hby at_210) (by decide) (by decide) zk) ?_
      show own_Go p e below G (T22.setTop (mkF m 214 #[.val (.int p0), .val (.long q1), .second, .val (.long q2), .second, .val (.long q3), .second, .val (.int (1 : Int32)), .val (.long (own_nz q1)), .second, .val (.long (own_nz q2)), .second, .val (.long (own_nz q3)), .second, .val (.ref b16), .val (.ref b18), .val (.int (0 : Int32))] [(.int (1 : Int32))]))
      subst hG
      obtain ⟨fs, hr, hrun, hended, hW, hsame⟩ := X22.leave (v := some (.int (1 : Int32))) (fun h => by rw [Bd.returns] at h; cases h)
      refine ⟨_, retN X22 hx (t := .boolean) Bd.returns (by simp) (hb hby at_214) hr, _, hrun, hended, _, _, rfl, ?_, ⟨_, rfl⟩, hW, hsame.mono (by decide) (by decide)⟩
      show Q0 Z p0 q1 q2 q3 h0 n0 _ T22.heap _
      rw [e22]
      exact ⟨rfl, N22⟩
    · refine own_st (fun zw zk => XS.ifNo X19.here hx rfl (hb hby at_154) rfl ((if0 _ _).trans (flt (own_fll hc154)).1) zk) ?_
      refine own_st (fun zw zk => XS.iload X19.here hx rfl (hb hby at_157) rfl zk) ?_
      show own_Go p e below G (T19.setTop (mkF m 159 #[.val (.int p0), .val (.long q1), .second, .val (.long q2), .second, .val (.long q3), .second, .val (.int (1 : Int32)), .val (.long (own_nz q1)), .second, .val (.long (own_nz q2)), .second, .val (.long (own_nz q3)), .second, .val (.ref b16), .val (.ref b18), .unset] [(.int (1 : Int32))]))
      refine own_st (fun zw zk => XS.iconst X19.here hx rfl (hb hby at_159) zk) ?_
      refine own_st (fun zw zk => XS.icmpYes X19.here hx rfl (pc0 := 160) (pc' := 170) rfl (hb hby at_160) rfl (tlt (by decide : (1 : Int32) < (2 : Int32))).1 (by decide) (by decide) zk) ?_
      refine own_st (fun zw zk => XS.iload X19.here hx rfl (hb hby at_170) rfl zk) ?_
      refine own_st (fun zw zk => XS.iconst X19.here hx rfl (hb hby at_172) zk) ?_
      refine own_st (fun zw zk => XS.icmpYes X19.here hx rfl (pc0 := 173) (pc' := 183) rfl (hb hby at_173) rfl (tlt (by decide : (1 : Int32) < (3 : Int32))).1 (by decide) (by decide) zk) ?_
      refine own_st (fun zw zk => XS.iconst X19.here hx rfl (hb hby at_183) zk) ?_
      refine own_st (fun zw zk => XS.goto X19.here hx rfl (pc0 := 184) (pc' := 188) rfl (hb hby at_184) (by decide) (by decide) zk) ?_
      show own_Go p e below G (T19.setTop (mkF m 188 #[.val (.int p0), .val (.long q1), .second, .val (.long q2), .second, .val (.long q3), .second, .val (.int (1 : Int32)), .val (.long (own_nz q1)), .second, .val (.long (own_nz q2)), .second, .val (.long (own_nz q3)), .second, .val (.ref b16), .val (.ref b18), .unset] [(.int (1 : Int32))]))
      refine own_st (fun zw zk => XS.istore X19.here hx rfl (hb hby at_188) rfl rfl zk) ?_
      show own_Go p e below G (T19.setTop (mkF m 190 #[.val (.int p0), .val (.long q1), .second, .val (.long q2), .second, .val (.long q3), .second, .val (.int (1 : Int32)), .val (.long (own_nz q1)), .second, .val (.long (own_nz q2)), .second, .val (.long (own_nz q3)), .second, .val (.ref b16), .val (.ref b18), .val (.int (1 : Int32))] []))
      obtain ⟨T23, h23, X23, e23, E23, A23, D23, -, st23⟩ := newO X19 hx hZ hown (hw _ (List.mem_of_getElem? (i := 6) rfl)) (hw _ (List.mem_of_getElem? (i := 7) rfl)) (hw _ (List.mem_of_getElem? (i := 8) rfl)) e19 (g := (mkF m 190 #[.val (.int p0), .val (.long q1), .second, .val (.long q2), .second, .val (.long q3), .second, .val (.int (1 : Int32)), .val (.long (own_nz q1)), .second, .val (.long (own_nz q2)), .second, .val (.long (own_nz q3)), .second, .val (.ref b16), .val (.ref b18), .val (.int (1 : Int32))] [])) rfl (hb hby at_190) (by decide) (by decide)
      obtain ⟨b23, g23⟩ : ∃ z, z = h19.size := ⟨_, rfl⟩
      rw [← g23] at A23 D23 st23
      have G23 : n0 ≤ b23 := Nat.le_trans Z19 (Nat.le_of_eq g23.symm)
      have ne_b16_b23 : b16 ≠ b23 := Nat.ne_of_lt (Nat.lt_of_lt_of_le Vb16_19.lt (Nat.le_of_eq g23.symm))
      have ne_b18_b23 : b18 ≠ b23 := Nat.ne_of_lt (Nat.lt_of_lt_of_le Vb18_19.lt (Nat.le_of_eq g23.symm))
      have Vb16_23 := Vb16_19.ext E23
      have Vb18_23 := Vb18_19.ext E23
      have Z23 : n0 ≤ h23.size := Nat.le_trans Z19 E23.1
      have Fb23indices : Fld Z h23 b23 "com/example/netz/netz/net/SparseVector" "indices" "[I" .null := D23 (Or.inr (hw _ (List.mem_of_getElem? (i := 16) rfl))) (ty := (.array .int)) (by decide)
      have Fb23values : Fld Z h23 b23 "com/example/netz/netz/net/SparseVector" "values" "[J" .null := D23 (Or.inr (hw _ (List.mem_of_getElem? (i := 18) rfl))) (ty := (.array .long)) (by decide)
      refine own_st (fun zw zk => st23 zw zk) ?_
      refine own_st (fun zw zk => XS.dup X23.here hx rfl (hb hby at_193) rfl rfl zk) ?_
      refine own_st (fun zw zk => XS.aload X23.here hx rfl (hb hby at_194) rfl rfl zk) ?_
      refine own_st (fun zw zk => XS.aload X23.here hx rfl (hb hby at_196) rfl rfl zk) ?_
      obtain ⟨_, _, ⟨T24, L24, k24, n24⟩, -, X24, ⟨Lc24, hQ24, l24, y24, z24⟩, st24⟩ := X23.specialBack hx (y := (⟨"com/example/netz/netz/net/SparseVector", "<init>", "([I[J)V"⟩ : MethodName)) rfl hown (mvT hZ (hw _ (List.mem_of_getElem? (i := 9) rfl))) (mvT hZ (hw _ (List.mem_of_getElem? (i := 10) rfl))) (mvT hZ (hw _ (List.mem_of_getElem? (i := 11) rfl))) (by decide) (backOf (W := 1) (rm2 l Z a0 hw [] b23 b16 b18 h23 n0 Z23 (A23) (Fb23indices) (Fb23values) (G23)) hZ (hw _ (List.mem_of_getElem? (i := 11) rfl)) (hw _ (List.mem_of_getElem? (i := 8) rfl)) (by decide) (by decide)) (g := (mkF m 198 #[.val (.int p0), .val (.long q1), .second, .val (.long q2), .second, .val (.long q3), .second, .val (.int (1 : Int32)), .val (.long (own_nz q1)), .second, .val (.long (own_nz q2)), .second, .val (.long (own_nz q3)), .second, .val (.ref b16), .val (.ref b18), .val (.int (1 : Int32))] [(.ref b18), (.ref b16), (.ref b23), (.ref b23)])) rfl (by rw [hml]; rfl) (Steps.refl _) (a := b23) (argsL := [(.ref b16), (.ref b18)]) (rest := [(.ref b23)]) (lenOf pd_1 rfl) rfl (by show 2 * 0 + _ ≤ _; exact Nat.le_of_eq rfl) (hb hby at_198) (fun _ _ => ⟨rfl, e23, (by decide : 3 + 0 ≤ _), (by decide : 4 + 0 ≤ _)⟩)
      dsimp only [Pt.U, Pt.locs, Pt.cells, Pt.slots] at X24 l24 y24 z24 st24 hQ24
      subst l24 y24 z24
      obtain ⟨rfl, N24q, K24, O24_0, O24_1, O24_2⟩ := hQ24
      have Vb16_24 := Vb16_23.keep K24 (ninS ne_b16_b23 nin0)
      have Vb18_24 := Vb18_23.keep K24 (ninS ne_b18_b23 nin0)
      have Ab23_24 := A23.keep K24
      have Z24 : n0 ≤ T24.heap.size := Nat.le_trans Z23 K24.1
      have N24 := Fr.app N19 N24q
      refine own_jp st24 ?_
      obtain ⟨cq25, kq25, q25a, q25b, q25c⟩ := isOf hZ rfl O24_0
      obtain ⟨_, _, ⟨T25, L25, k25, n25⟩, -, X25, ⟨Lc25, hQ25, l25, y25, z25⟩, st25⟩ := X24.virtualBack hx (y := (⟨"com/example/netz/netz/net/SparseVector", "isNonNegative", "()Z"⟩ : MethodName)) (z := (⟨"com/example/netz/netz/net/SparseVector", "isNonNegative", "()Z"⟩ : MethodName)) hown (mvT hZ (hw _ (List.mem_of_getElem? (i := 19) rfl))) (mvT hZ (hw _ (List.mem_of_getElem? (i := 20) rfl))) (notFace_of_selects (args := #[]) (mvT hZ (hw _ (List.mem_of_getElem? (i := 22) rfl)))) (mvT hZ (hw _ (List.mem_of_getElem? (i := 22) rfl))) (mvT hZ (hw _ (List.mem_of_getElem? (i := 21) rfl))) (by decide) (backOf (W := 0) (rm4_1 l Z a0 hw [] b23 b18 (own_nz q1) T24.heap n0 Z24 (O24_2) (Vb18_24)) hZ (hw _ (List.mem_of_getElem? (i := 23) rfl)) (hw _ (List.mem_of_getElem? (i := 8) rfl)) (by decide) (by decide)) q25a q25c (g := (mkF m 201 #[.val (.int p0), .val (.long q1), .second, .val (.long q2), .second, .val (.long q3), .second, .val (.int (1 : Int32)), .val (.long (own_nz q1)), .second, .val (.long (own_nz q2)), .second, .val (.long (own_nz q3)), .second, .val (.ref b16), .val (.ref b18), .val (.int (1 : Int32))] [(.ref b23)])) rfl (by rw [hml]; rfl) (Steps.refl _) (argsL := []) (rest := []) (lenOf pd_2 rfl) rfl (by show 2 * 0 + _ ≤ _; exact Nat.le_of_eq rfl) (hb hby at_201) (fun _ _ => ⟨rfl, rfl, (by decide : 3 + 0 ≤ _), (by decide : 4 + 0 ≤ _)⟩)
      dsimp only [Pt.U, Pt.locs, Pt.cells, Pt.slots] at X25 l25 y25 z25 st25 hQ25
      subst l25 y25 z25
      obtain ⟨rfl, N25q, e25⟩ := hQ25
      have N25 := Fr.app N24 N25q
      refine own_jp st25 ?_
      refine own_st (fun zw zk => XS.iload X25.here hx rfl (hb hby at_204) rfl zk) ?_
      have hc206 : (own_nn1 (own_nz q1)) = (1 : Int32) := by unfold own_nn1; rw [if_neg hc154]
      refine own_st (fun zw zk => XS.icmpNo X25.here hx rfl (hb hby at_206) rfl (teq hc206).2 zk) ?_
      show own_Go p e below G (T25.setTop (mkF m 209 #[.val (.int p0), .val (.long q1), .second, .val (.long q2), .second, .val (.long q3), .second, .val (.int (1 : Int32)), .val (.long (own_nz q1)), .second, .val (.long (own_nz q2)), .second, .val (.long (own_nz q3)), .second, .val (.ref b16), .val (.ref b18), .val (.int (1 : Int32))] []))
      refine own_st (fun zw zk => XS.iconst X25.here hx rfl (hb hby at_209) zk) ?_
      refine own_st (fun zw zk => XS.goto X25.here hx rfl (pc0 := 210) (pc' := 214) rfl (hb hby at_210) (by decide) (by decide) zk) ?_
      show own_Go p e below G (T25.setTop (mkF m 214 #[.val (.int p0), .val (.long q1), .second, .val (.long q2), .second, .val (.long q3), .second, .val (.int (1 : Int32)), .val (.long (own_nz q1)), .second, .val (.long (own_nz q2)), .second, .val (.long (own_nz q3)), .second, .val (.ref b16), .val (.ref b18), .val (.int (1 : Int32))] [(.int (1 : Int32))]))
      subst hG
      obtain ⟨fs, hr, hrun, hended, hW, hsame⟩ := X25.leave (v := some (.int (1 : Int32))) (fun h => by rw [Bd.returns] at h; cases h)
      refine ⟨_, retN X25 hx (t := .boolean) Bd.returns (by simp) (hb hby at_214) hr, _, hrun, hended, _, _, rfl, ?_, ⟨_, rfl⟩, hW, hsame.mono (by decide) (by decide)⟩
      show Q0 Z p0 q1 q2 q3 h0 n0 _ T25.heap _
      rw [e25]
      exact ⟨rfl, N25⟩
  · refine own_st (fun zw zk => XS.iload X10.here hx rfl (hb hby at_24) rfl zk) ?_
    refine own_st (fun zw zk => XS.ifYes X10.here hx rfl (pc0 := 26) (pc' := 42) rfl (hb hby at_26) rfl ((if0 _ _).trans (feq (by decide : ¬ ((2 : Int32) = (0 : Int32)))).2) (by decide) (by decide) zk) ?_
    refine own_st (fun zw zk => XS.iload X10.here hx rfl (hb hby at_42) rfl zk) ?_
    refine own_st (fun zw zk => XS.iconst X10.here hx rfl (hb hby at_44) zk) ?_
    refine own_st (fun zw zk => XS.icmpYes X10.here hx rfl (pc0 := 45) (pc' := 70) rfl (hb hby at_45) rfl (feq (by decide : ¬ ((2 : Int32) = (1 : Int32)))).2 (by decide) (by decide) zk) ?_
    refine own_st (fun zw zk => XS.iload X10.here hx rfl (hb hby at_70) rfl zk) ?_
    refine own_st (fun zw zk => XS.iconst X10.here hx rfl (hb hby at_72) zk) ?_
    refine own_st (fun zw zk => XS.icmpNo X10.here hx rfl (hb hby at_73) rfl (teq (by decide : (2 : Int32) = (2 : Int32))).2 zk) ?_
    show own_Go p e below G (T10.setTop (mkF m 76 #[.val (.int p0), .val (.long q1), .second, .val (.long q2), .second, .val (.long q3), .second, .val (.int (2 : Int32)), .val (.long (own_nz q1)), .second, .val (.long (own_nz q2)), .second, .val (.long (own_nz q3)), .second, .unset, .unset, .unset] []))
    refine own_st (fun zw zk => XS.iconst X10.here hx rfl (hb hby at_76) zk) ?_
    obtain ⟨T26, h26, k26, X26, e26, E26, A26, st26⟩ := newP X10 hx hZ (hw _ (List.mem_of_getElem? (i := 4) rfl)) e10 (g := (mkF m 77 #[.val (.int p0), .val (.long q1), .second, .val (.long q2), .second, .val (.long q3), .second, .val (.int (2 : Int32)), .val (.long (own_nz q1)), .second, .val (.long (own_nz q2)), .second, .val (.long (own_nz q3)), .second, .unset, .unset, .unset] [(.int (2 : Int32))])) rfl (hb hby at_77) rfl (by decide) (cap := 2) (by decide) (by decide) (by decide) (by decide)
    obtain ⟨b26, g26⟩ : ∃ z, z = h0.size := ⟨_, rfl⟩
    rw [← g26] at A26 st26
    have G26 : n0 ≤ b26 := Nat.le_trans Z0 (Nat.le_of_eq g26.symm)
    have Z26 : n0 ≤ h26.size := Nat.le_trans Z0 E26.1
    have V26 : own_L Z h26 b26 .int ([(.int (0 : Int32)), (.int (0 : Int32))]) := own_L.new A26
    refine own_st (fun zw zk => st26 zw zk) ?_
    refine own_st (fun zw zk => XS.dup X26.here hx rfl (hb hby at_79) rfl rfl zk) ?_
    refine own_st (fun zw zk => XS.iconst X26.here hx rfl (hb hby at_80) zk) ?_
    refine own_st (fun zw zk => XS.iconst X26.here hx rfl (hb hby at_81) zk) ?_
    obtain ⟨T27, h27, X27, e27, W27, V27, st27⟩ := own_ist X26 hx hZ e26 V26 (j := (0 : Int32)) (0) (by decide) (by decide) (Nat.le_of_ble_eq_true rfl) (g := (mkF m 82 #[.val (.int p0), .val (.long q1), .second, .val (.long q2), .second, .val (.long q3), .second, .val (.int (2 : Int32)), .val (.long (own_nz q1)), .second, .val (.long (own_nz q2)), .second, .val (.long (own_nz q3)), .second, .unset, .unset, .unset] [(.int (0 : Int32)), (.int (0 : Int32)), (.ref b26), (.ref b26)])) rfl rfl (hb hby at_82)
    have Vb26_27 : own_L Z h27 b26 .int ([(.int (0 : Int32)), (.int (0 : Int32))]) := V27
    have N27 := Fr.snoc X27 N10 G26
    refine own_st (fun zw zk => st27 zw zk) ?_
    have Z27 : n0 ≤ h27.size := Nat.le_trans Z26 (Keep.of_wr W27).1
    refine own_st (fun zw zk => XS.dup X27.here hx rfl (hb hby at_83) rfl rfl zk) ?_
    refine own_st (fun zw zk => XS.iconst X27.here hx rfl (hb hby at_84) zk) ?_
    show own_Go p e below G (T27.setTop (mkF m 85 #[.val (.int p0), .val (.long q1), .second, .val (.long q2), .second, .val (.long q3), .second, .val (.int (2 : Int32)), .val (.long (own_nz q1)), .second, .val (.long (own_nz q2)), .second, .val (.long (own_nz q3)), .second, .unset, .unset, .unset] [(.int (1 : Int32)), (.ref b26), (.ref b26)]))
    refine own_st (fun zw zk => XS.iconst X27.here hx rfl (hb hby at_85) zk) ?_
    obtain ⟨T28, h28, X28, e28, W28, V28, st28⟩ := own_ist X27 hx hZ e27 Vb26_27 (j := (1 : Int32)) (1) (by decide) (by decide) (Nat.le_of_ble_eq_true rfl) (g := (mkF m 86 #[.val (.int p0), .val (.long q1), .second, .val (.long q2), .second, .val (.long q3), .second, .val (.int (2 : Int32)), .val (.long (own_nz q1)), .second, .val (.long (own_nz q2)), .second, .val (.long (own_nz q3)), .second, .unset, .unset, .unset] [(.int (1 : Int32)), (.int (1 : Int32)), (.ref b26), (.ref b26)])) rfl rfl (hb hby at_86)
    have Vb26_28 : own_L Z h28 b26 .int ([(.int (0 : Int32)), (.int (1 : Int32))]) := V28
    have N28 := Fr.snoc X28 N27 G26
    refine own_st (fun zw zk => st28 zw zk) ?_
    have Z28 : n0 ≤ h28.size := Nat.le_trans Z27 (Keep.of_wr W28).1
    refine own_st (fun zw zk => XS.astore X28.here hx rfl (hb hby at_87) rfl rfl rfl zk) ?_
    show own_Go p e below G (T28.setTop (mkF m 89 #[.val (.int p0), .val (.long q1), .second, .val (.long q2), .second, .val (.long q3), .second, .val (.int (2 : Int32)), .val (.long (own_nz q1)), .second, .val (.long (own_nz q2)), .second, .val (.long (own_nz q3)), .second, .val (.ref b26), .unset, .unset] []))
    refine own_st (fun zw zk => XS.iconst X28.here hx rfl (hb hby at_89) zk) ?_
    obtain ⟨T29, h29, k29, X29, e29, E29, A29, st29⟩ := newP X28 hx hZ (hw _ (List.mem_of_getElem? (i := 5) rfl)) e28 (g := (mkF m 90 #[.val (.int p0), .val (.long q1), .second, .val (.long q2), .second, .val (.long q3), .second, .val (.int (2 : Int32)), .val (.long (own_nz q1)), .second, .val (.long (own_nz q2)), .second, .val (.long (own_nz q3)), .second, .val (.ref b26), .unset, .unset] [(.int (2 : Int32))])) rfl (hb hby at_90) rfl (by decide) (cap := 2) (by decide) (by decide) (by decide) (by decide)
    obtain ⟨b29, g29⟩ : ∃ z, z = h28.size := ⟨_, rfl⟩
    rw [← g29] at A29 st29
    have G29 : n0 ≤ b29 := Nat.le_trans Z28 (Nat.le_of_eq g29.symm)
    have ne_b26_b29 : b26 ≠ b29 := Nat.ne_of_lt (Nat.lt_of_lt_of_le Vb26_28.lt (Nat.le_of_eq g29.symm))
    have Vb26_29 := Vb26_28.ext E29
    have Z29 : n0 ≤ h29.size := Nat.le_trans Z28 E29.1
    have V29 : own_L Z h29 b29 .long ([(.long (0 : Int64)), (.long (0 : Int64))]) := own_L.new A29
    refine own_st (fun zw zk => st29 zw zk) ?_
    refine own_st (fun zw zk => XS.dup X29.here hx rfl (hb hby at_92) rfl rfl zk) ?_
    refine own_st (fun zw zk => XS.iconst X29.here hx rfl (hb hby at_93) zk) ?_
    refine own_st (fun zw zk => XS.lload X29.here hx rfl (hb hby at_94) rfl zk) ?_
    obtain ⟨T30, h30, X30, e30, W30, V30, st30⟩ := own_jst X29 hx hZ e29 V29 (j := (0 : Int32)) (0) (by decide) (by decide) (Nat.le_of_ble_eq_true rfl) (g := (mkF m 96 #[.val (.int p0), .val (.long q1), .second, .val (.long q2), .second, .val (.long q3), .second, .val (.int (2 : Int32)), .val (.long (own_nz q1)), .second, .val (.long (own_nz q2)), .second, .val (.long (own_nz q3)), .second, .val (.ref b26), .unset, .unset] [(.long (own_nz q1)), (.int (0 : Int32)), (.ref b29), (.ref b29)])) rfl rfl (hb hby at_96)
    have Vb29_30 : own_L Z h30 b29 .long ([(.long (own_nz q1)), (.long (0 : Int64))]) := V30
    have N30 := Fr.snoc X30 N28 G29
    refine own_st (fun zw zk => st30 zw zk) ?_
    have Vb26_30 := Vb26_29.other W30 ne_b26_b29
    have Z30 : n0 ≤ h30.size := Nat.le_trans Z29 (Keep.of_wr W30).1
    refine own_st (fun zw zk => XS.dup X30.here hx rfl (hb hby at_97) rfl rfl zk) ?_
    refine own_st (fun zw zk => XS.iconst X30.here hx rfl (hb hby at_98) zk) ?_
    show own_Go p e below G (T30.setTop (mkF m 99 #[.val (.int p0), .val (.long q1), .second, .val (.long q2), .second, .val (.long q3), .second, .val (.int (2 : Int32)), .val (.long (own_nz q1)), .second, .val (.long (own_nz q2)), .second, .val (.long (own_nz q3)), .second, .val (.ref b26), .unset, .unset] [(.int (1 : Int32)), (.ref b29), (.ref b29)]))
    refine own_st (fun zw zk => XS.lload X30.here hx rfl (hb hby at_99) rfl zk) ?_
    obtain ⟨T31, h31, X31, e31, W31, V31, st31⟩ := own_jst X30 hx hZ e30 Vb29_30 (j := (1 : Int32)) (1) (by decide) (by decide) (Nat.le_of_ble_eq_true rfl) (g := (mkF m 101 #[.val (.int p0), .val (.long q1), .second, .val (.long q2), .second, .val (.long q3), .second, .val (.int (2 : Int32)), .val (.long (own_nz q1)), .second, .val (.long (own_nz q2)), .second, .val (.long (own_nz q3)), .second, .val (.ref b26), .unset, .unset] [(.long (own_nz q2)), (.int (1 : Int32)), (.ref b29), (.ref b29)])) rfl rfl (hb hby at_101)
    have Vb29_31 : own_L Z h31 b29 .long ([(.long (own_nz q1)), (.long (own_nz q2))]) := V31
    have N31 := Fr.snoc X31 N30 G29
    refine own_st (fun zw zk => st31 zw zk) ?_
    have Vb26_31 := Vb26_30.other W31 ne_b26_b29
    have Z31 : n0 ≤ h31.size := Nat.le_trans Z30 (Keep.of_wr W31).1
    refine own_st (fun zw zk => XS.astore X31.here hx rfl (hb hby at_102) rfl rfl rfl zk) ?_
    show own_Go p e below G (T31.setTop (mkF m 104 #[.val (.int p0), .val (.long q1), .second, .val (.long q2), .second, .val (.long q3), .second, .val (.int (2 : Int32)), .val (.long (own_nz q1)), .second, .val (.long (own_nz q2)), .second, .val (.long (own_nz q3)), .second, .val (.ref b26), .val (.ref b29), .unset] []))
    refine own_st (fun zw zk => XS.goto X31.here hx rfl (pc0 := 104) (pc' := 144) rfl (hb hby at_104) (by decide) (by decide) zk) ?_
    show own_Go p e below G (T31.setTop (mkF m 144 #[.val (.int p0), .val (.long q1), .second, .val (.long q2), .second, .val (.long q3), .second, .val (.int (2 : Int32)), .val (.long (own_nz q1)), .second, .val (.long (own_nz q2)), .second, .val (.long (own_nz q3)), .second, .val (.ref b26), .val (.ref b29), .unset] []))
    refine own_st (fun zw zk => XS.iload X31.here hx rfl (hb hby at_144) rfl zk) ?_
    refine own_st (fun zw zk => XS.iconst X31.here hx rfl (hb hby at_146) zk) ?_
    refine own_st (fun zw zk => XS.icmpNo X31.here hx rfl (hb hby at_147) rfl (flt (by decide : ¬ ((2 : Int32) < (1 : Int32)))).1 zk) ?_
    refine own_st (fun zw zk => XS.lload X31.here hx rfl (hb hby at_150) rfl zk) ?_
    refine own_st (fun zw zk => XS.lconst X31.here hx rfl (hb hby at_152) zk) ?_
    refine own_st (fun zw zk => XS.lcmp X31.here hx rfl (hb hby at_153) rfl zk) ?_
    by_cases hc154 : (own_nz q1) < (0 : Int64)
    · refine own_st (fun zw zk => XS.ifYes X31.here hx rfl (pc0 := 154) (pc' := 187) rfl (hb hby at_154) rfl ((if0 _ _).trans (tlt (own_tll hc154)).1) (by decide) (by decide) zk) ?_
      refine own_st (fun zw zk => XS.iconst X31.here hx rfl (hb hby at_187) zk) ?_
      show own_Go p e below G (T31.setTop (mkF m 188 #[.val (.int p0), .val (.long q1), .second, .val (.long q2), .second, .val (.long q3), .second, .val (.int (2 : Int32)), .val (.long (own_nz q1)), .second, .val (.long (own_nz q2)), .second, .val (.long (own_nz q3)), .second, .val (.ref b26), .val (.ref b29), .unset] [(.int (0 : Int32))]))
      refine own_st (fun zw zk => XS.istore X31.here hx rfl (hb hby at_188) rfl rfl zk) ?_
      show own_Go p e below G (T31.setTop (mkF m 190 #[.val (.int p0), .val (.long q1), .second, .val (.long q2), .second, .val (.long q3), .second, .val (.int (2 : Int32)), .val (.long (own_nz q1)), .second, .val (.long (own_nz q2)), .second, .val (.long (own_nz q3)), .second, .val (.ref b26), .val (.ref b29), .val (.int (0 : Int32))] []))
      obtain ⟨T32, h32, X32, e32, E32, A32, D32, -, st32⟩ := newO X31 hx hZ hown (hw _ (List.mem_of_getElem? (i := 6) rfl)) (hw _ (List.mem_of_getElem? (i := 7) rfl)) (hw _ (List.mem_of_getElem? (i := 8) rfl)) e31 (g := (mkF m 190 #[.val (.int p0), .val (.long q1), .second, .val (.long q2), .second, .val (.long q3), .second, .val (.int (2 : Int32)), .val (.long (own_nz q1)), .second, .val (.long (own_nz q2)), .second, .val (.long (own_nz q3)), .second, .val (.ref b26), .val (.ref b29), .val (.int (0 : Int32))] [])) rfl (hb hby at_190) (by decide) (by decide)
      obtain ⟨b32, g32⟩ : ∃ z, z = h31.size := ⟨_, rfl⟩
      rw [← g32] at A32 D32 st32
      have G32 : n0 ≤ b32 := Nat.le_trans Z31 (Nat.le_of_eq g32.symm)
      have ne_b26_b32 : b26 ≠ b32 := Nat.ne_of_lt (Nat.lt_of_lt_of_le Vb26_31.lt (Nat.le_of_eq g32.symm))
      have ne_b29_b32 : b29 ≠ b32 := Nat.ne_of_lt (Nat.lt_of_lt_of_le Vb29_31.lt (Nat.le_of_eq g32.symm))
      have Vb26_32 := Vb26_31.ext E32
      have Vb29_32 := Vb29_31.ext E32
      have Z32 : n0 ≤ h32.size := Nat.le_trans Z31 E32.1
      have Fb32indices : Fld Z h32 b32 "com/example/netz/netz/net/SparseVector" "indices" "[I" .null := D32 (Or.inr (hw _ (List.mem_of_getElem? (i := 16) rfl))) (ty := (.array .int)) (by decide)
      have Fb32values : Fld Z h32 b32 "com/example/netz/netz/net/SparseVector" "values" "[J" .null := D32 (Or.inr (hw _ (List.mem_of_getElem? (i := 18) rfl))) (ty := (.array .long)) (by decide)
      refine own_st (fun zw zk => st32 zw zk) ?_
      refine own_st (fun zw zk => XS.dup X32.here hx rfl (hb hby at_193) rfl rfl zk) ?_
      refine own_st (fun zw zk => XS.aload X32.here hx rfl (hb hby at_194) rfl rfl zk) ?_
      refine own_st (fun zw zk => XS.aload X32.here hx rfl (hb hby at_196) rfl rfl zk) ?_
      obtain ⟨_, _, ⟨T33, L33, k33, n33⟩, -, X33, ⟨Lc33, hQ33, l33, y33, z33⟩, st33⟩ := X32.specialBack hx (y := (⟨"com/example/netz/netz/net/SparseVector", "<init>", "([I[J)V"⟩ : MethodName)) rfl hown (mvT hZ (hw _ (List.mem_of_getElem? (i := 9) rfl))) (mvT hZ (hw _ (List.mem_of_getElem? (i := 10) rfl))) (mvT hZ (hw _ (List.mem_of_getElem? (i := 11) rfl))) (by decide) (backOf (W := 1) (rm2 l Z a0 hw [] b32 b26 b29 h32 n0 Z32 (A32) (Fb32indices) (Fb32values) (G32)) hZ (hw _ (List.mem_of_getElem? (i := 11) rfl)) (hw _ (List.mem_of_getElem? (i := 8) rfl)) (by decide) (by decide)) (g := (mkF m 198 #[.val (.int p0), .val (.long q1), .second, .val (.long q2), .second, .val (.long q3), .second, .val (.int (2 : Int32)), .val (.long (own_nz q1)), .second, .val (.long (own_nz q2)), .second, .val (.long (own_nz q3)), .second, .val (.ref b26), .val (.ref b29), .val (.int (0 : Int32))] [(.ref b29), (.ref b26), (.ref b32), (.ref b32)])) rfl (by rw [hml]; rfl) (Steps.refl _) (a := b32) (argsL := [(.ref b26), (.ref b29)]) (rest := [(.ref b32)]) (lenOf pd_1 rfl) rfl (by show 2 * 0 + _ ≤ _; exact Nat.le_of_eq rfl) (hb hby at_198) (fun _ _ => ⟨rfl, e32, (by decide : 3 + 0 ≤ _), (by decide : 6 + 0 ≤ _)⟩)
      dsimp only [Pt.U, Pt.locs, Pt.cells, Pt.slots] at X33 l33 y33 z33 st33 hQ33
      subst l33 y33 z33
      obtain ⟨rfl, N33q, K33, O33_0, O33_1, O33_2⟩ := hQ33
      have Vb26_33 := Vb26_32.keep K33 (ninS ne_b26_b32 nin0)
      have Vb29_33 := Vb29_32.keep K33 (ninS ne_b29_b32 nin0)
      have Ab32_33 := A32.keep K33
      have Z33 : n0 ≤ T33.heap.size := Nat.le_trans Z32 K33.1
      have N33 := Fr.app N31 N33q
      refine own_jp st33 ?_
      obtain ⟨cq34, kq34, q34a, q34b, q34c⟩ := isOf hZ rfl O33_0
      obtain ⟨_, _, ⟨T34, L34, k34, n34⟩, -, X34, ⟨Lc34, hQ34, l34, y34, z34⟩, st34⟩ := X33.virtualBack hx (y := (⟨"com/example/netz/netz/net/SparseVector", "isNonNegative", "()Z"⟩ : MethodName)) (z := (⟨"com/example/netz/netz/net/SparseVector", "isNonNegative", "()Z"⟩ : MethodName)) hown (mvT hZ (hw _ (List.mem_of_getElem? (i := 19) rfl))) (mvT hZ (hw _ (List.mem_of_getElem? (i := 20) rfl))) (notFace_of_selects (args := #[]) (mvT hZ (hw _ (List.mem_of_getElem? (i := 22) rfl)))) (mvT hZ (hw _ (List.mem_of_getElem? (i := 22) rfl))) (mvT hZ (hw _ (List.mem_of_getElem? (i := 21) rfl))) (by decide) (backOf (W := 0) (rm4_2 l Z a0 hw [] b32 b29 (own_nz q1) (own_nz q2) T33.heap n0 Z33 (O33_2) (Vb29_33)) hZ (hw _ (List.mem_of_getElem? (i := 23) rfl)) (hw _ (List.mem_of_getElem? (i := 8) rfl)) (by decide) (by decide)) q34a q34c (g := (mkF m 201 #[.val (.int p0), .val (.long q1), .second, .val (.long q2), .second, .val (.long q3), .second, .val (.int (2 : Int32)), .val (.long (own_nz q1)), .second, .val (.long (own_nz q2)), .second, .val (.long (own_nz q3)), .second, .val (.ref b26), .val (.ref b29), .val (.int (0 : Int32))] [(.ref b32)])) rfl (by rw [hml]; rfl) (Steps.refl _) (argsL := []) (rest := []) (lenOf pd_2 rfl) rfl (by show 2 * 0 + _ ≤ _; exact Nat.le_of_eq rfl) (hb hby at_201) (fun _ _ => ⟨rfl, rfl, (by decide : 3 + 0 ≤ _), (by decide : 6 + 0 ≤ _)⟩)
      dsimp only [Pt.U, Pt.locs, Pt.cells, Pt.slots] at X34 l34 y34 z34 st34 hQ34
      subst l34 y34 z34
      obtain ⟨rfl, N34q, e34⟩ := hQ34
      have N34 := Fr.app N33 N34q
      refine own_jp st34 ?_
      refine own_st (fun zw zk => XS.iload X34.here hx rfl (hb hby at_204) rfl zk) ?_
      have hc206 : (own_nn2 (own_nz q1) (own_nz q2)) = (0 : Int32) := by unfold own_nn2; rw [if_pos hc154]
      refine own_st (fun zw zk => XS.icmpNo X34.here hx rfl (hb hby at_206) rfl (teq hc206).2 zk) ?_
      show own_Go p e below G (T34.setTop (mkF m 209 #[.val (.int p0), .val (.long q1), .second, .val (.long q2), .second, .val (.long q3), .second, .val (.int (2 : Int32)), .val (.long (own_nz q1)), .second, .val (.long (own_nz q2)), .second, .val (.long (own_nz q3)), .second, .val (.ref b26), .val (.ref b29), .val (.int (0 : Int32))] []))
      refine own_st (fun zw zk => XS.iconst X34.here hx rfl (hb hby at_209) zk) ?_
      refine own_st (fun zw zk => XS.goto X34.here hx rfl (pc0 := 210) (pc' := 214) rfl (hb hby at_210) (by decide) (by decide) zk) ?_
      show own_Go p e below G (T34.setTop (mkF m 214 #[.val (.int p0), .val (.long q1), .second, .val (.long q2), .second, .val (.long q3), .second, .val (.int (2 : Int32)), .val (.long (own_nz q1)), .second, .val (.long (own_nz q2)), .second, .val (.long (own_nz q3)), .second, .val (.ref b26), .val (.ref b29), .val (.int (0 : Int32))] [(.int (1 : Int32))]))
      subst hG
      obtain ⟨fs, hr, hrun, hended, hW, hsame⟩ := X34.leave (v := some (.int (1 : Int32))) (fun h => by rw [Bd.returns] at h; cases h)
      refine ⟨_, retN X34 hx (t := .boolean) Bd.returns (by simp) (hb hby at_214) hr, _, hrun, hended, _, _, rfl, ?_, ⟨_, rfl⟩, hW, hsame.mono (by decide) (by decide)⟩
      show Q0 Z p0 q1 q2 q3 h0 n0 _ T34.heap _
      rw [e34]
      exact ⟨rfl, N34⟩
    · refine own_st (fun zw zk => XS.ifNo X31.here hx rfl (hb hby at_154) rfl ((if0 _ _).trans (flt (own_fll hc154)).1) zk) ?_
      refine own_st (fun zw zk => XS.iload X31.here hx rfl (hb hby at_157) rfl zk) ?_
      show own_Go p e below G (T31.setTop (mkF m 159 #[.val (.int p0), .val (.long q1), .second, .val (.long q2), .second, .val (.long q3), .second, .val (.int (2 : Int32)), .val (.long (own_nz q1)), .second, .val (.long (own_nz q2)), .second, .val (.long (own_nz q3)), .second, .val (.ref b26), .val (.ref b29), .unset] [(.int (2 : Int32))]))
      refine own_st (fun zw zk => XS.iconst X31.here hx rfl (hb hby at_159) zk) ?_
      refine own_st (fun zw zk => XS.icmpNo X31.here hx rfl (hb hby at_160) rfl (flt (by decide : ¬ ((2 : Int32) < (2 : Int32)))).1 zk) ?_
      refine own_st (fun zw zk => XS.lload X31.here hx rfl (hb hby at_163) rfl zk) ?_
      refine own_st (fun zw zk => XS.lconst X31.here hx rfl (hb hby at_165) zk) ?_
      refine own_st (fun zw zk => XS.lcmp X31.here hx rfl (hb hby at_166) rfl zk) ?_
      by_cases hc167 : (own_nz q2) < (0 : Int64)
      · refine own_st (fun zw zk => XS.ifYes X31.here hx rfl (pc0 := 167) (pc' := 187) rfl (hb hby at_167) rfl ((if0 _ _).trans (tlt (own_tll hc167)).1) (by decide) (by decide) zk) ?_
        refine own_st (fun zw zk => XS.iconst X31.here hx rfl (hb hby at_187) zk) ?_
        refine own_st (fun zw zk => XS.istore X31.here hx rfl (hb hby at_188) rfl rfl zk) ?_
        show own_Go p e below G (T31.setTop (mkF m 190 #[.val (.int p0), .val (.long q1), .second, .val (.long q2), .second, .val (.long q3), .second, .val (.int (2 : Int32)), .val (.long (own_nz q1)), .second, .val (.long (own_nz q2)), .second, .val (.long (own_nz q3)), .second, .val (.ref b26), .val (.ref b29), .val (.int (0 : Int32))] []))
        obtain ⟨T35, h35, X35, e35, E35, A35, D35, -, st35⟩ := newO X31 hx hZ hown (hw _ (List.mem_of_getElem? (i := 6) rfl)) (hw _ (List.mem_of_getElem? (i := 7) rfl)) (hw _ (List.mem_of_getElem? (i := 8) rfl)) e31 (g := (mkF m 190 #[.val (.int p0), .val (.long q1), .second, .val (.long q2), .second, .val (.long q3), .second, .val (.int (2 : Int32)), .val (.long (own_nz q1)), .second, .val (.long (own_nz q2)), .second, .val (.long (own_nz q3)), .second, .val (.ref b26), .val (.ref b29), .val (.int (0 : Int32))] [])) rfl (hb hby at_190) (by decide) (by decide)
        obtain ⟨b35, g35⟩ : ∃ z, z = h31.size := ⟨_, rfl⟩
        rw [← g35] at A35 D35 st35
        have G35 : n0 ≤ b35 := Nat.le_trans Z31 (Nat.le_of_eq g35.symm)
        have ne_b26_b35 : b26 ≠ b35 := Nat.ne_of_lt (Nat.lt_of_lt_of_le Vb26_31.lt (Nat.le_of_eq g35.symm))
        have ne_b29_b35 : b29 ≠ b35 := Nat.ne_of_lt (Nat.lt_of_lt_of_le Vb29_31.lt (Nat.le_of_eq g35.symm))
        have Vb26_35 := Vb26_31.ext E35
        have Vb29_35 := Vb29_31.ext E35
        have Z35 : n0 ≤ h35.size := Nat.le_trans Z31 E35.1
        have Fb35indices : Fld Z h35 b35 "com/example/netz/netz/net/SparseVector" "indices" "[I" .null := D35 (Or.inr (hw _ (List.mem_of_getElem? (i := 16) rfl))) (ty := (.array .int)) (by decide)
        have Fb35values : Fld Z h35 b35 "com/example/netz/netz/net/SparseVector" "values" "[J" .null := D35 (Or.inr (hw _ (List.mem_of_getElem? (i := 18) rfl))) (ty := (.array .long)) (by decide)
        refine own_st (fun zw zk => st35 zw zk) ?_
        refine own_st (fun zw zk => XS.dup X35.here hx rfl (hb hby at_193) rfl rfl zk) ?_
        refine own_st (fun zw zk => XS.aload X35.here hx rfl (hb hby at_194) rfl rfl zk) ?_
        refine own_st (fun zw zk => XS.aload X35.here hx rfl (hb hby at_196) rfl rfl zk) ?_
        obtain ⟨_, _, ⟨T36, L36, k36, n36⟩, -, X36, ⟨Lc36, hQ36, l36, y36, z36⟩, st36⟩ := X35.specialBack hx (y := (⟨"com/example/netz/netz/net/SparseVector", "<init>", "([I[J)V"⟩ : MethodName)) rfl hown (mvT hZ (hw _ (List.mem_of_getElem? (i := 9) rfl))) (mvT hZ (hw _ (List.mem_of_getElem? (i := 10) rfl))) (mvT hZ (hw _ (List.mem_of_getElem? (i := 11) rfl))) (by decide) (backOf (W := 1) (rm2 l Z a0 hw [] b35 b26 b29 h35 n0 Z35 (A35) (Fb35indices) (Fb35values) (G35)) hZ (hw _ (List.mem_of_getElem? (i := 11) rfl)) (hw _ (List.mem_of_getElem? (i := 8) rfl)) (by decide) (by decide)) (g := (mkF m 198 #[.val (.int p0), .val (.long q1), .second, .val (.long q2), .second, .val (.long q3), .second, .val (.int (2 : Int32)), .val (.long (own_nz q1)), .second, .val (.long (own_nz q2)), .second, .val (.long (own_nz q3)), .second, .val (.ref b26), .val (.ref b29), .val (.int (0 : Int32))] [(.ref b29), (.ref b26), (.ref b35), (.ref b35)])) rfl (by rw [hml]; rfl) (Steps.refl _) (a := b35) (argsL := [(.ref b26), (.ref b29)]) (rest := [(.ref b35)]) (lenOf pd_1 rfl) rfl (by show 2 * 0 + _ ≤ _; exact Nat.le_of_eq rfl) (hb hby at_198) (fun _ _ => ⟨rfl, e35, (by decide : 3 + 0 ≤ _), (by decide : 6 + 0 ≤ _)⟩)
        dsimp only [Pt.U, Pt.locs, Pt.cells, Pt.slots] at X36 l36 y36 z36 st36 hQ36
        subst l36 y36 z36
        obtain ⟨rfl, N36q, K36, O36_0, O36_1, O36_2⟩ := hQ36
        have Vb26_36 := Vb26_35.keep K36 (ninS ne_b26_b35 nin0)
        have Vb29_36 := Vb29_35.keep K36 (ninS ne_b29_b35 nin0)
        have Ab35_36 := A35.keep K36
        have Z36 : n0 ≤ T36.heap.size := Nat.le_trans Z35 K36.1
        have N36 := Fr.app N31 N36q
        refine own_jp st36 ?_
        obtain ⟨cq37, kq37, q37a, q37b, q37c⟩ := isOf hZ rfl O36_0
        obtain ⟨_, _, ⟨T37, L37, k37, n37⟩, -, X37, ⟨Lc37, hQ37, l37, y37, z37⟩, st37⟩ := X36.virtualBack hx (y := (⟨"com/example/netz/netz/net/SparseVector", "isNonNegative", "()Z"⟩ : MethodName)) (z := (⟨"com/example/netz/netz/net/SparseVector", "isNonNegative", "()Z"⟩ : MethodName)) hown (mvT hZ (hw _ (List.mem_of_getElem? (i := 19) rfl))) (mvT hZ (hw _ (List.mem_of_getElem? (i := 20) rfl))) (notFace_of_selects (args := #[]) (mvT hZ (hw _ (List.mem_of_getElem? (i := 22) rfl)))) (mvT hZ (hw _ (List.mem_of_getElem? (i := 22) rfl))) (mvT hZ (hw _ (List.mem_of_getElem? (i := 21) rfl))) (by decide) (backOf (W := 0) (rm4_2 l Z a0 hw [] b35 b29 (own_nz q1) (own_nz q2) T36.heap n0 Z36 (O36_2) (Vb29_36)) hZ (hw _ (List.mem_of_getElem? (i := 23) rfl)) (hw _ (List.mem_of_getElem? (i := 8) rfl)) (by decide) (by decide)) q37a q37c (g := (mkF m 201 #[.val (.int p0), .val (.long q1), .second, .val (.long q2), .second, .val (.long q3), .second, .val (.int (2 : Int32)), .val (.long (own_nz q1)), .second, .val (.long (own_nz q2)), .second, .val (.long (own_nz q3)), .second, .val (.ref b26), .val (.ref b29), .val (.int (0 : Int32))] [(.ref b35)])) rfl (by rw [hml]; rfl) (Steps.refl _) (argsL := []) (rest := []) (lenOf pd_2 rfl) rfl (by show 2 * 0 + _ ≤ _; exact Nat.le_of_eq rfl) (hb hby at_201) (fun _ _ => ⟨rfl, rfl, (by decide : 3 + 0 ≤ _), (by decide : 6 + 0 ≤ _)⟩)
        dsimp only [Pt.U, Pt.locs, Pt.cells, Pt.slots] at X37 l37 y37 z37 st37 hQ37
        subst l37 y37 z37
        obtain ⟨rfl, N37q, e37⟩ := hQ37
        have N37 := Fr.app N36 N37q
        refine own_jp st37 ?_
        refine own_st (fun zw zk => XS.iload X37.here hx rfl (hb hby at_204) rfl zk) ?_
        have hc206 : (own_nn2 (own_nz q1) (own_nz q2)) = (0 : Int32) := by unfold own_nn2; rw [if_neg hc154, if_pos hc167]
        refine own_st (fun zw zk => XS.icmpNo X37.here hx rfl (hb hby at_206) rfl (teq hc206).2 zk) ?_
        show own_Go p e below G (T37.setTop (mkF m 209 #[.val (.int p0), .val (.long q1), .second, .val (.long q2), .second, .val (.long q3), .second, .val (.int (2 : Int32)), .val (.long (own_nz q1)), .second, .val (.long (own_nz q2)), .second, .val (.long (own_nz q3)), .second, .val (.ref b26), .val (.ref b29), .val (.int (0 : Int32))] []))
        refine own_st (fun zw zk => XS.iconst X37.here hx rfl (hb hby at_209) zk) ?_
        refine own_st (fun zw zk => XS.goto X37.here hx rfl (pc0 := 210) (pc' := 214) rfl (hb hby at_210) (by decide) (by decide) zk) ?_
        show own_Go p e below G (T37.setTop (mkF m 214 #[.val (.int p0), .val (.long q1), .second, .val (.long q2), .second, .val (.long q3), .second, .val (.int (2 : Int32)), .val (.long (own_nz q1)), .second, .val (.long (own_nz q2)), .second, .val (.long (own_nz q3)), .second, .val (.ref b26), .val (.ref b29), .val (.int (0 : Int32))] [(.int (1 : Int32))]))
        subst hG
        obtain ⟨fs, hr, hrun, hended, hW, hsame⟩ := X37.leave (v := some (.int (1 : Int32))) (fun h => by rw [Bd.returns] at h; cases h)
        refine ⟨_, retN X37 hx (t := .boolean) Bd.returns (by simp) (hb hby at_214) hr, _, hrun, hended, _, _, rfl, ?_, ⟨_, rfl⟩, hW, hsame.mono (by decide) (by decide)⟩
        show Q0 Z p0 q1 q2 q3 h0 n0 _ T37.heap _
        rw [e37]
        exact ⟨rfl, N37⟩
      · refine own_st (fun zw zk => XS.ifNo X31.here hx rfl (hb hby at_167) rfl ((if0 _ _).trans (flt (own_fll hc167)).1) zk) ?_
        refine own_st (fun zw zk => XS.iload X31.here hx rfl (hb hby at_170) rfl zk) ?_
        refine own_st (fun zw zk => XS.iconst X31.here hx rfl (hb hby at_172) zk) ?_
        show own_Go p e below G (T31.setTop (mkF m 173 #[.val (.int p0), .val (.long q1), .second, .val (.long q2), .second, .val (.long q3), .second, .val (.int (2 : Int32)), .val (.long (own_nz q1)), .second, .val (.long (own_nz q2)), .second, .val (.long (own_nz q3)), .second, .val (.ref b26), .val (.ref b29), .unset] [(.int (3 : Int32)), (.int (2 : Int32))]))
        refine own_st (fun zw zk => XS.icmpYes X31.here hx rfl (pc0 := 173) (pc' := 183) rfl (hb hby at_173) rfl (tlt (by decide : (2 : Int32) < (3 : Int32))).1 (by decide) (by decide) zk) ?_
        refine own_st (fun zw zk => XS.iconst X31.here hx rfl (hb hby at_183) zk) ?_
        refine own_st (fun zw zk => XS.goto X31.here hx rfl (pc0 := 184) (pc' := 188) rfl (hb hby at_184) (by decide) (by decide) zk) ?_
        show own_Go p e below G (T31.setTop (mkF m 188 #[.val (.int p0), .val (.long q1), .second, .val (.long q2), .second, .val (.long q3), .second, .val (.int (2 : Int32)), .val (.long (own_nz q1)), .second, .val (.long (own_nz q2)), .second, .val (.long (own_nz q3)), .second, .val (.ref b26), .val (.ref b29), .unset] [(.int (1 : Int32))]))
        refine own_st (fun zw zk => XS.istore X31.here hx rfl (hb hby at_188) rfl rfl zk) ?_
        show own_Go p e below G (T31.setTop (mkF m 190 #[.val (.int p0), .val (.long q1), .second, .val (.long q2), .second, .val (.long q3), .second, .val (.int (2 : Int32)), .val (.long (own_nz q1)), .second, .val (.long (own_nz q2)), .second, .val (.long (own_nz q3)), .second, .val (.ref b26), .val (.ref b29), .val (.int (1 : Int32))] []))
        obtain ⟨T38, h38, X38, e38, E38, A38, D38, -, st38⟩ := newO X31 hx hZ hown (hw _ (List.mem_of_getElem? (i := 6) rfl)) (hw _ (List.mem_of_getElem? (i := 7) rfl)) (hw _ (List.mem_of_getElem? (i := 8) rfl)) e31 (g := (mkF m 190 #[.val (.int p0), .val (.long q1), .second, .val (.long q2), .second, .val (.long q3), .second, .val (.int (2 : Int32)), .val (.long (own_nz q1)), .second, .val (.long (own_nz q2)), .second, .val (.long (own_nz q3)), .second, .val (.ref b26), .val (.ref b29), .val (.int (1 : Int32))] [])) rfl (hb hby at_190) (by decide) (by decide)
        obtain ⟨b38, g38⟩ : ∃ z, z = h31.size := ⟨_, rfl⟩
        rw [← g38] at A38 D38 st38
        have G38 : n0 ≤ b38 := Nat.le_trans Z31 (Nat.le_of_eq g38.symm)
        have ne_b26_b38 : b26 ≠ b38 := Nat.ne_of_lt (Nat.lt_of_lt_of_le Vb26_31.lt (Nat.le_of_eq g38.symm))
        have ne_b29_b38 : b29 ≠ b38 := Nat.ne_of_lt (Nat.lt_of_lt_of_le Vb29_31.lt (Nat.le_of_eq g38.symm))
        have Vb26_38 := Vb26_31.ext E38
        have Vb29_38 := Vb29_31.ext E38
        have Z38 : n0 ≤ h38.size := Nat.le_trans Z31 E38.1
        have Fb38indices : Fld Z h38 b38 "com/example/netz/netz/net/SparseVector" "indices" "[I" .null := D38 (Or.inr (hw _ (List.mem_of_getElem? (i := 16) rfl))) (ty := (.array .int)) (by decide)
        have Fb38values : Fld Z h38 b38 "com/example/netz/netz/net/SparseVector" "values" "[J" .null := D38 (Or.inr (hw _ (List.mem_of_getElem? (i := 18) rfl))) (ty := (.array .long)) (by decide)
        refine own_st (fun zw zk => st38 zw zk) ?_
        refine own_st (fun zw zk => XS.dup X38.here hx rfl (hb hby at_193) rfl rfl zk) ?_
        refine own_st (fun zw zk => XS.aload X38.here hx rfl (hb hby at_194) rfl rfl zk) ?_
        refine own_st (fun zw zk => XS.aload X38.here hx rfl (hb hby at_196) rfl rfl zk) ?_
        obtain ⟨_, _, ⟨T39, L39, k39, n39⟩, -, X39, ⟨Lc39, hQ39, l39, y39, z39⟩, st39⟩ := X38.specialBack hx (y := (⟨"com/example/netz/netz/net/SparseVector", "<init>", "([I[J)V"⟩ : MethodName)) rfl hown (mvT hZ (hw _ (List.mem_of_getElem? (i := 9) rfl))) (mvT hZ (hw _ (List.mem_of_getElem? (i := 10) rfl))) (mvT hZ (hw _ (List.mem_of_getElem? (i := 11) rfl))) (by decide) (backOf (W := 1) (rm2 l Z a0 hw [] b38 b26 b29 h38 n0 Z38 (A38) (Fb38indices) (Fb38values) (G38)) hZ (hw _ (List.mem_of_getElem? (i := 11) rfl)) (hw _ (List.mem_of_getElem? (i := 8) rfl)) (by decide) (by decide)) (g := (mkF m 198 #[.val (.int p0), .val (.long q1), .second, .val (.long q2), .second, .val (.long q3), .second, .val (.int (2 : Int32)), .val (.long (own_nz q1)), .second, .val (.long (own_nz q2)), .second, .val (.long (own_nz q3)), .second, .val (.ref b26), .val (.ref b29), .val (.int (1 : Int32))] [(.ref b29), (.ref b26), (.ref b38), (.ref b38)])) rfl (by rw [hml]; rfl) (Steps.refl _) (a := b38) (argsL := [(.ref b26), (.ref b29)]) (rest := [(.ref b38)]) (lenOf pd_1 rfl) rfl (by show 2 * 0 + _ ≤ _; exact Nat.le_of_eq rfl) (hb hby at_198) (fun _ _ => ⟨rfl, e38, (by decide : 3 + 0 ≤ _), (by decide : 6 + 0 ≤ _)⟩)
        dsimp only [Pt.U, Pt.locs, Pt.cells, Pt.slots] at X39 l39 y39 z39 st39 hQ39
        subst l39 y39 z39
        obtain ⟨rfl, N39q, K39, O39_0, O39_1, O39_2⟩ := hQ39
        have Vb26_39 := Vb26_38.keep K39 (ninS ne_b26_b38 nin0)
        have Vb29_39 := Vb29_38.keep K39 (ninS ne_b29_b38 nin0)
        have Ab38_39 := A38.keep K39
        have Z39 : n0 ≤ T39.heap.size := Nat.le_trans Z38 K39.1
        have N39 := Fr.app N31 N39q
        refine own_jp st39 ?_
        obtain ⟨cq40, kq40, q40a, q40b, q40c⟩ := isOf hZ rfl O39_0
        obtain ⟨_, _, ⟨T40, L40, k40, n40⟩, -, X40, ⟨Lc40, hQ40, l40, y40, z40⟩, st40⟩ := X39.virtualBack hx (y := (⟨"com/example/netz/netz/net/SparseVector", "isNonNegative", "()Z"⟩ : MethodName)) (z := (⟨"com/example/netz/netz/net/SparseVector", "isNonNegative", "()Z"⟩ : MethodName)) hown (mvT hZ (hw _ (List.mem_of_getElem? (i := 19) rfl))) (mvT hZ (hw _ (List.mem_of_getElem? (i := 20) rfl))) (notFace_of_selects (args := #[]) (mvT hZ (hw _ (List.mem_of_getElem? (i := 22) rfl)))) (mvT hZ (hw _ (List.mem_of_getElem? (i := 22) rfl))) (mvT hZ (hw _ (List.mem_of_getElem? (i := 21) rfl))) (by decide) (backOf (W := 0) (rm4_2 l Z a0 hw [] b38 b29 (own_nz q1) (own_nz q2) T39.heap n0 Z39 (O39_2) (Vb29_39)) hZ (hw _ (List.mem_of_getElem? (i := 23) rfl)) (hw _ (List.mem_of_getElem? (i := 8) rfl)) (by decide) (by decide)) q40a q40c (g := (mkF m 201 #[.val (.int p0), .val (.long q1), .second, .val (.long q2), .second, .val (.long q3), .second, .val (.int (2 : Int32)), .val (.long (own_nz q1)), .second, .val (.long (own_nz q2)), .second, .val (.long (own_nz q3)), .second, .val (.ref b26), .val (.ref b29), .val (.int (1 : Int32))] [(.ref b38)])) rfl (by rw [hml]; rfl) (Steps.refl _) (argsL := []) (rest := []) (lenOf pd_2 rfl) rfl (by show 2 * 0 + _ ≤ _; exact Nat.le_of_eq rfl) (hb hby at_201) (fun _ _ => ⟨rfl, rfl, (by decide : 3 + 0 ≤ _), (by decide : 6 + 0 ≤ _)⟩)
        dsimp only [Pt.U, Pt.locs, Pt.cells, Pt.slots] at X40 l40 y40 z40 st40 hQ40
        subst l40 y40 z40
        obtain ⟨rfl, N40q, e40⟩ := hQ40
        have N40 := Fr.app N39 N40q
        refine own_jp st40 ?_
        refine own_st (fun zw zk => XS.iload X40.here hx rfl (hb hby at_204) rfl zk) ?_
        have hc206 : (own_nn2 (own_nz q1) (own_nz q2)) = (1 : Int32) := by unfold own_nn2; rw [if_neg hc154, if_neg hc167]
        refine own_st (fun zw zk => XS.icmpNo X40.here hx rfl (hb hby at_206) rfl (teq hc206).2 zk) ?_
        show own_Go p e below G (T40.setTop (mkF m 209 #[.val (.int p0), .val (.long q1), .second, .val (.long q2), .second, .val (.long q3), .second, .val (.int (2 : Int32)), .val (.long (own_nz q1)), .second, .val (.long (own_nz q2)), .second, .val (.long (own_nz q3)), .second, .val (.ref b26), .val (.ref b29), .val (.int (1 : Int32))] []))
        refine own_st (fun zw zk => XS.iconst X40.here hx rfl (hb hby at_209) zk) ?_
        refine own_st (fun zw zk => XS.goto X40.here hx rfl (pc0 := 210) (pc' := 214) rfl (hb hby at_210) (by decide) (by decide) zk) ?_
        show own_Go p e below G (T40.setTop (mkF m 214 #[.val (.int p0), .val (.long q1), .second, .val (.long q2), .second, .val (.long q3), .second, .val (.int (2 : Int32)), .val (.long (own_nz q1)), .second, .val (.long (own_nz q2)), .second, .val (.long (own_nz q3)), .second, .val (.ref b26), .val (.ref b29), .val (.int (1 : Int32))] [(.int (1 : Int32))]))
        subst hG
        obtain ⟨fs, hr, hrun, hended, hW, hsame⟩ := X40.leave (v := some (.int (1 : Int32))) (fun h => by rw [Bd.returns] at h; cases h)
        refine ⟨_, retN X40 hx (t := .boolean) Bd.returns (by simp) (hb hby at_214) hr, _, hrun, hended, _, _, rfl, ?_, ⟨_, rfl⟩, hW, hsame.mono (by decide) (by decide)⟩
        show Q0 Z p0 q1 q2 q3 h0 n0 _ T40.heap _
        rw [e40]
        exact ⟨rfl, N40⟩
  · refine own_st (fun zw zk => XS.iload X10.here hx rfl (hb hby at_24) rfl zk) ?_
    refine own_st (fun zw zk => XS.ifYes X10.here hx rfl (pc0 := 26) (pc' := 42) rfl (hb hby at_26) rfl ((if0 _ _).trans (feq (by decide : ¬ ((3 : Int32) = (0 : Int32)))).2) (by decide) (by decide) zk) ?_
    refine own_st (fun zw zk => XS.iload X10.here hx rfl (hb hby at_42) rfl zk) ?_
    refine own_st (fun zw zk => XS.iconst X10.here hx rfl (hb hby at_44) zk) ?_
    refine own_st (fun zw zk => XS.icmpYes X10.here hx rfl (pc0 := 45) (pc' := 70) rfl (hb hby at_45) rfl (feq (by decide : ¬ ((3 : Int32) = (1 : Int32)))).2 (by decide) (by decide) zk) ?_
    refine own_st (fun zw zk => XS.iload X10.here hx rfl (hb hby at_70) rfl zk) ?_
    refine own_st (fun zw zk => XS.iconst X10.here hx rfl (hb hby at_72) zk) ?_
    refine own_st (fun zw zk => XS.icmpYes X10.here hx rfl (pc0 := 73) (pc' := 107) rfl (hb hby at_73) rfl (feq (by decide : ¬ ((3 : Int32) = (2 : Int32)))).2 (by decide) (by decide) zk) ?_
    show own_Go p e below G (T10.setTop (mkF m 107 #[.val (.int p0), .val (.long q1), .second, .val (.long q2), .second, .val (.long q3), .second, .val (.int (3 : Int32)), .val (.long (own_nz q1)), .second, .val (.long (own_nz q2)), .second, .val (.long (own_nz q3)), .second, .unset, .unset, .unset] []))
    refine own_st (fun zw zk => XS.iconst X10.here hx rfl (hb hby at_107) zk) ?_
    obtain ⟨T41, h41, k41, X41, e41, E41, A41, st41⟩ := newP X10 hx hZ (hw _ (List.mem_of_getElem? (i := 4) rfl)) e10 (g := (mkF m 108 #[.val (.int p0), .val (.long q1), .second, .val (.long q2), .second, .val (.long q3), .second, .val (.int (3 : Int32)), .val (.long (own_nz q1)), .second, .val (.long (own_nz q2)), .second, .val (.long (own_nz q3)), .second, .unset, .unset, .unset] [(.int (3 : Int32))])) rfl (hb hby at_108) rfl (by decide) (cap := 3) (by decide) (by decide) (by decide) (by decide)
    obtain ⟨b41, g41⟩ : ∃ z, z = h0.size := ⟨_, rfl⟩
    rw [← g41] at A41 st41
    have G41 : n0 ≤ b41 := Nat.le_trans Z0 (Nat.le_of_eq g41.symm)
    have Z41 : n0 ≤ h41.size := Nat.le_trans Z0 E41.1
    have V41 : own_L Z h41 b41 .int ([(.int (0 : Int32)), (.int (0 : Int32)), (.int (0 : Int32))]) := own_L.new A41
    refine own_st (fun zw zk => st41 zw zk) ?_
    refine own_st (fun zw zk => XS.dup X41.here hx rfl (hb hby at_110) rfl rfl zk) ?_
    refine own_st (fun zw zk => XS.iconst X41.here hx rfl (hb hby at_111) zk) ?_
    refine own_st (fun zw zk => XS.iconst X41.here hx rfl (hb hby at_112) zk) ?_
    obtain ⟨T42, h42, X42, e42, W42, V42, st42⟩ := own_ist X41 hx hZ e41 V41 (j := (0 : Int32)) (0) (by decide) (by decide) (Nat.le_of_ble_eq_true rfl) (g := (mkF m 113 #[.val (.int p0), .val (.long q1), .second, .val (.long q2), .second, .val (.long q3), .second, .val (.int (3 : Int32)), .val (.long (own_nz q1)), .second, .val (.long (own_nz q2)), .second, .val (.long (own_nz q3)), .second, .unset, .unset, .unset] [(.int (0 : Int32)), (.int (0 : Int32)), (.ref b41), (.ref b41)])) rfl rfl (hb hby at_113)
    have Vb41_42 : own_L Z h42 b41 .int ([(.int (0 : Int32)), (.int (0 : Int32)), (.int (0 : Int32))]) := V42
    have N42 := Fr.snoc X42 N10 G41
    refine own_st (fun zw zk => st42 zw zk) ?_
    have Z42 : n0 ≤ h42.size := Nat.le_trans Z41 (Keep.of_wr W42).1
    refine own_st (fun zw zk => XS.dup X42.here hx rfl (hb hby at_114) rfl rfl zk) ?_
    refine own_st (fun zw zk => XS.iconst X42.here hx rfl (hb hby at_115) zk) ?_
    show own_Go p e below G (T42.setTop (mkF m 116 #[.val (.int p0), .val (.long q1), .second, .val (.long q2), .second, .val (.long q3), .second, .val (.int (3 : Int32)), .val (.long (own_nz q1)), .second, .val (.long (own_nz q2)), .second, .val (.long (own_nz q3)), .second, .unset, .unset, .unset] [(.int (1 : Int32)), (.ref b41), (.ref b41)]))
    refine own_st (fun zw zk => XS.iconst X42.here hx rfl (hb hby at_116) zk) ?_
    obtain ⟨T43, h43, X43, e43, W43, V43, st43⟩ := own_ist X42 hx hZ e42 Vb41_42 (j := (1 : Int32)) (1) (by decide) (by decide) (Nat.le_of_ble_eq_true rfl) (g := (mkF m 117 #[.val (.int p0), .val (.long q1), .second, .val (.long q2), .second, .val (.long q3), .second, .val (.int (3 : Int32)), .val (.long (own_nz q1)), .second, .val (.long (own_nz q2)), .second, .val (.long (own_nz q3)), .second, .unset, .unset, .unset] [(.int (1 : Int32)), (.int (1 : Int32)), (.ref b41), (.ref b41)])) rfl rfl (hb hby at_117)
    have Vb41_43 : own_L Z h43 b41 .int ([(.int (0 : Int32)), (.int (1 : Int32)), (.int (0 : Int32))]) := V43
    have N43 := Fr.snoc X43 N42 G41
    refine own_st (fun zw zk => st43 zw zk) ?_
    have Z43 : n0 ≤ h43.size := Nat.le_trans Z42 (Keep.of_wr W43).1
    refine own_st (fun zw zk => XS.dup X43.here hx rfl (hb hby at_118) rfl rfl zk) ?_
    refine own_st (fun zw zk => XS.iconst X43.here hx rfl (hb hby at_119) zk) ?_
    refine own_st (fun zw zk => XS.iconst X43.here hx rfl (hb hby at_120) zk) ?_
    obtain ⟨T44, h44, X44, e44, W44, V44, st44⟩ := own_ist X43 hx hZ e43 Vb41_43 (j := (2 : Int32)) (2) (by decide) (by decide) (Nat.le_of_ble_eq_true rfl) (g := (mkF m 121 #[.val (.int p0), .val (.long q1), .second, .val (.long q2), .second, .val (.long q3), .second, .val (.int (3 : Int32)), .val (.long (own_nz q1)), .second, .val (.long (own_nz q2)), .second, .val (.long (own_nz q3)), .second, .unset, .unset, .unset] [(.int (2 : Int32)), (.int (2 : Int32)), (.ref b41), (.ref b41)])) rfl rfl (hb hby at_121)
    have Vb41_44 : own_L Z h44 b41 .int ([(.int (0 : Int32)), (.int (1 : Int32)), (.int (2 : Int32))]) := V44
    have N44 := Fr.snoc X44 N43 G41
    refine own_st (fun zw zk => st44 zw zk) ?_
    have Z44 : n0 ≤ h44.size := Nat.le_trans Z43 (Keep.of_wr W44).1
    refine own_st (fun zw zk => XS.astore X44.here hx rfl (hb hby at_122) rfl rfl rfl zk) ?_
    show own_Go p e below G (T44.setTop (mkF m 124 #[.val (.int p0), .val (.long q1), .second, .val (.long q2), .second, .val (.long q3), .second, .val (.int (3 : Int32)), .val (.long (own_nz q1)), .second, .val (.long (own_nz q2)), .second, .val (.long (own_nz q3)), .second, .val (.ref b41), .unset, .unset] []))
    refine own_st (fun zw zk => XS.iconst X44.here hx rfl (hb hby at_124) zk) ?_
    obtain ⟨T45, h45, k45, X45, e45, E45, A45, st45⟩ := newP X44 hx hZ (hw _ (List.mem_of_getElem? (i := 5) rfl)) e44 (g := (mkF m 125 #[.val (.int p0), .val (.long q1), .second, .val (.long q2), .second, .val (.long q3), .second, .val (.int (3 : Int32)), .val (.long (own_nz q1)), .second, .val (.long (own_nz q2)), .second, .val (.long (own_nz q3)), .second, .val (.ref b41), .unset, .unset] [(.int (3 : Int32))])) rfl (hb hby at_125) rfl (by decide) (cap := 3) (by decide) (by decide) (by decide) (by decide)
    obtain ⟨b45, g45⟩ : ∃ z, z = h44.size := ⟨_, rfl⟩
    rw [← g45] at A45 st45
    have G45 : n0 ≤ b45 := Nat.le_trans Z44 (Nat.le_of_eq g45.symm)
    have ne_b41_b45 : b41 ≠ b45 := Nat.ne_of_lt (Nat.lt_of_lt_of_le Vb41_44.lt (Nat.le_of_eq g45.symm))
    have Vb41_45 := Vb41_44.ext E45
    have Z45 : n0 ≤ h45.size := Nat.le_trans Z44 E45.1
    have V45 : own_L Z h45 b45 .long ([(.long (0 : Int64)), (.long (0 : Int64)), (.long (0 : Int64))]) := own_L.new A45
    refine own_st (fun zw zk => st45 zw zk) ?_
    refine own_st (fun zw zk => XS.dup X45.here hx rfl (hb hby at_127) rfl rfl zk) ?_
    refine own_st (fun zw zk => XS.iconst X45.here hx rfl (hb hby at_128) zk) ?_
    refine own_st (fun zw zk => XS.lload X45.here hx rfl (hb hby at_129) rfl zk) ?_
    obtain ⟨T46, h46, X46, e46, W46, V46, st46⟩ := own_jst X45 hx hZ e45 V45 (j := (0 : Int32)) (0) (by decide) (by decide) (Nat.le_of_ble_eq_true rfl) (g := (mkF m 131 #[.val (.int p0), .val (.long q1), .second, .val (.long q2), .second, .val (.long q3), .second, .val (.int (3 : Int32)), .val (.long (own_nz q1)), .second, .val (.long (own_nz q2)), .second, .val (.long (own_nz q3)), .second, .val (.ref b41), .unset, .unset] [(.long (own_nz q1)), (.int (0 : Int32)), (.ref b45), (.ref b45)])) rfl rfl (hb hby at_131)
    have Vb45_46 : own_L Z h46 b45 .long ([(.long (own_nz q1)), (.long (0 : Int64)), (.long (0 : Int64))]) := V46
    have N46 := Fr.snoc X46 N44 G45
    refine own_st (fun zw zk => st46 zw zk) ?_
    have Vb41_46 := Vb41_45.other W46 ne_b41_b45
    have Z46 : n0 ≤ h46.size := Nat.le_trans Z45 (Keep.of_wr W46).1
    refine own_st (fun zw zk => XS.dup X46.here hx rfl (hb hby at_132) rfl rfl zk) ?_
    refine own_st (fun zw zk => XS.iconst X46.here hx rfl (hb hby at_133) zk) ?_
    show own_Go p e below G (T46.setTop (mkF m 134 #[.val (.int p0), .val (.long q1), .second, .val (.long q2), .second, .val (.long q3), .second, .val (.int (3 : Int32)), .val (.long (own_nz q1)), .second, .val (.long (own_nz q2)), .second, .val (.long (own_nz q3)), .second, .val (.ref b41), .unset, .unset] [(.int (1 : Int32)), (.ref b45), (.ref b45)]))
    refine own_st (fun zw zk => XS.lload X46.here hx rfl (hb hby at_134) rfl zk) ?_
    obtain ⟨T47, h47, X47, e47, W47, V47, st47⟩ := own_jst X46 hx hZ e46 Vb45_46 (j := (1 : Int32)) (1) (by decide) (by decide) (Nat.le_of_ble_eq_true rfl) (g := (mkF m 136 #[.val (.int p0), .val (.long q1), .second, .val (.long q2), .second, .val (.long q3), .second, .val (.int (3 : Int32)), .val (.long (own_nz q1)), .second, .val (.long (own_nz q2)), .second, .val (.long (own_nz q3)), .second, .val (.ref b41), .unset, .unset] [(.long (own_nz q2)), (.int (1 : Int32)), (.ref b45), (.ref b45)])) rfl rfl (hb hby at_136)
    have Vb45_47 : own_L Z h47 b45 .long ([(.long (own_nz q1)), (.long (own_nz q2)), (.long (0 : Int64))]) := V47
    have N47 := Fr.snoc X47 N46 G45
    refine own_st (fun zw zk => st47 zw zk) ?_
    have Vb41_47 := Vb41_46.other W47 ne_b41_b45
    have Z47 : n0 ≤ h47.size := Nat.le_trans Z46 (Keep.of_wr W47).1
    refine own_st (fun zw zk => XS.dup X47.here hx rfl (hb hby at_137) rfl rfl zk) ?_
    refine own_st (fun zw zk => XS.iconst X47.here hx rfl (hb hby at_138) zk) ?_
    refine own_st (fun zw zk => XS.lload X47.here hx rfl (hb hby at_139) rfl zk) ?_
    obtain ⟨T48, h48, X48, e48, W48, V48, st48⟩ := own_jst X47 hx hZ e47 Vb45_47 (j := (2 : Int32)) (2) (by decide) (by decide) (Nat.le_of_ble_eq_true rfl) (g := (mkF m 141 #[.val (.int p0), .val (.long q1), .second, .val (.long q2), .second, .val (.long q3), .second, .val (.int (3 : Int32)), .val (.long (own_nz q1)), .second, .val (.long (own_nz q2)), .second, .val (.long (own_nz q3)), .second, .val (.ref b41), .unset, .unset] [(.long (own_nz q3)), (.int (2 : Int32)), (.ref b45), (.ref b45)])) rfl rfl (hb hby at_141)
    have Vb45_48 : own_L Z h48 b45 .long ([(.long (own_nz q1)), (.long (own_nz q2)), (.long (own_nz q3))]) := V48
    have N48 := Fr.snoc X48 N47 G45
    refine own_st (fun zw zk => st48 zw zk) ?_
    have Vb41_48 := Vb41_47.other W48 ne_b41_b45
    have Z48 : n0 ≤ h48.size := Nat.le_trans Z47 (Keep.of_wr W48).1
    refine own_st (fun zw zk => XS.astore X48.here hx rfl (hb hby at_142) rfl rfl rfl zk) ?_
    show own_Go p e below G (T48.setTop (mkF m 144 #[.val (.int p0), .val (.long q1), .second, .val (.long q2), .second, .val (.long q3), .second, .val (.int (3 : Int32)), .val (.long (own_nz q1)), .second, .val (.long (own_nz q2)), .second, .val (.long (own_nz q3)), .second, .val (.ref b41), .val (.ref b45), .unset] []))
    refine own_st (fun zw zk => XS.iload X48.here hx rfl (hb hby at_144) rfl zk) ?_
    refine own_st (fun zw zk => XS.iconst X48.here hx rfl (hb hby at_146) zk) ?_
    refine own_st (fun zw zk => XS.icmpNo X48.here hx rfl (hb hby at_147) rfl (flt (by decide : ¬ ((3 : Int32) < (1 : Int32)))).1 zk) ?_
    refine own_st (fun zw zk => XS.lload X48.here hx rfl (hb hby at_150) rfl zk) ?_
    refine own_st (fun zw zk => XS.lconst X48.here hx rfl (hb hby at_152) zk) ?_
    refine own_st (fun zw zk => XS.lcmp X48.here hx rfl (hb hby at_153) rfl zk) ?_
    by_cases hc154 : (own_nz q1) < (0 : Int64)
    · refine own_st (fun zw zk => XS.ifYes X48.here hx rfl (pc0 := 154) (pc' := 187) rfl (hb hby at_154) rfl ((if0 _ _).trans (tlt (own_tll hc154)).1) (by decide) (by decide) zk) ?_
      refine own_st (fun zw zk => XS.iconst X48.here hx rfl (hb hby at_187) zk) ?_
      show own_Go p e below G (T48.setTop (mkF m 188 #[.val (.int p0), .val (.long q1), .second, .val (.long q2), .second, .val (.long q3), .second, .val (.int (3 : Int32)), .val (.long (own_nz q1)), .second, .val (.long (own_nz q2)), .second, .val (.long (own_nz q3)), .second, .val (.ref b41), .val (.ref b45), .unset] [(.int (0 : Int32))]))
      refine own_st (fun zw zk => XS.istore X48.here hx rfl (hb hby at_188) rfl rfl zk) ?_
      show own_Go p e below G (T48.setTop (mkF m 190 #[.val (.int p0), .val (.long q1), .second, .val (.long q2), .second, .val (.long q3), .second, .val (.int (3 : Int32)), .val (.long (own_nz q1)), .second, .val (.long (own_nz q2)), .second, .val (.long (own_nz q3)), .second, .val (.ref b41), .val (.ref b45), .val (.int (0 : Int32))] []))
      obtain ⟨T49, h49, X49, e49, E49, A49, D49, -, st49⟩ := newO X48 hx hZ hown (hw _ (List.mem_of_getElem? (i := 6) rfl)) (hw _ (List.mem_of_getElem? (i := 7) rfl)) (hw _ (List.mem_of_getElem? (i := 8) rfl)) e48 (g := (mkF m 190 #[.val (.int p0), .val (.long q1), .second, .val (.long q2), .second, .val (.long q3), .second, .val (.int (3 : Int32)), .val (.long (own_nz q1)), .second, .val (.long (own_nz q2)), .second, .val (.long (own_nz q3)), .second, .val (.ref b41), .val (.ref b45), .val (.int (0 : Int32))] [])) rfl (hb hby at_190) (by decide) (by decide)
      obtain ⟨b49, g49⟩ : ∃ z, z = h48.size := ⟨_, rfl⟩
      rw [← g49] at A49 D49 st49
      have G49 : n0 ≤ b49 := Nat.le_trans Z48 (Nat.le_of_eq g49.symm)
      have ne_b41_b49 : b41 ≠ b49 := Nat.ne_of_lt (Nat.lt_of_lt_of_le Vb41_48.lt (Nat.le_of_eq g49.symm))
      have ne_b45_b49 : b45 ≠ b49 := Nat.ne_of_lt (Nat.lt_of_lt_of_le Vb45_48.lt (Nat.le_of_eq g49.symm))
      have Vb41_49 := Vb41_48.ext E49
      have Vb45_49 := Vb45_48.ext E49
      have Z49 : n0 ≤ h49.size := Nat.le_trans Z48 E49.1
      have Fb49indices : Fld Z h49 b49 "com/example/netz/netz/net/SparseVector" "indices" "[I" .null := D49 (Or.inr (hw _ (List.mem_of_getElem? (i := 16) rfl))) (ty := (.array .int)) (by decide)
      have Fb49values : Fld Z h49 b49 "com/example/netz/netz/net/SparseVector" "values" "[J" .null := D49 (Or.inr (hw _ (List.mem_of_getElem? (i := 18) rfl))) (ty := (.array .long)) (by decide)
      refine own_st (fun zw zk => st49 zw zk) ?_
      refine own_st (fun zw zk => XS.dup X49.here hx rfl (hb hby at_193) rfl rfl zk) ?_
      refine own_st (fun zw zk => XS.aload X49.here hx rfl (hb hby at_194) rfl rfl zk) ?_
      refine own_st (fun zw zk => XS.aload X49.here hx rfl (hb hby at_196) rfl rfl zk) ?_
      obtain ⟨_, _, ⟨T50, L50, k50, n50⟩, -, X50, ⟨Lc50, hQ50, l50, y50, z50⟩, st50⟩ := X49.specialBack hx (y := (⟨"com/example/netz/netz/net/SparseVector", "<init>", "([I[J)V"⟩ : MethodName)) rfl hown (mvT hZ (hw _ (List.mem_of_getElem? (i := 9) rfl))) (mvT hZ (hw _ (List.mem_of_getElem? (i := 10) rfl))) (mvT hZ (hw _ (List.mem_of_getElem? (i := 11) rfl))) (by decide) (backOf (W := 1) (rm2 l Z a0 hw [] b49 b41 b45 h49 n0 Z49 (A49) (Fb49indices) (Fb49values) (G49)) hZ (hw _ (List.mem_of_getElem? (i := 11) rfl)) (hw _ (List.mem_of_getElem? (i := 8) rfl)) (by decide) (by decide)) (g := (mkF m 198 #[.val (.int p0), .val (.long q1), .second, .val (.long q2), .second, .val (.long q3), .second, .val (.int (3 : Int32)), .val (.long (own_nz q1)), .second, .val (.long (own_nz q2)), .second, .val (.long (own_nz q3)), .second, .val (.ref b41), .val (.ref b45), .val (.int (0 : Int32))] [(.ref b45), (.ref b41), (.ref b49), (.ref b49)])) rfl (by rw [hml]; rfl) (Steps.refl _) (a := b49) (argsL := [(.ref b41), (.ref b45)]) (rest := [(.ref b49)]) (lenOf pd_1 rfl) rfl (by show 2 * 0 + _ ≤ _; exact Nat.le_of_eq rfl) (hb hby at_198) (fun _ _ => ⟨rfl, e49, (by decide : 3 + 0 ≤ _), (by decide : 8 + 0 ≤ _)⟩)
      dsimp only [Pt.U, Pt.locs, Pt.cells, Pt.slots] at X50 l50 y50 z50 st50 hQ50
      subst l50 y50 z50
      obtain ⟨rfl, N50q, K50, O50_0, O50_1, O50_2⟩ := hQ50
      have Vb41_50 := Vb41_49.keep K50 (ninS ne_b41_b49 nin0)
      have Vb45_50 := Vb45_49.keep K50 (ninS ne_b45_b49 nin0)
      have Ab49_50 := A49.keep K50
      have Z50 : n0 ≤ T50.heap.size := Nat.le_trans Z49 K50.1
      have N50 := Fr.app N48 N50q
      refine own_jp st50 ?_
      obtain ⟨cq51, kq51, q51a, q51b, q51c⟩ := isOf hZ rfl O50_0
      obtain ⟨_, _, ⟨T51, L51, k51, n51⟩, -, X51, ⟨Lc51, hQ51, l51, y51, z51⟩, st51⟩ := X50.virtualBack hx (y := (⟨"com/example/netz/netz/net/SparseVector", "isNonNegative", "()Z"⟩ : MethodName)) (z := (⟨"com/example/netz/netz/net/SparseVector", "isNonNegative", "()Z"⟩ : MethodName)) hown (mvT hZ (hw _ (List.mem_of_getElem? (i := 19) rfl))) (mvT hZ (hw _ (List.mem_of_getElem? (i := 20) rfl))) (notFace_of_selects (args := #[]) (mvT hZ (hw _ (List.mem_of_getElem? (i := 22) rfl)))) (mvT hZ (hw _ (List.mem_of_getElem? (i := 22) rfl))) (mvT hZ (hw _ (List.mem_of_getElem? (i := 21) rfl))) (by decide) (backOf (W := 0) (rm4_3 l Z a0 hw [] b49 b45 (own_nz q1) (own_nz q2) (own_nz q3) T50.heap n0 Z50 (O50_2) (Vb45_50)) hZ (hw _ (List.mem_of_getElem? (i := 23) rfl)) (hw _ (List.mem_of_getElem? (i := 8) rfl)) (by decide) (by decide)) q51a q51c (g := (mkF m 201 #[.val (.int p0), .val (.long q1), .second, .val (.long q2), .second, .val (.long q3), .second, .val (.int (3 : Int32)), .val (.long (own_nz q1)), .second, .val (.long (own_nz q2)), .second, .val (.long (own_nz q3)), .second, .val (.ref b41), .val (.ref b45), .val (.int (0 : Int32))] [(.ref b49)])) rfl (by rw [hml]; rfl) (Steps.refl _) (argsL := []) (rest := []) (lenOf pd_2 rfl) rfl (by show 2 * 0 + _ ≤ _; exact Nat.le_of_eq rfl) (hb hby at_201) (fun _ _ => ⟨rfl, rfl, (by decide : 3 + 0 ≤ _), (by decide : 8 + 0 ≤ _)⟩)
      dsimp only [Pt.U, Pt.locs, Pt.cells, Pt.slots] at X51 l51 y51 z51 st51 hQ51
      subst l51 y51 z51
      obtain ⟨rfl, N51q, e51⟩ := hQ51
      have N51 := Fr.app N50 N51q
      refine own_jp st51 ?_
      refine own_st (fun zw zk => XS.iload X51.here hx rfl (hb hby at_204) rfl zk) ?_
      have hc206 : (own_nn3 (own_nz q1) (own_nz q2) (own_nz q3)) = (0 : Int32) := by unfold own_nn3; rw [if_pos hc154]
      refine own_st (fun zw zk => XS.icmpNo X51.here hx rfl (hb hby at_206) rfl (teq hc206).2 zk) ?_
      show own_Go p e below G (T51.setTop (mkF m 209 #[.val (.int p0), .val (.long q1), .second, .val (.long q2), .second, .val (.long q3), .second, .val (.int (3 : Int32)), .val (.long (own_nz q1)), .second, .val (.long (own_nz q2)), .second, .val (.long (own_nz q3)), .second, .val (.ref b41), .val (.ref b45), .val (.int (0 : Int32))] []))
      refine own_st (fun zw zk => XS.iconst X51.here hx rfl (hb hby at_209) zk) ?_
      refine own_st (fun zw zk => XS.goto X51.here hx rfl (pc0 := 210) (pc' := 214) rfl (hb hby at_210) (by decide) (by decide) zk) ?_
      show own_Go p e below G (T51.setTop (mkF m 214 #[.val (.int p0), .val (.long q1), .second, .val (.long q2), .second, .val (.long q3), .second, .val (.int (3 : Int32)), .val (.long (own_nz q1)), .second, .val (.long (own_nz q2)), .second, .val (.long (own_nz q3)), .second, .val (.ref b41), .val (.ref b45), .val (.int (0 : Int32))] [(.int (1 : Int32))]))
      subst hG
      obtain ⟨fs, hr, hrun, hended, hW, hsame⟩ := X51.leave (v := some (.int (1 : Int32))) (fun h => by rw [Bd.returns] at h; cases h)
      refine ⟨_, retN X51 hx (t := .boolean) Bd.returns (by simp) (hb hby at_214) hr, _, hrun, hended, _, _, rfl, ?_, ⟨_, rfl⟩, hW, hsame.mono (by decide) (by decide)⟩
      show Q0 Z p0 q1 q2 q3 h0 n0 _ T51.heap _
      rw [e51]
      exact ⟨rfl, N51⟩
    · refine own_st (fun zw zk => XS.ifNo X48.here hx rfl (hb hby at_154) rfl ((if0 _ _).trans (flt (own_fll hc154)).1) zk) ?_
      refine own_st (fun zw zk => XS.iload X48.here hx rfl (hb hby at_157) rfl zk) ?_
      show own_Go p e below G (T48.setTop (mkF m 159 #[.val (.int p0), .val (.long q1), .second, .val (.long q2), .second, .val (.long q3), .second, .val (.int (3 : Int32)), .val (.long (own_nz q1)), .second, .val (.long (own_nz q2)), .second, .val (.long (own_nz q3)), .second, .val (.ref b41), .val (.ref b45), .unset] [(.int (3 : Int32))]))
      refine own_st (fun zw zk => XS.iconst X48.here hx rfl (hb hby at_159) zk) ?_
      refine own_st (fun zw zk => XS.icmpNo X48.here hx rfl (hb hby at_160) rfl (flt (by decide : ¬ ((3 : Int32) < (2 : Int32)))).1 zk) ?_
      refine own_st (fun zw zk => XS.lload X48.here hx rfl (hb hby at_163) rfl zk) ?_
      refine own_st (fun zw zk => XS.lconst X48.here hx rfl (hb hby at_165) zk) ?_
      refine own_st (fun zw zk => XS.lcmp X48.here hx rfl (hb hby at_166) rfl zk) ?_
      by_cases hc167 : (own_nz q2) < (0 : Int64)
      · refine own_st (fun zw zk => XS.ifYes X48.here hx rfl (pc0 := 167) (pc' := 187) rfl (hb hby at_167) rfl ((if0 _ _).trans (tlt (own_tll hc167)).1) (by decide) (by decide) zk) ?_
        refine own_st (fun zw zk => XS.iconst X48.here hx rfl (hb hby at_187) zk) ?_
        refine own_st (fun zw zk => XS.istore X48.here hx rfl (hb hby at_188) rfl rfl zk) ?_
        show own_Go p e below G (T48.setTop (mkF m 190 #[.val (.int p0), .val (.long q1), .second, .val (.long q2), .second, .val (.long q3), .second, .val (.int (3 : Int32)), .val (.long (own_nz q1)), .second, .val (.long (own_nz q2)), .second, .val (.long (own_nz q3)), .second, .val (.ref b41), .val (.ref b45), .val (.int (0 : Int32))] []))
        obtain ⟨T52, h52, X52, e52, E52, A52, D52, -, st52⟩ := newO X48 hx hZ hown (hw _ (List.mem_of_getElem? (i := 6) rfl)) (hw _ (List.mem_of_getElem? (i := 7) rfl)) (hw _ (List.mem_of_getElem? (i := 8) rfl)) e48 (g := (mkF m 190 #[.val (.int p0), .val (.long q1), .second, .val (.long q2), .second, .val (.long q3), .second, .val (.int (3 : Int32)), .val (.long (own_nz q1)), .second, .val (.long (own_nz q2)), .second, .val (.long (own_nz q3)), .second, .val (.ref b41), .val (.ref b45), .val (.int (0 : Int32))] [])) rfl (hb hby at_190) (by decide) (by decide)
        obtain ⟨b52, g52⟩ : ∃ z, z = h48.size := ⟨_, rfl⟩
        rw [← g52] at A52 D52 st52
        have G52 : n0 ≤ b52 := Nat.le_trans Z48 (Nat.le_of_eq g52.symm)
        have ne_b41_b52 : b41 ≠ b52 := Nat.ne_of_lt (Nat.lt_of_lt_of_le Vb41_48.lt (Nat.le_of_eq g52.symm))
        have ne_b45_b52 : b45 ≠ b52 := Nat.ne_of_lt (Nat.lt_of_lt_of_le Vb45_48.lt (Nat.le_of_eq g52.symm))
        have Vb41_52 := Vb41_48.ext E52
        have Vb45_52 := Vb45_48.ext E52
        have Z52 : n0 ≤ h52.size := Nat.le_trans Z48 E52.1
        have Fb52indices : Fld Z h52 b52 "com/example/netz/netz/net/SparseVector" "indices" "[I" .null := D52 (Or.inr (hw _ (List.mem_of_getElem? (i := 16) rfl))) (ty := (.array .int)) (by decide)
        have Fb52values : Fld Z h52 b52 "com/example/netz/netz/net/SparseVector" "values" "[J" .null := D52 (Or.inr (hw _ (List.mem_of_getElem? (i := 18) rfl))) (ty := (.array .long)) (by decide)
        refine own_st (fun zw zk => st52 zw zk) ?_
        refine own_st (fun zw zk => XS.dup X52.here hx rfl (hb hby at_193) rfl rfl zk) ?_
        refine own_st (fun zw zk => XS.aload X52.here hx rfl (hb hby at_194) rfl rfl zk) ?_
        refine own_st (fun zw zk => XS.aload X52.here hx rfl (hb hby at_196) rfl rfl zk) ?_
        obtain ⟨_, _, ⟨T53, L53, k53, n53⟩, -, X53, ⟨Lc53, hQ53, l53, y53, z53⟩, st53⟩ := X52.specialBack hx (y := (⟨"com/example/netz/netz/net/SparseVector", "<init>", "([I[J)V"⟩ : MethodName)) rfl hown (mvT hZ (hw _ (List.mem_of_getElem? (i := 9) rfl))) (mvT hZ (hw _ (List.mem_of_getElem? (i := 10) rfl))) (mvT hZ (hw _ (List.mem_of_getElem? (i := 11) rfl))) (by decide) (backOf (W := 1) (rm2 l Z a0 hw [] b52 b41 b45 h52 n0 Z52 (A52) (Fb52indices) (Fb52values) (G52)) hZ (hw _ (List.mem_of_getElem? (i := 11) rfl)) (hw _ (List.mem_of_getElem? (i := 8) rfl)) (by decide) (by decide)) (g := (mkF m 198 #[.val (.int p0), .val (.long q1), .second, .val (.long q2), .second, .val (.long q3), .second, .val (.int (3 : Int32)), .val (.long (own_nz q1)), .second, .val (.long (own_nz q2)), .second, .val (.long (own_nz q3)), .second, .val (.ref b41), .val (.ref b45), .val (.int (0 : Int32))] [(.ref b45), (.ref b41), (.ref b52), (.ref b52)])) rfl (by rw [hml]; rfl) (Steps.refl _) (a := b52) (argsL := [(.ref b41), (.ref b45)]) (rest := [(.ref b52)]) (lenOf pd_1 rfl) rfl (by show 2 * 0 + _ ≤ _; exact Nat.le_of_eq rfl) (hb hby at_198) (fun _ _ => ⟨rfl, e52, (by decide : 3 + 0 ≤ _), (by decide : 8 + 0 ≤ _)⟩)
        dsimp only [Pt.U, Pt.locs, Pt.cells, Pt.slots] at X53 l53 y53 z53 st53 hQ53
        subst l53 y53 z53
        obtain ⟨rfl, N53q, K53, O53_0, O53_1, O53_2⟩ := hQ53
        have Vb41_53 := Vb41_52.keep K53 (ninS ne_b41_b52 nin0)
        have Vb45_53 := Vb45_52.keep K53 (ninS ne_b45_b52 nin0)
        have Ab52_53 := A52.keep K53
        have Z53 : n0 ≤ T53.heap.size := Nat.le_trans Z52 K53.1
        have N53 := Fr.app N48 N53q
        refine own_jp st53 ?_
        obtain ⟨cq54, kq54, q54a, q54b, q54c⟩ := isOf hZ rfl O53_0
        obtain ⟨_, _, ⟨T54, L54, k54, n54⟩, -, X54, ⟨Lc54, hQ54, l54, y54, z54⟩, st54⟩ := X53.virtualBack hx (y := (⟨"com/example/netz/netz/net/SparseVector", "isNonNegative", "()Z"⟩ : MethodName)) (z := (⟨"com/example/netz/netz/net/SparseVector", "isNonNegative", "()Z"⟩ : MethodName)) hown (mvT hZ (hw _ (List.mem_of_getElem? (i := 19) rfl))) (mvT hZ (hw _ (List.mem_of_getElem? (i := 20) rfl))) (notFace_of_selects (args := #[]) (mvT hZ (hw _ (List.mem_of_getElem? (i := 22) rfl)))) (mvT hZ (hw _ (List.mem_of_getElem? (i := 22) rfl))) (mvT hZ (hw _ (List.mem_of_getElem? (i := 21) rfl))) (by decide) (backOf (W := 0) (rm4_3 l Z a0 hw [] b52 b45 (own_nz q1) (own_nz q2) (own_nz q3) T53.heap n0 Z53 (O53_2) (Vb45_53)) hZ (hw _ (List.mem_of_getElem? (i := 23) rfl)) (hw _ (List.mem_of_getElem? (i := 8) rfl)) (by decide) (by decide)) q54a q54c (g := (mkF m 201 #[.val (.int p0), .val (.long q1), .second, .val (.long q2), .second, .val (.long q3), .second, .val (.int (3 : Int32)), .val (.long (own_nz q1)), .second, .val (.long (own_nz q2)), .second, .val (.long (own_nz q3)), .second, .val (.ref b41), .val (.ref b45), .val (.int (0 : Int32))] [(.ref b52)])) rfl (by rw [hml]; rfl) (Steps.refl _) (argsL := []) (rest := []) (lenOf pd_2 rfl) rfl (by show 2 * 0 + _ ≤ _; exact Nat.le_of_eq rfl) (hb hby at_201) (fun _ _ => ⟨rfl, rfl, (by decide : 3 + 0 ≤ _), (by decide : 8 + 0 ≤ _)⟩)
        dsimp only [Pt.U, Pt.locs, Pt.cells, Pt.slots] at X54 l54 y54 z54 st54 hQ54
        subst l54 y54 z54
        obtain ⟨rfl, N54q, e54⟩ := hQ54
        have N54 := Fr.app N53 N54q
        refine own_jp st54 ?_
        refine own_st (fun zw zk => XS.iload X54.here hx rfl (hb hby at_204) rfl zk) ?_
        have hc206 : (own_nn3 (own_nz q1) (own_nz q2) (own_nz q3)) = (0 : Int32) := by unfold own_nn3; rw [if_neg hc154, if_pos hc167]
        refine own_st (fun zw zk => XS.icmpNo X54.here hx rfl (hb hby at_206) rfl (teq hc206).2 zk) ?_
        show own_Go p e below G (T54.setTop (mkF m 209 #[.val (.int p0), .val (.long q1), .second, .val (.long q2), .second, .val (.long q3), .second, .val (.int (3 : Int32)), .val (.long (own_nz q1)), .second, .val (.long (own_nz q2)), .second, .val (.long (own_nz q3)), .second, .val (.ref b41), .val (.ref b45), .val (.int (0 : Int32))] []))
        refine own_st (fun zw zk => XS.iconst X54.here hx rfl (hb hby at_209) zk) ?_
        refine own_st (fun zw zk => XS.goto X54.here hx rfl (pc0 := 210) (pc' := 214) rfl (hb hby at_210) (by decide) (by decide) zk) ?_
        show own_Go p e below G (T54.setTop (mkF m 214 #[.val (.int p0), .val (.long q1), .second, .val (.long q2), .second, .val (.long q3), .second, .val (.int (3 : Int32)), .val (.long (own_nz q1)), .second, .val (.long (own_nz q2)), .second, .val (.long (own_nz q3)), .second, .val (.ref b41), .val (.ref b45), .val (.int (0 : Int32))] [(.int (1 : Int32))]))
        subst hG
        obtain ⟨fs, hr, hrun, hended, hW, hsame⟩ := X54.leave (v := some (.int (1 : Int32))) (fun h => by rw [Bd.returns] at h; cases h)
        refine ⟨_, retN X54 hx (t := .boolean) Bd.returns (by simp) (hb hby at_214) hr, _, hrun, hended, _, _, rfl, ?_, ⟨_, rfl⟩, hW, hsame.mono (by decide) (by decide)⟩
        show Q0 Z p0 q1 q2 q3 h0 n0 _ T54.heap _
        rw [e54]
        exact ⟨rfl, N54⟩
      · refine own_st (fun zw zk => XS.ifNo X48.here hx rfl (hb hby at_167) rfl ((if0 _ _).trans (flt (own_fll hc167)).1) zk) ?_
        refine own_st (fun zw zk => XS.iload X48.here hx rfl (hb hby at_170) rfl zk) ?_
        refine own_st (fun zw zk => XS.iconst X48.here hx rfl (hb hby at_172) zk) ?_
        show own_Go p e below G (T48.setTop (mkF m 173 #[.val (.int p0), .val (.long q1), .second, .val (.long q2), .second, .val (.long q3), .second, .val (.int (3 : Int32)), .val (.long (own_nz q1)), .second, .val (.long (own_nz q2)), .second, .val (.long (own_nz q3)), .second, .val (.ref b41), .val (.ref b45), .unset] [(.int (3 : Int32)), (.int (3 : Int32))]))
        refine own_st (fun zw zk => XS.icmpNo X48.here hx rfl (hb hby at_173) rfl (flt (by decide : ¬ ((3 : Int32) < (3 : Int32)))).1 zk) ?_
        refine own_st (fun zw zk => XS.lload X48.here hx rfl (hb hby at_176) rfl zk) ?_
        refine own_st (fun zw zk => XS.lconst X48.here hx rfl (hb hby at_178) zk) ?_
        refine own_st (fun zw zk => XS.lcmp X48.here hx rfl (hb hby at_179) rfl zk) ?_
        by_cases hc180 : (own_nz q3) < (0 : Int64)
        · refine own_st (fun zw zk => XS.ifYes X48.here hx rfl (pc0 := 180) (pc' := 187) rfl (hb hby at_180) rfl ((if0 _ _).trans (tlt (own_tll hc180)).1) (by decide) (by decide) zk) ?_
          refine own_st (fun zw zk => XS.iconst X48.here hx rfl (hb hby at_187) zk) ?_
          refine own_st (fun zw zk => XS.istore X48.here hx rfl (hb hby at_188) rfl rfl zk) ?_
          show own_Go p e below G (T48.setTop (mkF m 190 #[.val (.int p0), .val (.long q1), .second, .val (.long q2), .second, .val (.long q3), .second, .val (.int (3 : Int32)), .val (.long (own_nz q1)), .second, .val (.long (own_nz q2)), .second, .val (.long (own_nz q3)), .second, .val (.ref b41), .val (.ref b45), .val (.int (0 : Int32))] []))
          obtain ⟨T55, h55, X55, e55, E55, A55, D55, -, st55⟩ := newO X48 hx hZ hown (hw _ (List.mem_of_getElem? (i := 6) rfl)) (hw _ (List.mem_of_getElem? (i := 7) rfl)) (hw _ (List.mem_of_getElem? (i := 8) rfl)) e48 (g := (mkF m 190 #[.val (.int p0), .val (.long q1), .second, .val (.long q2), .second, .val (.long q3), .second, .val (.int (3 : Int32)), .val (.long (own_nz q1)), .second, .val (.long (own_nz q2)), .second, .val (.long (own_nz q3)), .second, .val (.ref b41), .val (.ref b45), .val (.int (0 : Int32))] [])) rfl (hb hby at_190) (by decide) (by decide)
          obtain ⟨b55, g55⟩ : ∃ z, z = h48.size := ⟨_, rfl⟩
          rw [← g55] at A55 D55 st55
          have G55 : n0 ≤ b55 := Nat.le_trans Z48 (Nat.le_of_eq g55.symm)
          have ne_b41_b55 : b41 ≠ b55 := Nat.ne_of_lt (Nat.lt_of_lt_of_le Vb41_48.lt (Nat.le_of_eq g55.symm))
          have ne_b45_b55 : b45 ≠ b55 := Nat.ne_of_lt (Nat.lt_of_lt_of_le Vb45_48.lt (Nat.le_of_eq g55.symm))
          have Vb41_55 := Vb41_48.ext E55
          have Vb45_55 := Vb45_48.ext E55
          have Z55 : n0 ≤ h55.size := Nat.le_trans Z48 E55.1
          have Fb55indices : Fld Z h55 b55 "com/example/netz/netz/net/SparseVector" "indices" "[I" .null := D55 (Or.inr (hw _ (List.mem_of_getElem? (i := 16) rfl))) (ty := (.array .int)) (by decide)
          have Fb55values : Fld Z h55 b55 "com/example/netz/netz/net/SparseVector" "values" "[J" .null := D55 (Or.inr (hw _ (List.mem_of_getElem? (i := 18) rfl))) (ty := (.array .long)) (by decide)
          refine own_st (fun zw zk => st55 zw zk) ?_
          refine own_st (fun zw zk => XS.dup X55.here hx rfl (hb hby at_193) rfl rfl zk) ?_
          refine own_st (fun zw zk => XS.aload X55.here hx rfl (hb hby at_194) rfl rfl zk) ?_
          refine own_st (fun zw zk => XS.aload X55.here hx rfl (hb hby at_196) rfl rfl zk) ?_
          obtain ⟨_, _, ⟨T56, L56, k56, n56⟩, -, X56, ⟨Lc56, hQ56, l56, y56, z56⟩, st56⟩ := X55.specialBack hx (y := (⟨"com/example/netz/netz/net/SparseVector", "<init>", "([I[J)V"⟩ : MethodName)) rfl hown (mvT hZ (hw _ (List.mem_of_getElem? (i := 9) rfl))) (mvT hZ (hw _ (List.mem_of_getElem? (i := 10) rfl))) (mvT hZ (hw _ (List.mem_of_getElem? (i := 11) rfl))) (by decide) (backOf (W := 1) (rm2 l Z a0 hw [] b55 b41 b45 h55 n0 Z55 (A55) (Fb55indices) (Fb55values) (G55)) hZ (hw _ (List.mem_of_getElem? (i := 11) rfl)) (hw _ (List.mem_of_getElem? (i := 8) rfl)) (by decide) (by decide)) (g := (mkF m 198 #[.val (.int p0), .val (.long q1), .second, .val (.long q2), .second, .val (.long q3), .second, .val (.int (3 : Int32)), .val (.long (own_nz q1)), .second, .val (.long (own_nz q2)), .second, .val (.long (own_nz q3)), .second, .val (.ref b41), .val (.ref b45), .val (.int (0 : Int32))] [(.ref b45), (.ref b41), (.ref b55), (.ref b55)])) rfl (by rw [hml]; rfl) (Steps.refl _) (a := b55) (argsL := [(.ref b41), (.ref b45)]) (rest := [(.ref b55)]) (lenOf pd_1 rfl) rfl (by show 2 * 0 + _ ≤ _; exact Nat.le_of_eq rfl) (hb hby at_198) (fun _ _ => ⟨rfl, e55, (by decide : 3 + 0 ≤ _), (by decide : 8 + 0 ≤ _)⟩)
          dsimp only [Pt.U, Pt.locs, Pt.cells, Pt.slots] at X56 l56 y56 z56 st56 hQ56
          subst l56 y56 z56
          obtain ⟨rfl, N56q, K56, O56_0, O56_1, O56_2⟩ := hQ56
          have Vb41_56 := Vb41_55.keep K56 (ninS ne_b41_b55 nin0)
          have Vb45_56 := Vb45_55.keep K56 (ninS ne_b45_b55 nin0)
          have Ab55_56 := A55.keep K56
          have Z56 : n0 ≤ T56.heap.size := Nat.le_trans Z55 K56.1
          have N56 := Fr.app N48 N56q
          refine own_jp st56 ?_
          obtain ⟨cq57, kq57, q57a, q57b, q57c⟩ := isOf hZ rfl O56_0
          obtain ⟨_, _, ⟨T57, L57, k57, n57⟩, -, X57, ⟨Lc57, hQ57, l57, y57, z57⟩, st57⟩ := X56.virtualBack hx (y := (⟨"com/example/netz/netz/net/SparseVector", "isNonNegative", "()Z"⟩ : MethodName)) (z := (⟨"com/example/netz/netz/net/SparseVector", "isNonNegative", "()Z"⟩ : MethodName)) hown (mvT hZ (hw _ (List.mem_of_getElem? (i := 19) rfl))) (mvT hZ (hw _ (List.mem_of_getElem? (i := 20) rfl))) (notFace_of_selects (args := #[]) (mvT hZ (hw _ (List.mem_of_getElem? (i := 22) rfl)))) (mvT hZ (hw _ (List.mem_of_getElem? (i := 22) rfl))) (mvT hZ (hw _ (List.mem_of_getElem? (i := 21) rfl))) (by decide) (backOf (W := 0) (rm4_3 l Z a0 hw [] b55 b45 (own_nz q1) (own_nz q2) (own_nz q3) T56.heap n0 Z56 (O56_2) (Vb45_56)) hZ (hw _ (List.mem_of_getElem? (i := 23) rfl)) (hw _ (List.mem_of_getElem? (i := 8) rfl)) (by decide) (by decide)) q57a q57c (g := (mkF m 201 #[.val (.int p0), .val (.long q1), .second, .val (.long q2), .second, .val (.long q3), .second, .val (.int (3 : Int32)), .val (.long (own_nz q1)), .second, .val (.long (own_nz q2)), .second, .val (.long (own_nz q3)), .second, .val (.ref b41), .val (.ref b45), .val (.int (0 : Int32))] [(.ref b55)])) rfl (by rw [hml]; rfl) (Steps.refl _) (argsL := []) (rest := []) (lenOf pd_2 rfl) rfl (by show 2 * 0 + _ ≤ _; exact Nat.le_of_eq rfl) (hb hby at_201) (fun _ _ => ⟨rfl, rfl, (by decide : 3 + 0 ≤ _), (by decide : 8 + 0 ≤ _)⟩)
          dsimp only [Pt.U, Pt.locs, Pt.cells, Pt.slots] at X57 l57 y57 z57 st57 hQ57
          subst l57 y57 z57
          obtain ⟨rfl, N57q, e57⟩ := hQ57
          have N57 := Fr.app N56 N57q
          refine own_jp st57 ?_
          refine own_st (fun zw zk => XS.iload X57.here hx rfl (hb hby at_204) rfl zk) ?_
          have hc206 : (own_nn3 (own_nz q1) (own_nz q2) (own_nz q3)) = (0 : Int32) := by unfold own_nn3; rw [if_neg hc154, if_neg hc167, if_pos hc180]
          refine own_st (fun zw zk => XS.icmpNo X57.here hx rfl (hb hby at_206) rfl (teq hc206).2 zk) ?_
          show own_Go p e below G (T57.setTop (mkF m 209 #[.val (.int p0), .val (.long q1), .second, .val (.long q2), .second, .val (.long q3), .second, .val (.int (3 : Int32)), .val (.long (own_nz q1)), .second, .val (.long (own_nz q2)), .second, .val (.long (own_nz q3)), .second, .val (.ref b41), .val (.ref b45), .val (.int (0 : Int32))] []))
          refine own_st (fun zw zk => XS.iconst X57.here hx rfl (hb hby at_209) zk) ?_
          refine own_st (fun zw zk => XS.goto X57.here hx rfl (pc0 := 210) (pc' := 214) rfl (hb hby at_210) (by decide) (by decide) zk) ?_
          show own_Go p e below G (T57.setTop (mkF m 214 #[.val (.int p0), .val (.long q1), .second, .val (.long q2), .second, .val (.long q3), .second, .val (.int (3 : Int32)), .val (.long (own_nz q1)), .second, .val (.long (own_nz q2)), .second, .val (.long (own_nz q3)), .second, .val (.ref b41), .val (.ref b45), .val (.int (0 : Int32))] [(.int (1 : Int32))]))
          subst hG
          obtain ⟨fs, hr, hrun, hended, hW, hsame⟩ := X57.leave (v := some (.int (1 : Int32))) (fun h => by rw [Bd.returns] at h; cases h)
          refine ⟨_, retN X57 hx (t := .boolean) Bd.returns (by simp) (hb hby at_214) hr, _, hrun, hended, _, _, rfl, ?_, ⟨_, rfl⟩, hW, hsame.mono (by decide) (by decide)⟩
          show Q0 Z p0 q1 q2 q3 h0 n0 _ T57.heap _
          rw [e57]
          exact ⟨rfl, N57⟩
        · refine own_st (fun zw zk => XS.ifNo X48.here hx rfl (hb hby at_180) rfl ((if0 _ _).trans (flt (own_fll hc180)).1) zk) ?_
          refine own_st (fun zw zk => XS.iconst X48.here hx rfl (hb hby at_183) zk) ?_
          refine own_st (fun zw zk => XS.goto X48.here hx rfl (pc0 := 184) (pc' := 188) rfl (hb hby at_184) (by decide) (by decide) zk) ?_
          show own_Go p e below G (T48.setTop (mkF m 188 #[.val (.int p0), .val (.long q1), .second, .val (.long q2), .second, .val (.long q3), .second, .val (.int (3 : Int32)), .val (.long (own_nz q1)), .second, .val (.long (own_nz q2)), .second, .val (.long (own_nz q3)), .second, .val (.ref b41), .val (.ref b45), .unset] [(.int (1 : Int32))]))
          refine own_st (fun zw zk => XS.istore X48.here hx rfl (hb hby at_188) rfl rfl zk) ?_
          show own_Go p e below G (T48.setTop (mkF m 190 #[.val (.int p0), .val (.long q1), .second, .val (.long q2), .second, .val (.long q3), .second, .val (.int (3 : Int32)), .val (.long (own_nz q1)), .second, .val (.long (own_nz q2)), .second, .val (.long (own_nz q3)), .second, .val (.ref b41), .val (.ref b45), .val (.int (1 : Int32))] []))
          obtain ⟨T58, h58, X58, e58, E58, A58, D58, -, st58⟩ := newO X48 hx hZ hown (hw _ (List.mem_of_getElem? (i := 6) rfl)) (hw _ (List.mem_of_getElem? (i := 7) rfl)) (hw _ (List.mem_of_getElem? (i := 8) rfl)) e48 (g := (mkF m 190 #[.val (.int p0), .val (.long q1), .second, .val (.long q2), .second, .val (.long q3), .second, .val (.int (3 : Int32)), .val (.long (own_nz q1)), .second, .val (.long (own_nz q2)), .second, .val (.long (own_nz q3)), .second, .val (.ref b41), .val (.ref b45), .val (.int (1 : Int32))] [])) rfl (hb hby at_190) (by decide) (by decide)
          obtain ⟨b58, g58⟩ : ∃ z, z = h48.size := ⟨_, rfl⟩
          rw [← g58] at A58 D58 st58
          have G58 : n0 ≤ b58 := Nat.le_trans Z48 (Nat.le_of_eq g58.symm)
          have ne_b41_b58 : b41 ≠ b58 := Nat.ne_of_lt (Nat.lt_of_lt_of_le Vb41_48.lt (Nat.le_of_eq g58.symm))
          have ne_b45_b58 : b45 ≠ b58 := Nat.ne_of_lt (Nat.lt_of_lt_of_le Vb45_48.lt (Nat.le_of_eq g58.symm))
          have Vb41_58 := Vb41_48.ext E58
          have Vb45_58 := Vb45_48.ext E58
          have Z58 : n0 ≤ h58.size := Nat.le_trans Z48 E58.1
          have Fb58indices : Fld Z h58 b58 "com/example/netz/netz/net/SparseVector" "indices" "[I" .null := D58 (Or.inr (hw _ (List.mem_of_getElem? (i := 16) rfl))) (ty := (.array .int)) (by decide)
          have Fb58values : Fld Z h58 b58 "com/example/netz/netz/net/SparseVector" "values" "[J" .null := D58 (Or.inr (hw _ (List.mem_of_getElem? (i := 18) rfl))) (ty := (.array .long)) (by decide)
          refine own_st (fun zw zk => st58 zw zk) ?_
          refine own_st (fun zw zk => XS.dup X58.here hx rfl (hb hby at_193) rfl rfl zk) ?_
          refine own_st (fun zw zk => XS.aload X58.here hx rfl (hb hby at_194) rfl rfl zk) ?_
          refine own_st (fun zw zk => XS.aload X58.here hx rfl (hb hby at_196) rfl rfl zk) ?_
          obtain ⟨_, _, ⟨T59, L59, k59, n59⟩, -, X59, ⟨Lc59, hQ59, l59, y59, z59⟩, st59⟩ := X58.specialBack hx (y := (⟨"com/example/netz/netz/net/SparseVector", "<init>", "([I[J)V"⟩ : MethodName)) rfl hown (mvT hZ (hw _ (List.mem_of_getElem? (i := 9) rfl))) (mvT hZ (hw _ (List.mem_of_getElem? (i := 10) rfl))) (mvT hZ (hw _ (List.mem_of_getElem? (i := 11) rfl))) (by decide) (backOf (W := 1) (rm2 l Z a0 hw [] b58 b41 b45 h58 n0 Z58 (A58) (Fb58indices) (Fb58values) (G58)) hZ (hw _ (List.mem_of_getElem? (i := 11) rfl)) (hw _ (List.mem_of_getElem? (i := 8) rfl)) (by decide) (by decide)) (g := (mkF m 198 #[.val (.int p0), .val (.long q1), .second, .val (.long q2), .second, .val (.long q3), .second, .val (.int (3 : Int32)), .val (.long (own_nz q1)), .second, .val (.long (own_nz q2)), .second, .val (.long (own_nz q3)), .second, .val (.ref b41), .val (.ref b45), .val (.int (1 : Int32))] [(.ref b45), (.ref b41), (.ref b58), (.ref b58)])) rfl (by rw [hml]; rfl) (Steps.refl _) (a := b58) (argsL := [(.ref b41), (.ref b45)]) (rest := [(.ref b58)]) (lenOf pd_1 rfl) rfl (by show 2 * 0 + _ ≤ _; exact Nat.le_of_eq rfl) (hb hby at_198) (fun _ _ => ⟨rfl, e58, (by decide : 3 + 0 ≤ _), (by decide : 8 + 0 ≤ _)⟩)
          dsimp only [Pt.U, Pt.locs, Pt.cells, Pt.slots] at X59 l59 y59 z59 st59 hQ59
          subst l59 y59 z59
          obtain ⟨rfl, N59q, K59, O59_0, O59_1, O59_2⟩ := hQ59
          have Vb41_59 := Vb41_58.keep K59 (ninS ne_b41_b58 nin0)
          have Vb45_59 := Vb45_58.keep K59 (ninS ne_b45_b58 nin0)
          have Ab58_59 := A58.keep K59
          have Z59 : n0 ≤ T59.heap.size := Nat.le_trans Z58 K59.1
          have N59 := Fr.app N48 N59q
          refine own_jp st59 ?_
          obtain ⟨cq60, kq60, q60a, q60b, q60c⟩ := isOf hZ rfl O59_0
          obtain ⟨_, _, ⟨T60, L60, k60, n60⟩, -, X60, ⟨Lc60, hQ60, l60, y60, z60⟩, st60⟩ := X59.virtualBack hx (y := (⟨"com/example/netz/netz/net/SparseVector", "isNonNegative", "()Z"⟩ : MethodName)) (z := (⟨"com/example/netz/netz/net/SparseVector", "isNonNegative", "()Z"⟩ : MethodName)) hown (mvT hZ (hw _ (List.mem_of_getElem? (i := 19) rfl))) (mvT hZ (hw _ (List.mem_of_getElem? (i := 20) rfl))) (notFace_of_selects (args := #[]) (mvT hZ (hw _ (List.mem_of_getElem? (i := 22) rfl)))) (mvT hZ (hw _ (List.mem_of_getElem? (i := 22) rfl))) (mvT hZ (hw _ (List.mem_of_getElem? (i := 21) rfl))) (by decide) (backOf (W := 0) (rm4_3 l Z a0 hw [] b58 b45 (own_nz q1) (own_nz q2) (own_nz q3) T59.heap n0 Z59 (O59_2) (Vb45_59)) hZ (hw _ (List.mem_of_getElem? (i := 23) rfl)) (hw _ (List.mem_of_getElem? (i := 8) rfl)) (by decide) (by decide)) q60a q60c (g := (mkF m 201 #[.val (.int p0), .val (.long q1), .second, .val (.long q2), .second, .val (.long q3), .second, .val (.int (3 : Int32)), .val (.long (own_nz q1)), .second, .val (.long (own_nz q2)), .second, .val (.long (own_nz q3)), .second, .val (.ref b41), .val (.ref b45), .val (.int (1 : Int32))] [(.ref b58)])) rfl (by rw [hml]; rfl) (Steps.refl _) (argsL := []) (rest := []) (lenOf pd_2 rfl) rfl (by show 2 * 0 + _ ≤ _; exact Nat.le_of_eq rfl) (hb hby at_201) (fun _ _ => ⟨rfl, rfl, (by decide : 3 + 0 ≤ _), (by decide : 8 + 0 ≤ _)⟩)
          dsimp only [Pt.U, Pt.locs, Pt.cells, Pt.slots] at X60 l60 y60 z60 st60 hQ60
          subst l60 y60 z60
          obtain ⟨rfl, N60q, e60⟩ := hQ60
          have N60 := Fr.app N59 N60q
          refine own_jp st60 ?_
          refine own_st (fun zw zk => XS.iload X60.here hx rfl (hb hby at_204) rfl zk) ?_
          have hc206 : (own_nn3 (own_nz q1) (own_nz q2) (own_nz q3)) = (1 : Int32) := by unfold own_nn3; rw [if_neg hc154, if_neg hc167, if_neg hc180]
          refine own_st (fun zw zk => XS.icmpNo X60.here hx rfl (hb hby at_206) rfl (teq hc206).2 zk) ?_
          show own_Go p e below G (T60.setTop (mkF m 209 #[.val (.int p0), .val (.long q1), .second, .val (.long q2), .second, .val (.long q3), .second, .val (.int (3 : Int32)), .val (.long (own_nz q1)), .second, .val (.long (own_nz q2)), .second, .val (.long (own_nz q3)), .second, .val (.ref b41), .val (.ref b45), .val (.int (1 : Int32))] []))
          refine own_st (fun zw zk => XS.iconst X60.here hx rfl (hb hby at_209) zk) ?_
          refine own_st (fun zw zk => XS.goto X60.here hx rfl (pc0 := 210) (pc' := 214) rfl (hb hby at_210) (by decide) (by decide) zk) ?_
          show own_Go p e below G (T60.setTop (mkF m 214 #[.val (.int p0), .val (.long q1), .second, .val (.long q2), .second, .val (.long q3), .second, .val (.int (3 : Int32)), .val (.long (own_nz q1)), .second, .val (.long (own_nz q2)), .second, .val (.long (own_nz q3)), .second, .val (.ref b41), .val (.ref b45), .val (.int (1 : Int32))] [(.int (1 : Int32))]))
          subst hG
          obtain ⟨fs, hr, hrun, hended, hW, hsame⟩ := X60.leave (v := some (.int (1 : Int32))) (fun h => by rw [Bd.returns] at h; cases h)
          refine ⟨_, retN X60 hx (t := .boolean) Bd.returns (by simp) (hb hby at_214) hr, _, hrun, hended, _, _, rfl, ?_, ⟨_, rfl⟩, hW, hsame.mono (by decide) (by decide)⟩
          show Q0 Z p0 q1 q2 q3 h0 n0 _ T60.heap _
          rw [e60]
          exact ⟨rfl, N60⟩
set_option maxRecDepth 65536 in
set_option maxHeartbeats 40000000 in
theorem comes_1 {Post : Tables → Env → Array Value → State → Outcome → State → Prop} (hpost : ∀ tb e args s v u, (limb_1_1.after args s (.returned v) u = true ∧ limb_1_2.after args s (.returned v) u = true ∧ True) → FrameEnd s (.returned v) u (Jvm.fieldLocs frame_1_writes args s ++ Jvm.arrayLocs frame_1_arrays args s ++ Jvm.staticLocs frame_1_statics s) 16 128 → Post tb e args s (.returned v) u) :
    ArmFor flags0 classFile x code maxLocals ret World_1 tables_1 room_1 Calls_1 rest_1 Pre_1 Post := by
  intro l hfl _ _ p e ha hc hk s m args below hf hA hF happ hP
  obtain ⟨hcalls, hrest, hpre⟩ := hP
  obtain ⟨-, -, -, hnamed, -, -, -, hat⟩ := (Spec.applies_iff hf).mp happ
  obtain ⟨hg, hn⟩ := and_e (Cond.before_iff.mp (show (Jvm.Cond.and given_1 narrow_1).before args s = true from hpre))
  obtain ⟨g1, g2⟩ := and_e hg
  obtain ⟨g3, g4⟩ := and_e g2
  obtain ⟨g5, g6⟩ := and_e g4
  obtain ⟨g7, g8⟩ := and_e g6
  obtain ⟨w0, w1, w2, w3, rfl⟩ : ∃ w0 w1 w2 w3 : Value, args = #[w0, w1, w2, w3] := by
    have hs : args.size = 4 := by simpa [Cond.value, given_1] using g1
    obtain ⟨L⟩ := args
    match L, hs with
    | [w0, w1, w2, w3], _ => exact ⟨w0, w1, w2, w3, rfl⟩
  have hw := fun d (hd : d ∈ tables_1) => atoms_spec (ws := Jvm.Cond.code x code maxLocals ret :: tables_1) hat d (List.mem_cons_of_mem _ hd)
  obtain ⟨i0, ei0⟩ := is_v g3
  obtain rfl : w0 = (.int i0) := Option.some.inj ei0
  obtain ⟨i1, ei1⟩ := isL_v g5
  obtain rfl : w1 = (.long i1) := Option.some.inj ei1
  obtain ⟨i2, ei2⟩ := isL_v g7
  obtain rfl : w2 = (.long i2) := Option.some.inj ei2
  obtain ⟨i3, ei3⟩ := isL_v g8
  obtain rfl : w3 = (.long i3) := Option.some.inj ei3
  obtain ⟨n, o, h1, h2, h3, _, L, rfl, ⟨rfl, N⟩, hq⟩ := rm0 l s _ hw tables_1 i0 i1 i2 i3 s.heap s.heap.size (Nat.le_refl _) p e ha hc hk s m _ below hf ((Spec.applies_iff_loose hf).mp happ).1 ⟨rfl, State.Warmed39.refl s, rfl⟩ trivial
  refine ⟨n, _, h1, h2, h3, hpost _ _ _ _ _ _ ⟨Cond.after_iff.mpr rfl, Cond.after_iff.mpr (eq_i res_at (Term.int_eval (1)) rfl), trivial⟩ ⟨hq.1, hq.2.1, (hq.2.2.sift fun y hy => Or.inr (N y hy)).mono (by decide) (by decide)⟩⟩
theorem main_1_1 : Claimed_1_1 := comes_1 fun _ _ _ _ _ _ h hF => ⟨h.1, hF⟩
theorem main_1_2 : Claimed_1_2 := comes_1 fun _ _ _ _ _ _ h hF => ⟨h.2.1, hF⟩
end Jvm.Pilot.@@N@@
namespace Jvm.Pilot.@@N@@
open Jvm Jvm.ClassFile Sem Op Lib Jvm.Free Jvm.Stand Jvm.Pilot.@@N@@.Jvm.D
/-! MADE BY PROGRAM (witnessworld.py) out of the Statement's table words and the real class files: 11 classes; the members and pool entries that the words name. The judged class is class 1, her method 2. -/
namespace start1
open Jvm.ClassFile
def u (s : String) : CpInfo := .utf8 (stringToUtf16 s)
/-- a pool by its gaps: so many unusable entries, then the entry; so many at the end -/
def gap : Nat → List CpInfo → List CpInfo
  | 0, r => r
  | n + 1, r => .unusable :: gap n r
def poolList (es : List (Nat × CpInfo)) (last : Nat) : List CpInfo := es.foldr (fun e r => gap e.1 (e.2 :: r)) (gap last [])
def pool (es : List (Nat × CpInfo)) (last : Nat) : Array CpInfo := ⟨poolList es last⟩
def fileOf (pool : Array CpInfo) (this : Nat) (attrs : Array Attribute := #[]) (ms : Array MethodInfo := #[]) (fl : Nat := 33) (sup : Nat := 0) (ifs : Array Nat := #[]) (fds : Array FieldInfo := #[]) : ClassFile where
  minorVersion := 0
  majorVersion := 65
  constantPool := pool
  accessFlags := fl
  thisClass := this
  superClass := sup
  interfaces := ifs
  fields := fds
  methods := ms
  attributes := attrs
def plain (name : String) (sup : Option ClassId) : Class where
  name := name
  kind := .ordinary
  loader := none
  accessFlags := 33
  super := sup
  interfaces := #[]
  cf := none
  fields := #[]
  methods := #[]
  instanceTypes := #[]
  staticTypes := #[]
  resolved := #[]
  callSites := []
  init := .initialized
  statics := none
  mirror := none

def pool0 : Array CpInfo := pool [(5, u "<init>"), (0, u "()V"), (1, .class_ 10), (1, u "java/lang/Object")] 113

def k0c0 : Code := { maxStack := 0, maxLocals := 1, code := object_method_1_code, exceptionTable := #[], attributes := #[] }
def k0m0 : Method := { name := "<init>", desc := "()V", sig := { parameters := [], returnType := none }, accessFlags := 1, code := some k0c0 }
/-- java/lang/Object -/
def k0 : Class := { plain "java/lang/Object" none with
  accessFlags := 33
  interfaces := #[]
  cf := some (fileOf pool0 8 #[] #[{ accessFlags := 1, nameIndex := 5, descriptorIndex := 6, attributes := #[] }] 33 0 #[] #[])
  fields := #[]
  methods := #[k0m0]
  instanceTypes := #[]
  staticTypes := #[]
  resolved := Array.replicate 124 none
  statics := none }

def pool1 : Array CpInfo := pool [(2, .class_ 4), (1, u "java/lang/Object"), (0, u "<init>"), (0, u "()V"), (0, .methodref 8 9), (0, .class_ 10), (0, .nameAndType 11 12), (0, u "com/example/netz/netz/net/SparseVectorIsNonNegativePinLaw"), (0, u "nonZero"), (0, u "(J)J"), (0, .class_ 14), (0, u "com/example/netz/netz/net/SparseVector"), (0, .methodref 13 16), (0, .nameAndType 5 17), (0, u "([I[J)V"), (0, .methodref 13 19), (0, .nameAndType 20 21), (0, u "isNonNegative"), (0, u "()Z"), (3, u "law"), (0, u "(IJJJ)Z")] 6

def k1m0 : Method := { name := "<init>", desc := "()V", sig := { parameters := [], returnType := none }, accessFlags := 1, code := none }
def k1c1 : Code := { maxStack := 4, maxLocals := 2, code := method_2_code, exceptionTable := #[], attributes := #[] }
def k1m1 : Method := { name := "nonZero", desc := "(J)J", sig := { parameters := [.long], returnType := some .long }, accessFlags := 10, code := some k1c1 }
def k1c2 : Code := { maxStack := 5, maxLocals := 17, code := code, exceptionTable := #[], attributes := #[] }
def k1m2 : Method := { name := "law", desc := "(IJJJ)Z", sig := { parameters := [.int, .long, .long, .long], returnType := some .boolean }, accessFlags := 9, code := some k1c2 }
/-- com/example/netz/netz/net/SparseVectorIsNonNegativePinLaw -/
def k1 : Class := { plain "com/example/netz/netz/net/SparseVectorIsNonNegativePinLaw" (some 0) with
  accessFlags := 49
  interfaces := #[]
  cf := some (fileOf pool1 8 #[] #[{ accessFlags := 1, nameIndex := 5, descriptorIndex := 6, attributes := #[] }, { accessFlags := 10, nameIndex := 11, descriptorIndex := 12, attributes := #[] }, { accessFlags := 9, nameIndex := 25, descriptorIndex := 26, attributes := #[] }] 49 2 #[] #[])
  fields := #[]
  methods := #[k1m0, k1m1, k1m2]
  instanceTypes := #[]
  staticTypes := #[]
  resolved := Array.replicate 33 none
  statics := none }

def pool2 : Array CpInfo := pool [(1, .methodref 2 3), (0, .class_ 4), (0, .nameAndType 5 6), (0, u "java/lang/Object"), (0, u "<init>"), (0, u "()V"), (0, .fieldref 8 9), (0, .class_ 10), (0, .nameAndType 11 12), (0, u "com/example/netz/netz/net/SparseVector"), (0, u "indices"), (0, u "[I"), (0, .fieldref 8 14), (0, .nameAndType 15 16), (0, u "values"), (0, u "[J"), (8, u "([I[J)V"), (27, u "()Z"), (76, u "isNonNegative")] 16

def k2c0 : Code := { maxStack := 2, maxLocals := 3, code := prog_42_method_1_code, exceptionTable := #[], attributes := #[] }
def k2m0 : Method := { name := "<init>", desc := "([I[J)V", sig := { parameters := [(.array .int), (.array .long)], returnType := none }, accessFlags := 1, code := some k2c0 }
def k2c1 : Code := { maxStack := 4, maxLocals := 6, code := prog_42_method_11_code, exceptionTable := #[], attributes := #[] }
def k2m1 : Method := { name := "isNonNegative", desc := "()Z", sig := { parameters := [], returnType := some .boolean }, accessFlags := 1, code := some k2c1 }
/-- com/example/netz/netz/net/SparseVector -/
def k2 : Class := { plain "com/example/netz/netz/net/SparseVector" (some 0) with
  accessFlags := 33
  interfaces := #[]
  cf := some (fileOf pool2 8 #[] #[{ accessFlags := 1, nameIndex := 5, descriptorIndex := 25, attributes := #[] }, { accessFlags := 1, nameIndex := 130, descriptorIndex := 53, attributes := #[] }] 33 2 #[] #[{ accessFlags := 18, nameIndex := 11, descriptorIndex := 12, attributes := #[] }, { accessFlags := 18, nameIndex := 15, descriptorIndex := 16, attributes := #[] }])
  fields := #[{ name := "indices", type := (.array .int), accessFlags := 18, slot := 0, constantValue := 0 }, { name := "values", type := (.array .long), accessFlags := 18, slot := 1, constantValue := 0 }]
  methods := #[k2m0, k2m1]
  instanceTypes := #[(.array .int), (.array .long)]
  staticTypes := #[]
  resolved := Array.replicate 147 none
  statics := none }

def pool3 : Array CpInfo := pool [(1, u "java/lang/Cloneable"), (0, .class_ 1), (0, u "java/lang/Object"), (0, .class_ 3)] 3

/-- java/lang/Cloneable -/
def k3 : Class := { plain "java/lang/Cloneable" (some 0) with
  accessFlags := 1537
  interfaces := #[]
  cf := some (fileOf pool3 2 #[] #[] 1537 4 #[] #[])
  fields := #[]
  methods := #[]
  instanceTypes := #[]
  staticTypes := #[]
  resolved := Array.replicate 8 none
  statics := none }

def pool4 : Array CpInfo := pool [(1, u "java/io/Serializable"), (0, .class_ 1), (0, u "java/lang/Object"), (0, .class_ 3)] 3

/-- java/io/Serializable -/
def k4 : Class := { plain "java/io/Serializable" (some 0) with
  accessFlags := 1537
  interfaces := #[]
  cf := some (fileOf pool4 2 #[] #[] 1537 4 #[] #[])
  fields := #[]
  methods := #[]
  instanceTypes := #[]
  staticTypes := #[]
  resolved := Array.replicate 8 none
  statics := none }

/-- the primitive byte -/
def k5 : Class := { plain "byte" none with kind := .primitive 'B', accessFlags := 0x411 }
/-- [B -/
def k6 : Class := { plain "[B" (some 0) with kind := .array 5 .byte, interfaces := #[3, 4], accessFlags := 1041 }

/-- the primitive int -/
def k7 : Class := { plain "int" none with kind := .primitive 'I', accessFlags := 0x411 }
/-- [I -/
def k8 : Class := { plain "[I" (some 0) with kind := .array 7 .int, interfaces := #[3, 4], accessFlags := 1041 }

/-- the primitive long -/
def k9 : Class := { plain "long" none with kind := .primitive 'J', accessFlags := 0x411 }
/-- [J -/
def k10 : Class := { plain "[J" (some 0) with kind := .array 9 .long, interfaces := #[3, 4], accessFlags := 1041 }

def heap : Heap := #[]
def classes : Array Class := #[k0, k1, k2, k3, k4, k5, k6, k7, k8, k9, k10]
def interned : List (Array UInt16 × Addr) := []
def slotsUsed : Nat := 0
def theMethod : MethodId := ⟨1, 2⟩
def args0 : Array Value := #[.int 2, .long 5, .long 6, .long 7]
def aboutOver (below : List Frame) : State where
  vm := { classes := classes, interned := interned.toArray }
  heap := heap
  slotsUsed := slotsUsed
  threads := #[{ frames := .invoking theMethod args0 :: below }]
def below0 : List Frame := [.native { method := ⟨0, 0⟩, args := #[] }]
def about1 : State := aboutOver below0
def p0 : Program := .bare "" "" ""
def e0 : Env := launch0.env 0 0 0
theorem w_frames : about1.frames = Frame.invoking theMethod args0 :: below0 := rfl
set_option maxRecDepth 65536 in
theorem w_args : argsFit about1.vm theMethod args0 = true := by decide +kernel
set_option maxRecDepth 65536 in
theorem w_heap : heapFits about1 = true := by decide +kernel
set_option maxRecDepth 65536 in
theorem w_runnable : about1.curStatus? = some .runnable := by decide +kernel
set_option maxRecDepth 65536 in
theorem w_alone : about1.alone = true := by decide +kernel
set_option maxRecDepth 65536 in
theorem w_named : about1.methodNamed? x = some theMethod := by decide +kernel
set_option maxRecDepth 65536 in
theorem w_hears : about1.hears theMethod below0 = true := by decide +kernel
set_option maxRecDepth 65536 in
theorem w_ripe : about1.ripe theMethod args0 below0 = true := by decide +kernel
theorem w_running : about1.status = .running := rfl
set_option maxRecDepth 65536 in
theorem w_room : about1.hasRoom e0.platform room_1 = true :=
  launch0.hasRoom_least _ room_1 (by decide +kernel) (by decide +kernel) (by decide +kernel) (by decide +kernel) (by decide +kernel) (by decide +kernel)
theorem allAtoms_all (ts : List Jvm.Cond) (a : Array Jvm.Value) (st : Jvm.State) : (allAtoms ts).before a st = ts.all (fun c => c.before a st) := by
  induction ts with
  | nil => rfl
  | cons c t ih =>
    show (Jvm.Cond.and c (allAtoms t)).before a st = _
    rw [Jvm.Cond.before_and, ih, List.all_cons]
def words1 : List Jvm.Cond := Jvm.Cond.code x code maxLocals ret :: tables_1
/-- a 'code' word, met by the world's own term for the bytes: nothing is compared byte by byte -/
theorem code_word {y : MethodName} {bytes : ByteArray} {mx : Nat} {rt : Option FieldType} {a : Array Value} {s : State} {m : MethodId} {meth : Method} {c : Code} (h1 : s.methodNamed? y = some m) (h2 : s.vm.method? m = some meth) (h3 : meth.code = some c) (h4 : c.code = bytes)
    (h5 : (c.maxLocals == mx && c.exceptionTable.isEmpty && decide (c.maxStack ≤ mostOperands) && decide (meth.sig.returnType = rt) && !meth.locks && decide (parseMethodDescriptor y.desc = some meth.sig)) = true) : (Jvm.Cond.code y bytes mx rt).before a s = true := by
  simp only [Bool.and_eq_true, beq_iff_eq, Bool.not_eq_true', decide_eq_true_eq] at h5
  obtain ⟨⟨⟨⟨⟨g1, g2⟩, g3⟩, g4⟩, g5⟩, g6⟩ := h5
  simp [Cond.before, Cond.holds, Cond.value, h1, h2, h3, h4, g1, g2, g3, g4, g5, g6]
def isCode : Jvm.Cond → Bool
  | .code _ _ _ _ => true
  | _ => false
theorem all_split {L : List Jvm.Cond} {P : Jvm.Cond → Bool} (h1 : L.all (fun c => isCode c || P c) = true) (h2 : ∀ c ∈ L.filter isCode, P c = true) : L.all P = true := by
  refine List.all_eq_true.mpr fun c hc => ?_
  have h := List.all_eq_true.mp h1 c hc
  rcases Bool.eq_false_or_eq_true (isCode c) with hi | hi
  · exact h2 c (List.mem_filter.mpr ⟨hc, hi⟩)
  · simpa [hi] using h
set_option maxRecDepth 65536 in
theorem w_c0 : (Jvm.Cond.code x code maxLocals ret).before args0 about1 = true := code_word (m := ⟨1, 2⟩) (meth := k1m2) (c := k1c2) (by decide +kernel) rfl rfl rfl (by decide +kernel)
set_option maxRecDepth 65536 in
theorem w_c1 : (Jvm.Cond.code ({ cls := "com/example/netz/netz/net/SparseVectorIsNonNegativePinLaw", name := "nonZero", desc := "(J)J" } : Jvm.MethodName) method_2_code (2 : Nat) (Option.some Jvm.ClassFile.FieldType.long)).before args0 about1 = true := code_word (m := ⟨1, 1⟩) (meth := k1m1) (c := k1c1) (by decide +kernel) rfl rfl rfl (by decide +kernel)
set_option maxRecDepth 65536 in
theorem w_c2 : (Jvm.Cond.code ({ cls := "com/example/netz/netz/net/SparseVector", name := "<init>", desc := "([I[J)V" } : Jvm.MethodName) prog_42_method_1_code (3 : Nat) (Option.none : Option Jvm.ClassFile.FieldType)).before args0 about1 = true := code_word (m := ⟨2, 0⟩) (meth := k2m0) (c := k2c0) (by decide +kernel) rfl rfl rfl (by decide +kernel)
set_option maxRecDepth 65536 in
theorem w_c3 : (Jvm.Cond.code ({ cls := "java/lang/Object", name := "<init>", desc := "()V" } : Jvm.MethodName) object_method_1_code (1 : Nat) (Option.none : Option Jvm.ClassFile.FieldType)).before args0 about1 = true := code_word (m := ⟨0, 0⟩) (meth := k0m0) (c := k0c0) (by decide +kernel) rfl rfl rfl (by decide +kernel)
set_option maxRecDepth 65536 in
theorem w_c4 : (Jvm.Cond.code ({ cls := "com/example/netz/netz/net/SparseVector", name := "isNonNegative", desc := "()Z" } : Jvm.MethodName) prog_42_method_11_code (6 : Nat) (Option.some Jvm.ClassFile.FieldType.boolean)).before args0 about1 = true := code_word (m := ⟨2, 1⟩) (meth := k2m1) (c := k2c1) (by decide +kernel) rfl rfl rfl (by decide +kernel)
def codes1 : List Jvm.Cond := [Jvm.Cond.code x code maxLocals ret, Jvm.Cond.code ({ cls := "com/example/netz/netz/net/SparseVectorIsNonNegativePinLaw", name := "nonZero", desc := "(J)J" } : Jvm.MethodName) method_2_code (2 : Nat) (Option.some Jvm.ClassFile.FieldType.long), Jvm.Cond.code ({ cls := "com/example/netz/netz/net/SparseVector", name := "<init>", desc := "([I[J)V" } : Jvm.MethodName) prog_42_method_1_code (3 : Nat) (Option.none : Option Jvm.ClassFile.FieldType), Jvm.Cond.code ({ cls := "java/lang/Object", name := "<init>", desc := "()V" } : Jvm.MethodName) object_method_1_code (1 : Nat) (Option.none : Option Jvm.ClassFile.FieldType), Jvm.Cond.code ({ cls := "com/example/netz/netz/net/SparseVector", name := "isNonNegative", desc := "()Z" } : Jvm.MethodName) prog_42_method_11_code (6 : Nat) (Option.some Jvm.ClassFile.FieldType.boolean)]
set_option maxRecDepth 65536 in
theorem codes_eq : words1.filter isCode = codes1 := rfl
theorem w_codes : ∀ c ∈ words1.filter isCode, c.before args0 about1 = true := by
  rw [codes_eq]
  intro c hc
  simp only [codes1, List.mem_cons, List.not_mem_nil, or_false] at hc
  rcases hc with rfl | rfl | rfl | rfl | rfl
  · exact w_c0
  · exact w_c1
  · exact w_c2
  · exact w_c3
  · exact w_c4
set_option maxRecDepth 65536 in
theorem w_t1 : (words1.take 24).all (fun c => isCode c || c.before args0 about1) = true := by decide +kernel
set_option maxRecDepth 65536 in
theorem w_t2 : (words1.drop 24).all (fun c => isCode c || c.before args0 about1) = true := by decide +kernel
theorem w_tables : (allAtoms (Jvm.Cond.code x code maxLocals ret :: tables_1)).before args0 about1 = true := by
  rw [allAtoms_all]
  show words1.all (fun c => c.before args0 about1) = true
  refine all_split ?_ w_codes
  rw [← List.take_append_drop 24 words1, List.all_append, w_t1, w_t2]
  rfl
set_option maxRecDepth 65536 in
theorem w_case : (Jvm.Cond.and given_1 narrow_1).before args0 about1 = true := by decide +kernel
theorem w_applies : (headSpec (Jvm.Cond.code x code maxLocals ret :: tables_1) room_1).applies x e0.platform about1 = true :=
  (Spec.applies_iff w_frames).mpr ⟨w_running, w_runnable, w_alone, w_named, w_hears, w_ripe, w_room, w_tables⟩
theorem atStart : AtStart classFile x code maxLocals ret World_1 tables_1 room_1 Calls_1 rest_1 Pre_1 launch0 p0 e0 about1 theMethod args0 below0 :=
  ⟨lists_1, trivial, launch0.admits_env _ _ _, launch0.least_env, fairChoices_fair.cas, fairChoices_fair.clock, w_frames, w_args, w_heap, w_applies, trivial, trivial, w_case⟩
end start1
theorem witness_1 : WitnessClaimed_1 := ⟨start1.p0, start1.e0, start1.about1, start1.theMethod, start1.args0, start1.below0, start1.atStart⟩
end Jvm.Pilot.@@N@@
