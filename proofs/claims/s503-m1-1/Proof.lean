import JvmDerived
import JvmDerived.Pilot.@@N@@Statement
import JvmDerived.Pilot.@@N@@Code
set_option linter.unusedVariables false
set_option linter.unusedSimpArgs false
namespace Jvm.Pilot.@@N@@
open Jvm Jvm.ClassFile Sem Op Lib Jvm.Free Jvm.Stand Jvm.LawKit Jvm.RoadKit Bundle Jvm.Pilot.@@N@@.Jvm.D
/-! own_Go: from t the run comes to a state where G holds. A walk is written backwards from the goal, so that a case split may stand anywhere. -/
def own_Go (p : Program) (e : Env) (below : List Frame) (G : State → Prop) (t : State) : Prop := ∃ u, Steps p.tables e below t u ∧ G u
theorem own_st {p : Program} {e : Env} {below : List Frame} {G : State → Prop} {t u : State} (f : ∀ w, Steps p.tables e below u w → Steps p.tables e below t w) (k : own_Go p e below G u) : own_Go p e below G t := by
  obtain ⟨w, s, g⟩ := k
  exact ⟨w, f w s, g⟩
theorem own_jp {p : Program} {e : Env} {below : List Frame} {G : State → Prop} {t u : State} (f : Steps p.tables e below t u) (k : own_Go p e below G u) : own_Go p e below G t := by
  obtain ⟨w, s, g⟩ := k
  exact ⟨w, f.trans s, g⟩
theorem own_out {p : Program} {e : Env} {below : List Frame} {t : State} {Q : Outcome → State → Prop} (k : own_Go p e below (fun u => ∃ o, u.status = .running ∧ Ended u below o ∧ Q o u) t) : ∃ s₂ o, Steps p.tables e below t s₂ ∧ s₂.status = .running ∧ Ended s₂ below o ∧ Q o s₂ := by
  obtain ⟨w, s, o, g⟩ := k
  exact ⟨w, o, s, g⟩
theorem own_nm {p : Program} {e : Env} {below : List Frame} {G0 : State → Prop} {t : State} (k : ∀ G, G = G0 → own_Go p e below G t) : own_Go p e below G0 t := k _ rfl
theorem own_tll {x y : Int64} (h : x < y) : lcmpW x y < 0 := (lw_lt x y).mpr h
theorem own_fll {x y : Int64} (h : ¬ x < y) : ¬ lcmpW x y < 0 := fun q => h ((lw_lt x y).mp q)
theorem own_tlg {x y : Int64} (h : y < x) : 0 < lcmpW x y := (lw_gt x y).mpr h
theorem own_flg {x y : Int64} (h : ¬ y < x) : ¬ 0 < lcmpW x y := fun q => h ((lw_gt x y).mp q)
theorem own_tle {x y : Int64} (h : x = y) : lcmpW x y = 0 := (lw_eq x y).mpr h
theorem own_fle {x y : Int64} (h : ¬ x = y) : ¬ lcmpW x y = 0 := fun q => h ((lw_eq x y).mp q)
section Own
variable {p : Program} {l : Launch} {e : Env} {R : Room} {s : State} {m : MethodId} {args : Array Value} {below : List Frame} {meth : Method} {c : Code} {T : State} {locs : List Loc} {cells slots : Nat} {Z : State} {h h' : Heap} {a b : Addr} {ty : FieldType} {vs : List Value} {v : Value}
theorem own_retI (X : Stand p l e R s m args below meth c T locs cells slots) (hx : p.tables.exec = Jvm.exec) {pc : Nat} {Ls : Array Slot} {z : Int32} {rest : List Value} (hret : meth.sig.returnType = some .int) (hd : decode c.code pc = .ok (.ireturn, 1)) {fs : List Frame}
    (hl : ∀ (f : JFrame) (acts : List Action), f.method = m → f.locked = none → f.entered = [] → (doReturn e (T.setTop f) acts (some (.int z))).1 = T.setFrames fs) : Steps p.tables e below (T.setTop (mkF m pc Ls (.int z :: rest))) (T.setFrames fs) :=
  retOut X hx hret rfl (Or.inl ⟨rfl, Or.inl rfl, z, rfl⟩) hd hl
theorem own_retJ (X : Stand p l e R s m args below meth c T locs cells slots) (hx : p.tables.exec = Jvm.exec) {pc : Nat} {Ls : Array Slot} {z : Int64} {rest : List Value} (hret : meth.sig.returnType = some .long) (hd : decode c.code pc = .ok (.lreturn, 1)) {fs : List Frame}
    (hl : ∀ (f : JFrame) (acts : List Action), f.method = m → f.locked = none → f.entered = [] → (doReturn e (T.setTop f) acts (some (.long z))).1 = T.setFrames fs) : Steps p.tables e below (T.setTop (mkF m pc Ls (.long z :: rest))) (T.setFrames fs) :=
  retOut X hx hret rfl (Or.inr (Or.inl ⟨rfl, rfl, z, rfl⟩)) hd hl
/-! own_L: the array at a holds just the list vs -/
def own_L (Z : State) (h : Heap) (a : Addr) (ty : FieldType) (vs : List Value) : Prop := ∃ cl : Cell, Arr Z h a cl ty ∧ cl.slots = vs.toArray
theorem own_L.lt (F : own_L Z h a ty vs) : a < h.size := by obtain ⟨cl, A, -⟩ := F; exact A.lt
theorem own_L.ext (F : own_L Z h a ty vs) (E : Ext h h') : own_L Z h' a ty vs := by obtain ⟨cl, A, q⟩ := F; exact ⟨cl, A.ext E, q⟩
theorem own_L.other {sl : Nat} (F : own_L Z h b ty vs) (W : Wr h h' a sl v) (q : b ≠ a) : own_L Z h' b ty vs := by obtain ⟨cl, A, r⟩ := F; exact ⟨cl, A.other W q, r⟩
theorem own_L.keep {ws : List Addr} (F : own_L Z h a ty vs) (K : Keep h h' ws) (q : a ∉ ws) : own_L Z h' a ty vs := by obtain ⟨cl, A, r⟩ := F; exact ⟨cl, ⟨K.2.1 a cl A.1 q, A.2⟩, r⟩
theorem own_L.new {k : ClassId} {z : Int32} (A : Arr Z h a (newA k ty z) ty) : own_L Z h a ty (List.replicate z.toNatClampNeg (defaultValue ty)) := ⟨_, A, by simp [newA]⟩
theorem own_L.same {k : Nat} (F : own_L Z h a ty vs) (W : Wr h h' a k v) : own_L Z h' a ty (vs.set k v) := by
  obtain ⟨cl, A, q⟩ := F
  exact ⟨_, A.same W, by simp [Cell.setSlot, q]⟩
theorem own_in {cl : Cell} {j : Int32} (q : cl.slots = vs.toArray) (h1 : ¬ j < 0) (h2 : j.toNatClampNeg < vs.length) : ¬ (j < 0 ∨ cl.slots.size ≤ j.toNatClampNeg) := by
  rw [q]
  rintro (r | r)
  · exact h1 r
  · simp at r; omega
theorem own_at {cl : Cell} {k : Nat} (q : cl.slots = vs.toArray) (hv : vs[k]? = some v) : cl.slots[k]? = some v := by rw [q]; simpa using hv
theorem own_lt {k : Nat} (hv : vs[k]? = some v) : k < vs.length := by
  obtain ⟨q, -⟩ := List.getElem?_eq_some_iff.mp hv
  exact q
theorem own_bld (X : Stand p l e R s m args below meth c T locs cells slots) (hx : p.tables.exec = Jvm.exec) (hZ : Z.Warmed39 s.vm) (eT : T.heap = h) (F : own_L Z h a .byte vs) {j : Int32} {i : Nat} (h1 : ¬ j < 0) (hi : j.toNatClampNeg = i) (hv : vs[i]? = some v) {g : JFrame} (hg : g.method = m) {rest : List Value} (hs : g.stack = .int j :: .ref a :: rest) (hd : decode c.code g.pc = .ok (.baload, 1)) :
    ∀ target, Steps p.tables e below (T.setTop { g with pc := g.pc + 1, stack := v :: rest }) target → Steps p.tables e below (T.setTop g) target := by
  obtain ⟨cl, A, q⟩ := F
  subst hi
  exact X.baloadBytes hx (by rw [eT]; exact A.1) (State.isArrayOf_alike hZ.alike A.2.1) A.2.2 (own_in q h1 (own_lt hv)) (own_at q hv) hg hs hd
theorem own_jld (X : Stand p l e R s m args below meth c T locs cells slots) (hx : p.tables.exec = Jvm.exec) (hZ : Z.Warmed39 s.vm) (eT : T.heap = h) (F : own_L Z h a .long vs) {j : Int32} {i : Nat} (h1 : ¬ j < 0) (hi : j.toNatClampNeg = i) (hv : vs[i]? = some v) {g : JFrame} (hg : g.method = m) {rest : List Value} (hs : g.stack = .int j :: .ref a :: rest) (hd : decode c.code g.pc = .ok (.laload, 1)) :
    ∀ target, Steps p.tables e below (T.setTop { g with pc := g.pc + 1, stack := v :: rest }) target → Steps p.tables e below (T.setTop g) target := by
  obtain ⟨cl, A, q⟩ := F
  subst hi
  exact X.laload hx (by rw [eT]; exact A.1) (State.isArrayOf_alike hZ.alike A.2.1) A.2.2 (own_in q h1 (own_lt hv)) (own_at q hv) hg hs hd
theorem own_ild (X : Stand p l e R s m args below meth c T locs cells slots) (hx : p.tables.exec = Jvm.exec) (hZ : Z.Warmed39 s.vm) (eT : T.heap = h) (F : own_L Z h a .int vs) {j : Int32} {i : Nat} (h1 : ¬ j < 0) (hi : j.toNatClampNeg = i) (hv : vs[i]? = some v) {g : JFrame} (hg : g.method = m) {rest : List Value} (hs : g.stack = .int j :: .ref a :: rest) (hd : decode c.code g.pc = .ok (.iaload, 1)) :
    ∀ target, Steps p.tables e below (T.setTop { g with pc := g.pc + 1, stack := v :: rest }) target → Steps p.tables e below (T.setTop g) target := by
  obtain ⟨cl, A, q⟩ := F
  subst hi
  exact X.iaload hx (by rw [eT]; exact A.1) (State.isArrayOf_alike hZ.alike A.2.1) A.2.2 (own_in q h1 (own_lt hv)) (own_at q hv) hg hs hd
theorem own_zld (X : Stand p l e R s m args below meth c T locs cells slots) (hx : p.tables.exec = Jvm.exec) (hZ : Z.Warmed39 s.vm) (eT : T.heap = h) (F : own_L Z h a .boolean vs) {j : Int32} {i : Nat} (h1 : ¬ j < 0) (hi : j.toNatClampNeg = i) (hv : vs[i]? = some v) {g : JFrame} (hg : g.method = m) {rest : List Value} (hs : g.stack = .int j :: .ref a :: rest) (hd : decode c.code g.pc = .ok (.baload, 1)) :
    ∀ target, Steps p.tables e below (T.setTop { g with pc := g.pc + 1, stack := v :: rest }) target → Steps p.tables e below (T.setTop g) target := by
  obtain ⟨cl, A, q⟩ := F
  subst hi
  exact X.baloadBooleans hx (by rw [eT]; exact A.1) (State.isArrayOf_alike hZ.alike A.2.1) A.2.2 (own_in q h1 (own_lt hv)) (own_at q hv) hg hs hd
theorem own_len (X : Stand p l e R s m args below meth c T locs cells slots) (hx : p.tables.exec = Jvm.exec) (hZ : Z.Warmed39 s.vm) (eT : T.heap = h) (F : own_L Z h a ty vs) {z : Int32} (hz : vs.length.toInt32 = z) {g : JFrame} (hg : g.method = m) {rest : List Value} (hs : g.stack = .ref a :: rest) (hd : decode c.code g.pc = .ok (.arraylength, 1)) :
    ∀ target, Steps p.tables e below (T.setTop { g with pc := g.pc + 1, stack := .int z :: rest }) target → Steps p.tables e below (T.setTop g) target := by
  obtain ⟨cl, A, q⟩ := F
  intro w k
  refine X.arraylength hx (by rw [eT]; exact A.1) (State.isArrayOf_alike hZ.alike A.2.1) hg hs hd w ?_
  have q2 : cl.slots.size.toInt32 = z := by rw [← hz, q]; simp
  rw [q2]; exact k
theorem own_bst (X : Stand p l e R s m args below meth c T locs cells slots) (hx : p.tables.exec = Jvm.exec) (hZ : Z.Warmed39 s.vm) (eT : T.heap = h) (F : own_L Z h a .byte vs) {j x : Int32} (i : Nat) (h1 : ¬ j < 0) (hi : j.toNatClampNeg = i) (h2 : i < vs.length) {g : JFrame} (hg : g.method = m) {rest : List Value} (hs : g.stack = .int x :: .int j :: .ref a :: rest) (hd : decode c.code g.pc = .ok (.bastore, 1)) :
    ∃ T' h', Stand p l e R s m args below meth c T' (locs ++ [⟨a, i⟩]) cells slots ∧ T'.heap = h' ∧ Wr h h' a i (.int x.toInt8.toInt32) ∧ own_L Z h' a .byte (vs.set i (.int x.toInt8.toInt32)) ∧ ∀ target, Steps p.tables e below (T'.setTop { g with pc := g.pc + 1, stack := rest }) target → Steps p.tables e below (T.setTop g) target := by
  obtain ⟨cl, A, q⟩ := F
  subst hi
  obtain ⟨T', h', X', e', W, st⟩ := stB X hx hZ eT A (own_in q h1 h2) hg hs hd
  exact ⟨T', h', X', e', W, own_L.same ⟨cl, A, q⟩ W, st⟩
theorem own_zst (X : Stand p l e R s m args below meth c T locs cells slots) (hx : p.tables.exec = Jvm.exec) (hZ : Z.Warmed39 s.vm) (eT : T.heap = h) (F : own_L Z h a .boolean vs) {j x : Int32} (i : Nat) (h1 : ¬ j < 0) (hi : j.toNatClampNeg = i) (h2 : i < vs.length) {g : JFrame} (hg : g.method = m) {rest : List Value} (hs : g.stack = .int x :: .int j :: .ref a :: rest) (hd : decode c.code g.pc = .ok (.bastore, 1)) :
    ∃ T' h', Stand p l e R s m args below meth c T' (locs ++ [⟨a, i⟩]) cells slots ∧ T'.heap = h' ∧ Wr h h' a i (.int (x &&& 1)) ∧ own_L Z h' a .boolean (vs.set i (.int (x &&& 1))) ∧ ∀ target, Steps p.tables e below (T'.setTop { g with pc := g.pc + 1, stack := rest }) target → Steps p.tables e below (T.setTop g) target := by
  obtain ⟨cl, A, q⟩ := F
  subst hi
  obtain ⟨T', h', X', e', W, st⟩ := stZ X hx hZ eT A (own_in q h1 h2) hg hs hd
  exact ⟨T', h', X', e', W, own_L.same ⟨cl, A, q⟩ W, st⟩
theorem own_jst (X : Stand p l e R s m args below meth c T locs cells slots) (hx : p.tables.exec = Jvm.exec) (hZ : Z.Warmed39 s.vm) (eT : T.heap = h) (F : own_L Z h a .long vs) {j : Int32} {x : Int64} (i : Nat) (h1 : ¬ j < 0) (hi : j.toNatClampNeg = i) (h2 : i < vs.length) {g : JFrame} (hg : g.method = m) {rest : List Value} (hs : g.stack = .long x :: .int j :: .ref a :: rest) (hd : decode c.code g.pc = .ok (.lastore, 1)) :
    ∃ T' h', Stand p l e R s m args below meth c T' (locs ++ [⟨a, i⟩]) cells slots ∧ T'.heap = h' ∧ Wr h h' a i (.long x) ∧ own_L Z h' a .long (vs.set i (.long x)) ∧ ∀ target, Steps p.tables e below (T'.setTop { g with pc := g.pc + 1, stack := rest }) target → Steps p.tables e below (T.setTop g) target := by
  obtain ⟨cl, A, q⟩ := F
  subst hi
  obtain ⟨T', h', X', e', W, st⟩ := stJ X hx hZ eT A (own_in q h1 h2) hg hs hd
  exact ⟨T', h', X', e', W, own_L.same ⟨cl, A, q⟩ W, st⟩
theorem own_ist (X : Stand p l e R s m args below meth c T locs cells slots) (hx : p.tables.exec = Jvm.exec) (hZ : Z.Warmed39 s.vm) (eT : T.heap = h) (F : own_L Z h a .int vs) {j x : Int32} (i : Nat) (h1 : ¬ j < 0) (hi : j.toNatClampNeg = i) (h2 : i < vs.length) {g : JFrame} (hg : g.method = m) {rest : List Value} (hs : g.stack = .int x :: .int j :: .ref a :: rest) (hd : decode c.code g.pc = .ok (.iastore, 1)) :
    ∃ T' h', Stand p l e R s m args below meth c T' (locs ++ [⟨a, i⟩]) cells slots ∧ T'.heap = h' ∧ Wr h h' a i (.int x) ∧ own_L Z h' a .int (vs.set i (.int x)) ∧ ∀ target, Steps p.tables e below (T'.setTop { g with pc := g.pc + 1, stack := rest }) target → Steps p.tables e below (T.setTop g) target := by
  obtain ⟨cl, A, q⟩ := F
  subst hi
  obtain ⟨T', h', X', e', W, st⟩ := stI X hx hZ eT A (own_in q h1 h2) hg hs hd
  exact ⟨T', h', X', e', W, own_L.same ⟨cl, A, q⟩ W, st⟩
theorem own_clone (X : Stand p l e R s m args below meth c T locs cells slots) (hx : p.tables.exec = Jvm.exec) (hZ : Z.Warmed39 s.vm) {a0 : Array Value} {own ad : String} {index : Nat} (hown : s.vm.findClass own = some m.cls)
    (w1 : (Cond.methodLink own index ⟨ad, "clone", "()Ljava/lang/Object;"⟩).before a0 Z = true) (w2 : (Cond.sameMethod ad "java/lang/Object" "clone" "()Ljava/lang/Object;").before a0 Z = true) (w3 : (Cond.native ⟨"java/lang/Object", "clone", "()Ljava/lang/Object;"⟩).before a0 Z = true)
    (w4 : (Cond.instanceMethod ⟨"java/lang/Object", "clone", "()Ljava/lang/Object;"⟩).before a0 Z = true) (w5 : (Cond.selects ad ⟨ad, "clone", "()Ljava/lang/Object;"⟩ ⟨"java/lang/Object", "clone", "()Ljava/lang/Object;"⟩).before a0 Z = true) (w6 : (Cond.castable ad "java/lang/Cloneable").before a0 Z = true)
    (eT : T.heap = h) (F : own_L Z h a ty vs) (E : Exa Z h a ad) (hfit : ∀ v ∈ vs, fits ty v = true) {g : JFrame} (hg : g.method = m) (hsize : g.locals.size = c.maxLocals) {rest : List Value} (hs : g.stack = .ref a :: rest) (hd : decode c.code g.pc = .ok (.invokevirtual index, 3))
    (hf : 1 ≤ R.frames) {W cap : Nat} (hW : 2 * g.monitorRoom + (rest.map fun v => v.category).sum ≤ W) (hl : W + 14 ≤ R.locals) (hcap : vs.length ≤ cap) (hc : cells + 1 ≤ R.cells) (hsl : slots + cap ≤ R.slots) :
    ∃ T' h', Stand p l e R s m args below meth c T' locs (cells + 1) (slots + cap) ∧ T'.heap = h' ∧ Ext h h' ∧ own_L Z h' h.size ty vs ∧ Exa Z h' h.size ad ∧
      ∀ target, Steps p.tables e below (T'.setTop { g with pc := g.pc + 3, stack := .ref h.size :: rest }) target → Steps p.tables e below (T.setTop g) target := by
  obtain ⟨cl, A, q⟩ := F
  have FC : FitC Z cl := fitC_of A fun i hi v hv => hfit v (by
    rw [q] at hv
    exact List.mem_of_getElem? (by simpa using hv))
  obtain ⟨T', h', X', e', ex, A', E', st⟩ := cloneA X hx hZ hown w1 w2 w3 w4 w5 w6 eT A E FC hg hsize hs hd hf hW hl (by rw [q]; simpa using hcap) hc hsl
  exact ⟨T', h', X', e', ex, ⟨cloneOf cl, A', q⟩, E', st⟩
end Own
theorem own_nn {i : Int32} {n : Nat} (h : i.toInt = n) : ¬ i < 0 := by
  have z0 : (0 : Int32).toInt = 0 := by decide
  rw [Int32.lt_iff_toInt_lt, z0]; omega
theorem own_nat {i : Int32} {n : Nat} (h : i.toInt = n) : i.toNatClampNeg = n := by
  show i.toInt.toNat = n
  omega
theorem own_up {i : Int32} {n : Nat} (h : i.toInt = n) (hn : n < 2147483647) : (i + (1 : Int32)).toInt = (n + 1 : Nat) := by
  have h1 := c_iadd i 1
  have r1 := rng32 (i + 1)
  have z1 : (1 : Int32).toInt = 1 := by decide
  rw [z1] at h1
  omega
theorem own_ltn {i j : Int32} {n k : Nat} (h : i.toInt = n) (h' : j.toInt = k) (hc : i < j) : n < k := by rw [Int32.lt_iff_toInt_lt] at hc; omega
theorem own_gen {i j : Int32} {n k : Nat} (h : i.toInt = n) (h' : j.toInt = k) (hc : ¬ i < j) : k - n = 0 := by rw [Int32.lt_iff_toInt_lt] at hc; omega
theorem own_of {i : Int32} {n : Nat} (h : i.toInt = n) : i = Int32.ofNat n := by
  have := rng32 i
  apply Int32.toInt_inj.mp
  rw [Int32.toInt_ofNat_of_lt (by omega)]; exact h
/-! a list of ints as an array's values -/
def own_bl (B : Nat → Int32) (n : Nat) : List Value := (List.range n).map fun j => .int (B j)
theorem own_bl_at (B : Nat → Int32) {n k : Nat} (hk : k < n) : (own_bl B n)[k]? = some (.int (B k)) := by simp [own_bl, hk]
theorem own_bl_len (B : Nat → Int32) (n : Nat) : (own_bl B n).length = n := by simp [own_bl]
def own_al : List (Int32 × Int64) → List (Int32 × Int64) → Int32
  | [], [] => 1
  | x :: xs, [] => if x.2 < (0 : Int64) then 0 else own_al xs []
  | [], y :: ys => if (0 : Int64) < y.2 then 0 else own_al [] ys
  | x :: xs, y :: ys => if x.1 < y.1 then (if x.2 < (0 : Int64) then 0 else own_al xs (y :: ys)) else if y.1 < x.1 then (if (0 : Int64) < y.2 then 0 else own_al (x :: xs) ys) else (if x.2 < y.2 then 0 else own_al xs ys)
termination_by a b => a.length + b.length
theorem own_al_nn : own_al [] [] = 1 := by rw [own_al]
theorem own_al_xn (x : Int32 × Int64) (xs : List (Int32 × Int64)) : own_al (x :: xs) [] = if x.2 < (0 : Int64) then 0 else own_al xs [] := by rw [own_al]
theorem own_al_ny (y : Int32 × Int64) (ys : List (Int32 × Int64)) : own_al [] (y :: ys) = if (0 : Int64) < y.2 then 0 else own_al [] ys := by rw [own_al]
theorem own_al_xy (x y : Int32 × Int64) (xs ys : List (Int32 × Int64)) : own_al (x :: xs) (y :: ys) = if x.1 < y.1 then (if x.2 < (0 : Int64) then 0 else own_al xs (y :: ys)) else if y.1 < x.1 then (if (0 : Int64) < y.2 then 0 else own_al (x :: xs) ys) else (if x.2 < y.2 then 0 else own_al xs ys) := by rw [own_al]
def own_bp (f0 : Int32) (x0 : Int64) (f1 : Int32) (x1 : Int64) (f2 : Int32) (x2 : Int64) : List (Int32 × Int64) :=
  if f0 = (0 : Int32) then (if f1 = (0 : Int32) then (if f2 = (0 : Int32) then [] else [((2147483647 : Int32), x2)]) else (if f2 = (0 : Int32) then [((0 : Int32), x1)] else [((0 : Int32), x1), ((2147483647 : Int32), x2)]))
  else (if f1 = (0 : Int32) then (if f2 = (0 : Int32) then [((-2147483648 : Int32), x0)] else [((-2147483648 : Int32), x0), ((2147483647 : Int32), x2)]) else (if f2 = (0 : Int32) then [((-2147483648 : Int32), x0), ((0 : Int32), x1)] else [((-2147483648 : Int32), x0), ((0 : Int32), x1), ((2147483647 : Int32), x2)]))
def own_sel (f : Int32) (x : Int64) : Int64 := if f = (0 : Int32) then 0 else x
theorem own_o1 : ((-2147483648 : Int32) < 0) = True := by decide
theorem own_o2 : ((-2147483648 : Int32) < 2147483647) = True := by decide
theorem own_o3 : ((0 : Int32) < 2147483647) = True := by decide
theorem own_o4 : ((0 : Int32) < -2147483648) = False := by decide
theorem own_o5 : ((2147483647 : Int32) < -2147483648) = False := by decide
theorem own_o6 : ((2147483647 : Int32) < 0) = False := by decide
theorem own_o7 (x : Int32) : (x < x) = False := by simp [Int32.lt_iff_toInt_lt]
theorem own_o8 (x : Int64) : (x < x) = False := by simp [Int64.lt_iff_toInt_lt]
set_option maxHeartbeats 4000000 in
theorem own_plain (f0 f1 f2 g0 g1 g2 : Int32) (x0 x1 x2 y0 y1 y2 : Int64) : own_al (own_bp f0 x0 f1 x1 f2 x2) (own_bp g0 y0 g1 y1 g2 y2) =
    if own_sel f0 x0 < own_sel g0 y0 then 0 else if own_sel f1 x1 < own_sel g1 y1 then 0 else if own_sel f2 x2 < own_sel g2 y2 then 0 else 1 := by
  unfold own_bp own_sel
  by_cases a0 : f0 = 0 <;> by_cases a1 : f1 = 0 <;> by_cases a2 : f2 = 0 <;> by_cases b0 : g0 = 0 <;> by_cases b1 : g1 = 0 <;> by_cases b2 : g2 = 0 <;>
    simp only [a0, a1, a2, b0, b1, b2, if_true, if_false, own_al_nn, own_al_xn, own_al_ny, own_al_xy, own_o1, own_o2, own_o3, own_o4, own_o5, own_o6, own_o7, own_o8]
abbrev own_Ps := List (Int32 × Int64)
def own_pi (ps : own_Ps) : List Value := ps.map fun z => .int z.1
def own_pj (ps : own_Ps) : List Value := ps.map fun z => .long z.2
theorem own_pi_len (ps : own_Ps) : (own_pi ps).length = ps.length := by simp [own_pi]
theorem own_pi_at {ps : own_Ps} {k : Nat} {x : Int32 × Int64} (h : ps[k]? = some x) : (own_pi ps)[k]? = some (.int x.1) := by simp [own_pi, h]
theorem own_pj_at {ps : own_Ps} {k : Nat} {x : Int32 × Int64} (h : ps[k]? = some x) : (own_pj ps)[k]? = some (.long x.2) := by simp [own_pj, h]
theorem own_drop {xs : own_Ps} {k : Nat} (h : k < xs.length) : ∃ x, xs[k]? = some x ∧ xs.drop k = x :: xs.drop (k + 1) := ⟨xs[k], by simp [h], List.drop_eq_getElem_cons h⟩
theorem own_bp3 (f0 : Int32) (x0 : Int64) (f1 : Int32) (x1 : Int64) (f2 : Int32) (x2 : Int64) : (own_bp f0 x0 f1 x1 f2 x2).length ≤ 3 := by
  unfold own_bp
  split <;> split <;> split <;> simp
theorem own_toi {k : Nat} (h : k ≤ 3) : (k.toInt32).toInt = k := len_toInt (by omega)
theorem own_geq {i j : Int32} {n k : Nat} (h : i.toInt = n) (h' : j.toInt = k) (hc : ¬ i < j) : k ≤ n := by rw [Int32.lt_iff_toInt_lt] at hc; omega
theorem own_geq' {i j : Int32} {n k : Nat} (h : i.toInt = n) (h' : j.toInt = k) (hc : i = j) : k ≤ n := by subst hc; omega
theorem own_neq {i j : Int32} {n k : Nat} (h : i.toInt = n) (h' : j.toInt = k) (hc : i < j) : ¬ (i = j) := fun q => by rw [Int32.lt_iff_toInt_lt, q] at hc; omega
theorem own_eqq {i j : Int32} {n k : Nat} (h : i.toInt = n) (h' : j.toInt = k) (hn : n ≤ k) (hc : ¬ (i < j)) : i = j := by
  rw [Int32.lt_iff_toInt_lt] at hc
  apply Int32.toInt_inj.mp; omega
theorem own_ltq {i j : Int32} {n k : Nat} (h : i.toInt = n) (h' : j.toInt = k) (hn : n ≤ k) (hc : ¬ (i = j)) : n < k := by
  rcases Nat.lt_or_ge n k with q | q
  · exact q
  · exact absurd (Int32.toInt_inj.mp (by omega : i.toInt = j.toInt)) hc
theorem pn_0 : plainName "com/example/netz/netz/net/SparseVector" = true := by first | (simp [plainName, overriddenIn]; done) | decide +kernel
theorem d2_0 : decode prog_42_method_1_code 0 = .ok (.aload_n 0, 1) := by decide +kernel
theorem d2_1 : decode prog_42_method_1_code 1 = .ok (.invokespecial 1, 3) := by decide +kernel
theorem d2_4 : decode prog_42_method_1_code 4 = .ok (.aload_n 0, 1) := by decide +kernel
theorem d2_5 : decode prog_42_method_1_code 5 = .ok (.aload_n 1, 1) := by decide +kernel
theorem d2_6 : decode prog_42_method_1_code 6 = .ok (.putfield 7, 3) := by decide +kernel
theorem d2_9 : decode prog_42_method_1_code 9 = .ok (.aload_n 0, 1) := by decide +kernel
theorem d2_10 : decode prog_42_method_1_code 10 = .ok (.aload_n 2, 1) := by decide +kernel
theorem d2_11 : decode prog_42_method_1_code 11 = .ok (.putfield 13, 3) := by decide +kernel
theorem d2_14 : decode prog_42_method_1_code 14 = .ok (.return_, 1) := by decide +kernel
theorem ef_rm2 (m : MethodId) (d : Addr) (i1 : Addr) (t2 : Addr) : entryFrame m #[(.ref d), (.ref i1), (.ref t2)] 3 = mkF m 0 #[.val (.ref d), .val (.ref i1), .val (.ref t2)] [] := by first | (simp [entryFrame, mkF, argsToLocals, Value.category]; done) | rfl
def Q2 (Z : State) (d : Addr) (i1 : Addr) (t2 : Addr) (h0 : Heap) (n0 : Nat) (rv : Option Value) (hq : Heap) (Lq : List Loc) : Prop := rv = none ∧ Fr n0 Lq ∧ Keep h0 hq [d] ∧ Exa Z hq d "com/example/netz/netz/net/SparseVector" ∧ Fld Z hq d "com/example/netz/netz/net/SparseVector" "indices" "[I" (.ref i1) ∧ Fld Z hq d "com/example/netz/netz/net/SparseVector" "values" "[J" (.ref t2)
set_option maxRecDepth 65536 in
set_option maxHeartbeats 40000000 in
theorem rm2 (l : Launch) (Z : State) (a0 : Array Value) (hw : ∀ d ∈ tables_1, d.before a0 Z = true) (ws : List Jvm.Cond) (d : Addr) (i1 : Addr) (t2 : Addr) (h0 : Heap) (n0 : Nat) (Z0 : n0 ≤ h0.size) (F0_ : Exa Z h0 d "com/example/netz/netz/net/SparseVector") (F1_ : Fld Z h0 d "com/example/netz/netz/net/SparseVector" "indices" "[I" .null) (F2_ : Fld Z h0 d "com/example/netz/netz/net/SparseVector" "values" "[J" .null) (ge_d : n0 ≤ d) :
    MetFree l (⟨"com/example/netz/netz/net/SparseVector", "<init>", "([I[J)V"⟩ : MethodName) (head1 (Jvm.Cond.code (⟨"com/example/netz/netz/net/SparseVector", "<init>", "([I[J)V"⟩ : MethodName) prog_42_method_1_code 3 none :: ws) ({ frames := 1, cells := 0, slots := 0, locals := 12 } : Room)) (fun za U => za = #[(.ref d), (.ref i1), (.ref t2)] ∧ Z.Warmed39 U.vm ∧ U.heap = h0) (fun _ _ _ _ _ => True) (fun _ U o U' => ∃ rv Lq, o = .returned rv ∧ Q2 Z d i1 t2 h0 n0 rv U'.heap Lq ∧ FrameEnd U o U' Lq ({ frames := 1, cells := 0, slots := 0, locals := 12 } : Room).cells ({ frames := 1, cells := 0, slots := 0, locals := 12 } : Room).slots) := by
  refine MetFree.of_bodySF (plainFor_of_name pn_0) hisR ?_
  intro p e s m args below meth c s₁ Bd hml0 hP hK
  obtain ⟨rfl, hZ, hh⟩ := hP
  have hx := Bd.exec
  have hby := Bd.bytes
  have hml : c.maxLocals = 3 := hml0
  have hown : s.vm.findClass "com/example/netz/netz/net/SparseVector" = some m.cls := findClass_of_methodNamed Bd.named
  have hnm := (name_of_methodNamed Bd.named Bd.method).1
  have X0 : Stand p l e ({ frames := 1, cells := 0, slots := 0, locals := 12 } : Room) s m #[(.ref d), (.ref i1), (.ref t2)] below meth c s₁ [] 0 0 := Stand.of_body Bd
  have e0 : s₁.heap = h0 := by rw [← hh, Bd.state]; rfl
  have N0 := Fr.nil n0
  refine own_out (own_nm fun G hG => own_st (fun zt zk => castTop (ef_rm2 m d i1 t2) zk) ?_)
  show own_Go p e below G (s₁.setTop (mkF m 0 #[.val (.ref d), .val (.ref i1), .val (.ref t2)] []))
  refine own_st (fun zw zk => XS.aloadN X0.here hx rfl (hb hby d2_0) rfl rfl zk) ?_
  obtain ⟨T1, X1, e1, st1⟩ := initO X0 hx hZ hown (hw _ (List.mem_of_getElem? (i := 12) rfl)) (hw _ (List.mem_of_getElem? (i := 13) rfl)) (hw _ (List.mem_of_getElem? (i := 14) rfl)) e0 (g := (mkF m 1 #[.val (.ref d), .val (.ref i1), .val (.ref t2)] [(.ref d)])) rfl (by rw [hml]; rfl) rfl (hb hby d2_1) (by decide) (W := 0) (by show 2 * 0 + _ ≤ _; exact Nat.le_of_eq rfl) (by decide)
  refine own_st (fun zw zk => st1 zw zk) ?_
  refine own_st (fun zw zk => XS.aloadN X1.here hx rfl (hb hby d2_4) rfl rfl zk) ?_
  refine own_st (fun zw zk => XS.aloadN X1.here hx rfl (hb hby d2_5) rfl rfl zk) ?_
  obtain ⟨T2, h2, X2, e2, W2, st2⟩ := putF X1 hx hZ hown (host := "") (Or.inl (hw _ (List.mem_of_getElem? (i := 15) rfl))) Via.refl e1 F1_ F0_ (Or.inr ⟨(hw _ (List.mem_of_getElem? (i := 16) rfl)), rfl, hnm⟩) (hw _ (List.mem_of_getElem? (i := 7) rfl)) (ty := (.array .int)) (by decide) rfl rfl (g := (mkF m 6 #[.val (.ref d), .val (.ref i1), .val (.ref t2)] [(.ref i1), (.ref d)])) rfl rfl (hb hby d2_6)
  have F1_2 := F1_.same W2
  have N2 := Fr.snoc X2 N0 ge_d
  refine own_st (fun zw zk => st2 zw zk) ?_
  have F0_2 := F0_.wr W2
  have F2_2 := F2_.other W2 (Or.inr (slot_ne (Or.inr (hw _ (List.mem_of_getElem? (i := 18) rfl))) (Or.inr (hw _ (List.mem_of_getElem? (i := 16) rfl))) (by decide) (t := (.array .long)) (t' := (.array .int)) (by decide) (by decide)))
  have Z2 : n0 ≤ h2.size := Nat.le_trans Z0 (Keep.of_wr W2).1
  have Kp2 := (Keep.refl h0 [d]).wr W2 (Or.inl (List.mem_of_getElem? (i := 0) rfl))
  refine own_st (fun zw zk => XS.aloadN X2.here hx rfl (hb hby d2_9) rfl rfl zk) ?_
  refine own_st (fun zw zk => XS.aloadN X2.here hx rfl (hb hby d2_10) rfl rfl zk) ?_
  obtain ⟨T3, h3, X3, e3, W3, st3⟩ := putF X2 hx hZ hown (host := "") (Or.inl (hw _ (List.mem_of_getElem? (i := 17) rfl))) Via.refl e2 F2_2 F0_2 (Or.inr ⟨(hw _ (List.mem_of_getElem? (i := 18) rfl)), rfl, hnm⟩) (hw _ (List.mem_of_getElem? (i := 7) rfl)) (ty := (.array .long)) (by decide) rfl rfl (g := (mkF m 11 #[.val (.ref d), .val (.ref i1), .val (.ref t2)] [(.ref t2), (.ref d)])) rfl rfl (hb hby d2_11)
  have F2_3 := F2_2.same W3
  have N3 := Fr.snoc X3 N2 ge_d
  refine own_st (fun zw zk => st3 zw zk) ?_
  have F0_3 := F0_2.wr W3
  have F1_3 := F1_2.other W3 (Or.inr (slot_ne (Or.inr (hw _ (List.mem_of_getElem? (i := 16) rfl))) (Or.inr (hw _ (List.mem_of_getElem? (i := 18) rfl))) (by decide) (t := (.array .int)) (t' := (.array .long)) (by decide) (by decide)))
  have Z3 : n0 ≤ h3.size := Nat.le_trans Z2 (Keep.of_wr W3).1
  have Kp3 := Kp2.wr W3 (Or.inl (List.mem_of_getElem? (i := 0) rfl))
  show own_Go p e below G (T3.setTop (mkF m 14 #[.val (.ref d), .val (.ref i1), .val (.ref t2)] []))
  subst hG
  obtain ⟨fs, hr, hrun, hended, hW, hsame⟩ := X3.leave (v := none) (hlocks := Bd.notSynchronized) (fun _ => rfl)
  refine ⟨_, X3.returnOut hx Bd.returns (hb hby d2_14) hr, _, hrun, hended, _, _, rfl, ?_, ⟨_, rfl⟩, hW, hsame.mono (by decide) (by decide)⟩
  show Q2 Z d i1 t2 h0 n0 _ T3.heap _
  rw [e3]
  exact ⟨rfl, N3, Kp3, F0_3, F1_3, F2_3⟩
theorem pd_0 : parseMethodDescriptor "([I[J)V" = some ⟨[(.array .int), (.array .long)], none⟩ := by decide +kernel
theorem pn_1 : plainName "com/example/netz/netz/net/SparseVectorIsAtLeastPinLaw" = true := by first | (simp [plainName, overriddenIn]; done) | decide +kernel
theorem d1_0 : decode method_2_code 0 = .ok (.iload_n 0, 1) := by decide +kernel
theorem d1_1 : decode method_2_code 1 = .ok (.ifCond .eq 7, 3) := by decide +kernel
theorem d1_4 : decode method_2_code 4 = .ok (.iconst 1, 1) := by decide +kernel
theorem d1_5 : decode method_2_code 5 = .ok (.goto 4, 3) := by decide +kernel
theorem d1_8 : decode method_2_code 8 = .ok (.iconst 0, 1) := by decide +kernel
theorem d1_9 : decode method_2_code 9 = .ok (.iload_n 3, 1) := by decide +kernel
theorem d1_10 : decode method_2_code 10 = .ok (.ifCond .eq 7, 3) := by decide +kernel
theorem d1_13 : decode method_2_code 13 = .ok (.iconst 1, 1) := by decide +kernel
theorem d1_14 : decode method_2_code 14 = .ok (.goto 4, 3) := by decide +kernel
theorem d1_17 : decode method_2_code 17 = .ok (.iconst 0, 1) := by decide +kernel
theorem d1_18 : decode method_2_code 18 = .ok (.iadd, 1) := by decide +kernel
theorem d1_19 : decode method_2_code 19 = .ok (.iload 6, 2) := by decide +kernel
theorem d1_21 : decode method_2_code 21 = .ok (.ifCond .eq 7, 3) := by decide +kernel
theorem d1_24 : decode method_2_code 24 = .ok (.iconst 1, 1) := by decide +kernel
theorem d1_25 : decode method_2_code 25 = .ok (.goto 4, 3) := by decide +kernel
theorem d1_28 : decode method_2_code 28 = .ok (.iconst 0, 1) := by decide +kernel
theorem d1_29 : decode method_2_code 29 = .ok (.iadd, 1) := by decide +kernel
theorem d1_30 : decode method_2_code 30 = .ok (.istore 9, 2) := by decide +kernel
theorem d1_32 : decode method_2_code 32 = .ok (.iload 9, 2) := by decide +kernel
theorem d1_34 : decode method_2_code 34 = .ok (.newarray .int, 2) := by decide +kernel
theorem d1_36 : decode method_2_code 36 = .ok (.astore 10, 2) := by decide +kernel
theorem d1_38 : decode method_2_code 38 = .ok (.iload 9, 2) := by decide +kernel
theorem d1_40 : decode method_2_code 40 = .ok (.newarray .long, 2) := by decide +kernel
theorem d1_42 : decode method_2_code 42 = .ok (.astore 11, 2) := by decide +kernel
theorem d1_44 : decode method_2_code 44 = .ok (.iconst 0, 1) := by decide +kernel
theorem d1_45 : decode method_2_code 45 = .ok (.istore 12, 2) := by decide +kernel
theorem d1_47 : decode method_2_code 47 = .ok (.iload_n 0, 1) := by decide +kernel
theorem d1_48 : decode method_2_code 48 = .ok (.ifCond .eq 19, 3) := by decide +kernel
theorem d1_51 : decode method_2_code 51 = .ok (.aload 10, 2) := by decide +kernel
theorem d1_53 : decode method_2_code 53 = .ok (.iload 12, 2) := by decide +kernel
theorem d1_55 : decode method_2_code 55 = .ok (.ldc 9, 2) := by decide +kernel
theorem d1_57 : decode method_2_code 57 = .ok (.iastore, 1) := by decide +kernel
theorem d1_58 : decode method_2_code 58 = .ok (.aload 11, 2) := by decide +kernel
theorem d1_60 : decode method_2_code 60 = .ok (.iload 12, 2) := by decide +kernel
theorem d1_62 : decode method_2_code 62 = .ok (.lload_n 1, 1) := by decide +kernel
theorem d1_63 : decode method_2_code 63 = .ok (.lastore, 1) := by decide +kernel
theorem d1_64 : decode method_2_code 64 = .ok (.iinc 12 1, 3) := by decide +kernel
theorem d1_67 : decode method_2_code 67 = .ok (.iload_n 3, 1) := by decide +kernel
theorem d1_68 : decode method_2_code 68 = .ok (.ifCond .eq 19, 3) := by decide +kernel
theorem d1_71 : decode method_2_code 71 = .ok (.aload 10, 2) := by decide +kernel
theorem d1_73 : decode method_2_code 73 = .ok (.iload 12, 2) := by decide +kernel
theorem d1_75 : decode method_2_code 75 = .ok (.iconst 0, 1) := by decide +kernel
theorem d1_76 : decode method_2_code 76 = .ok (.iastore, 1) := by decide +kernel
theorem d1_77 : decode method_2_code 77 = .ok (.aload 11, 2) := by decide +kernel
theorem d1_79 : decode method_2_code 79 = .ok (.iload 12, 2) := by decide +kernel
theorem d1_81 : decode method_2_code 81 = .ok (.lload 4, 2) := by decide +kernel
theorem d1_83 : decode method_2_code 83 = .ok (.lastore, 1) := by decide +kernel
theorem d1_84 : decode method_2_code 84 = .ok (.iinc 12 1, 3) := by decide +kernel
theorem d1_87 : decode method_2_code 87 = .ok (.iload 6, 2) := by decide +kernel
theorem d1_89 : decode method_2_code 89 = .ok (.ifCond .eq 20, 3) := by decide +kernel
theorem d1_92 : decode method_2_code 92 = .ok (.aload 10, 2) := by decide +kernel
theorem d1_94 : decode method_2_code 94 = .ok (.iload 12, 2) := by decide +kernel
theorem d1_96 : decode method_2_code 96 = .ok (.ldc 10, 2) := by decide +kernel
theorem d1_98 : decode method_2_code 98 = .ok (.iastore, 1) := by decide +kernel
theorem d1_99 : decode method_2_code 99 = .ok (.aload 11, 2) := by decide +kernel
theorem d1_101 : decode method_2_code 101 = .ok (.iload 12, 2) := by decide +kernel
theorem d1_103 : decode method_2_code 103 = .ok (.lload 7, 2) := by decide +kernel
theorem d1_105 : decode method_2_code 105 = .ok (.lastore, 1) := by decide +kernel
theorem d1_106 : decode method_2_code 106 = .ok (.iinc 12 1, 3) := by decide +kernel
theorem d1_109 : decode method_2_code 109 = .ok (.new 11, 3) := by decide +kernel
theorem d1_112 : decode method_2_code 112 = .ok (.dup, 1) := by decide +kernel
theorem d1_113 : decode method_2_code 113 = .ok (.aload 10, 2) := by decide +kernel
theorem d1_115 : decode method_2_code 115 = .ok (.aload 11, 2) := by decide +kernel
theorem d1_117 : decode method_2_code 117 = .ok (.invokespecial 13, 3) := by decide +kernel
theorem d1_120 : decode method_2_code 120 = .ok (.areturn, 1) := by decide +kernel
theorem ef_rm1 (m : MethodId) (f0 : Int32) (x0 : Int64) (f1 : Int32) (x1 : Int64) (f2 : Int32) (x2 : Int64) : entryFrame m #[(.int f0), (.long x0), (.int f1), (.long x1), (.int f2), (.long x2)] 13 = mkF m 0 #[.val (.int f0), .val (.long x0), .second, .val (.int f1), .val (.long x1), .second, .val (.int f2), .val (.long x2), .second, .unset, .unset, .unset, .unset] [] := by first | (simp [entryFrame, mkF, argsToLocals, Value.category]; done) | rfl
def Q1 (Z : State) (f0 : Int32) (x0 : Int64) (f1 : Int32) (x1 : Int64) (f2 : Int32) (x2 : Int64) (h0 : Heap) (n0 : Nat) (rv : Option Value) (hq : Heap) (Lq : List Loc) : Prop := ∃ bb : Addr, rv = some (.ref bb) ∧ Fr n0 Lq ∧ h0.size ≤ bb ∧ ∃ ti : Addr, ∃ tv : Addr, Keep h0 hq [] ∧ Exa Z hq bb "com/example/netz/netz/net/SparseVector" ∧ Fld Z hq bb "com/example/netz/netz/net/SparseVector" "indices" "[I" (.ref ti) ∧ Fld Z hq bb "com/example/netz/netz/net/SparseVector" "values" "[J" (.ref tv) ∧ own_L Z hq ti .int ((own_pi (own_bp f0 x0 f1 x1 f2 x2))) ∧ own_L Z hq tv .long ((own_pj (own_bp f0 x0 f1 x1 f2 x2)))
set_option maxRecDepth 65536 in
set_option maxHeartbeats 40000000 in
theorem rm1 (l : Launch) (Z : State) (a0 : Array Value) (hw : ∀ d ∈ tables_1, d.before a0 Z = true) (ws : List Jvm.Cond) (f0 : Int32) (x0 : Int64) (f1 : Int32) (x1 : Int64) (f2 : Int32) (x2 : Int64) (h0 : Heap) (n0 : Nat) (Z0 : n0 ≤ h0.size) :
    MetFree l (⟨"com/example/netz/netz/net/SparseVectorIsAtLeastPinLaw", "build", "(ZJZJZJ)Lcom/example/netz/netz/net/SparseVector;"⟩ : MethodName) (head1 (Jvm.Cond.code (⟨"com/example/netz/netz/net/SparseVectorIsAtLeastPinLaw", "build", "(ZJZJZJ)Lcom/example/netz/netz/net/SparseVector;"⟩ : MethodName) method_2_code 13 (some (.object "com/example/netz/netz/net/SparseVector")) :: ws) ({ frames := 2, cells := 3, slots := 8, locals := 27 } : Room)) (fun za U => za = #[(.int f0), (.long x0), (.int f1), (.long x1), (.int f2), (.long x2)] ∧ Z.Warmed39 U.vm ∧ U.heap = h0) (fun _ _ _ _ _ => True) (fun _ U o U' => ∃ rv Lq, o = .returned rv ∧ Q1 Z f0 x0 f1 x1 f2 x2 h0 n0 rv U'.heap Lq ∧ FrameEnd U o U' Lq ({ frames := 2, cells := 3, slots := 8, locals := 27 } : Room).cells ({ frames := 2, cells := 3, slots := 8, locals := 27 } : Room).slots) := by
  refine MetFree.of_bodySF (plainFor_of_name pn_1) hisR ?_
  intro p e s m args below meth c s₁ Bd hml0 hP hK
  obtain ⟨rfl, hZ, hh⟩ := hP
  have hx := Bd.exec
  have hby := Bd.bytes
  have hml : c.maxLocals = 13 := hml0
  have hown : s.vm.findClass "com/example/netz/netz/net/SparseVectorIsAtLeastPinLaw" = some m.cls := findClass_of_methodNamed Bd.named
  have hnm := (name_of_methodNamed Bd.named Bd.method).1
  have X0 : Stand p l e ({ frames := 2, cells := 3, slots := 8, locals := 27 } : Room) s m #[(.int f0), (.long x0), (.int f1), (.long x1), (.int f2), (.long x2)] below meth c s₁ [] 0 0 := Stand.of_body Bd
  have e0 : s₁.heap = h0 := by rw [← hh, Bd.state]; rfl
  have N0 := Fr.nil n0
  refine own_out (own_nm fun G hG => own_st (fun zt zk => castTop (ef_rm1 m f0 x0 f1 x1 f2 x2) zk) ?_)
  show own_Go p e below G (s₁.setTop (mkF m 0 #[.val (.int f0), .val (.long x0), .second, .val (.int f1), .val (.long x1), .second, .val (.int f2), .val (.long x2), .second, .unset, .unset, .unset, .unset] []))
  refine own_st (fun zw zk => XS.iloadN X0.here hx rfl (hb hby d1_0) rfl zk) ?_
  by_cases hc1 : f0 = (0 : Int32)
  · refine own_st (fun zw zk => XS.ifYes X0.here hx rfl (pc0 := 1) (pc' := 8) rfl (hb hby d1_1) rfl ((if0 _ _).trans (teq hc1).1) (by decide) (by decide) zk) ?_
    refine own_st (fun zw zk => XS.iconst X0.here hx rfl (hb hby d1_8) zk) ?_
    refine own_st (fun zw zk => XS.iloadN X0.here hx rfl (hb hby d1_9) rfl zk) ?_
    by_cases hc10 : f1 = (0 : Int32)
    · refine own_st (fun zw zk => XS.ifYes X0.here hx rfl (pc0 := 10) (pc' := 17) rfl (hb hby d1_10) rfl ((if0 _ _).trans (teq hc10).1) (by decide) (by decide) zk) ?_
      refine own_st (fun zw zk => XS.iconst X0.here hx rfl (hb hby d1_17) zk) ?_
      refine own_st (fun zw zk => XS.iadd X0.here hx rfl (hb hby d1_18) rfl zk) ?_
      refine own_st (fun zw zk => XS.iload X0.here hx rfl (hb hby d1_19) rfl zk) ?_
      show own_Go p e below G (s₁.setTop (mkF m 21 #[.val (.int f0), .val (.long x0), .second, .val (.int f1), .val (.long x1), .second, .val (.int f2), .val (.long x2), .second, .unset, .unset, .unset, .unset] [(.int f2), (.int (0 : Int32))]))
      by_cases hc21 : f2 = (0 : Int32)
      · refine own_st (fun zw zk => XS.ifYes X0.here hx rfl (pc0 := 21) (pc' := 28) rfl (hb hby d1_21) rfl ((if0 _ _).trans (teq hc21).1) (by decide) (by decide) zk) ?_
        refine own_st (fun zw zk => XS.iconst X0.here hx rfl (hb hby d1_28) zk) ?_
        refine own_st (fun zw zk => XS.iadd X0.here hx rfl (hb hby d1_29) rfl zk) ?_
        refine own_st (fun zw zk => XS.istore X0.here hx rfl (hb hby d1_30) rfl rfl zk) ?_
        show own_Go p e below G (s₁.setTop (mkF m 32 #[.val (.int f0), .val (.long x0), .second, .val (.int f1), .val (.long x1), .second, .val (.int f2), .val (.long x2), .second, .val (.int (0 : Int32)), .unset, .unset, .unset] []))
        refine own_st (fun zw zk => XS.iload X0.here hx rfl (hb hby d1_32) rfl zk) ?_
        obtain ⟨T4, h4, k4, X4, e4, E4, A4, st4⟩ := newP X0 hx hZ (hw _ (List.mem_of_getElem? (i := 4) rfl)) e0 (g := (mkF m 34 #[.val (.int f0), .val (.long x0), .second, .val (.int f1), .val (.long x1), .second, .val (.int f2), .val (.long x2), .second, .val (.int (0 : Int32)), .unset, .unset, .unset] [(.int (0 : Int32))])) rfl (hb hby d1_34) rfl (by decide) (cap := 0) (by decide) (by decide) (by decide) (by decide)
        obtain ⟨b4, g4⟩ : ∃ z, z = h0.size := ⟨_, rfl⟩
        rw [← g4] at A4 st4
        have G4 : n0 ≤ b4 := Nat.le_trans Z0 (Nat.le_of_eq g4.symm)
        have Z4 : n0 ≤ h4.size := Nat.le_trans Z0 E4.1
        have sz4 : h0.size ≤ b4 := Nat.le_trans (Keep.refl h0 []).1 (Nat.le_of_eq g4.symm)
        have Kp4 := (Keep.refl h0 []).ext E4
        have V4 : own_L Z h4 b4 .int ([]) := own_L.new A4
        refine own_st (fun zw zk => st4 zw zk) ?_
        refine own_st (fun zw zk => XS.astore X4.here hx rfl (hb hby d1_36) rfl rfl rfl zk) ?_
        show own_Go p e below G (T4.setTop (mkF m 38 #[.val (.int f0), .val (.long x0), .second, .val (.int f1), .val (.long x1), .second, .val (.int f2), .val (.long x2), .second, .val (.int (0 : Int32)), .val (.ref b4), .unset, .unset] []))
        refine own_st (fun zw zk => XS.iload X4.here hx rfl (hb hby d1_38) rfl zk) ?_
        obtain ⟨T5, h5, k5, X5, e5, E5, A5, st5⟩ := newP X4 hx hZ (hw _ (List.mem_of_getElem? (i := 5) rfl)) e4 (g := (mkF m 40 #[.val (.int f0), .val (.long x0), .second, .val (.int f1), .val (.long x1), .second, .val (.int f2), .val (.long x2), .second, .val (.int (0 : Int32)), .val (.ref b4), .unset, .unset] [(.int (0 : Int32))])) rfl (hb hby d1_40) rfl (by decide) (cap := 0) (by decide) (by decide) (by decide) (by decide)
        obtain ⟨b5, g5⟩ : ∃ z, z = h4.size := ⟨_, rfl⟩
        rw [← g5] at A5 st5
        have G5 : n0 ≤ b5 := Nat.le_trans Z4 (Nat.le_of_eq g5.symm)
        have ne_b4_b5 : b4 ≠ b5 := Nat.ne_of_lt (Nat.lt_of_lt_of_le V4.lt (Nat.le_of_eq g5.symm))
        have Vb4_5 := V4.ext E5
        have Z5 : n0 ≤ h5.size := Nat.le_trans Z4 E5.1
        have sz5 : h0.size ≤ b5 := Nat.le_trans Kp4.1 (Nat.le_of_eq g5.symm)
        have Kp5 := Kp4.ext E5
        have V5 : own_L Z h5 b5 .long ([]) := own_L.new A5
        refine own_st (fun zw zk => st5 zw zk) ?_
        refine own_st (fun zw zk => XS.astore X5.here hx rfl (hb hby d1_42) rfl rfl rfl zk) ?_
        show own_Go p e below G (T5.setTop (mkF m 44 #[.val (.int f0), .val (.long x0), .second, .val (.int f1), .val (.long x1), .second, .val (.int f2), .val (.long x2), .second, .val (.int (0 : Int32)), .val (.ref b4), .val (.ref b5), .unset] []))
        refine own_st (fun zw zk => XS.iconst X5.here hx rfl (hb hby d1_44) zk) ?_
        refine own_st (fun zw zk => XS.istore X5.here hx rfl (hb hby d1_45) rfl rfl zk) ?_
        show own_Go p e below G (T5.setTop (mkF m 47 #[.val (.int f0), .val (.long x0), .second, .val (.int f1), .val (.long x1), .second, .val (.int f2), .val (.long x2), .second, .val (.int (0 : Int32)), .val (.ref b4), .val (.ref b5), .val (.int (0 : Int32))] []))
        refine own_st (fun zw zk => XS.iloadN X5.here hx rfl (hb hby d1_47) rfl zk) ?_
        refine own_st (fun zw zk => XS.ifYes X5.here hx rfl (pc0 := 48) (pc' := 67) rfl (hb hby d1_48) rfl ((if0 _ _).trans (teq hc1).1) (by decide) (by decide) zk) ?_
        refine own_st (fun zw zk => XS.iloadN X5.here hx rfl (hb hby d1_67) rfl zk) ?_
        refine own_st (fun zw zk => XS.ifYes X5.here hx rfl (pc0 := 68) (pc' := 87) rfl (hb hby d1_68) rfl ((if0 _ _).trans (teq hc10).1) (by decide) (by decide) zk) ?_
        refine own_st (fun zw zk => XS.iload X5.here hx rfl (hb hby d1_87) rfl zk) ?_
        refine own_st (fun zw zk => XS.ifYes X5.here hx rfl (pc0 := 89) (pc' := 109) rfl (hb hby d1_89) rfl ((if0 _ _).trans (teq hc21).1) (by decide) (by decide) zk) ?_
        obtain ⟨T6, h6, X6, e6, E6, A6, D6, -, st6⟩ := newO X5 hx hZ hown (hw _ (List.mem_of_getElem? (i := 6) rfl)) (hw _ (List.mem_of_getElem? (i := 7) rfl)) (hw _ (List.mem_of_getElem? (i := 8) rfl)) e5 (g := (mkF m 109 #[.val (.int f0), .val (.long x0), .second, .val (.int f1), .val (.long x1), .second, .val (.int f2), .val (.long x2), .second, .val (.int (0 : Int32)), .val (.ref b4), .val (.ref b5), .val (.int (0 : Int32))] [])) rfl (hb hby d1_109) (by decide) (by decide)
        obtain ⟨b6, g6⟩ : ∃ z, z = h5.size := ⟨_, rfl⟩
        rw [← g6] at A6 D6 st6
        have G6 : n0 ≤ b6 := Nat.le_trans Z5 (Nat.le_of_eq g6.symm)
        have ne_b4_b6 : b4 ≠ b6 := Nat.ne_of_lt (Nat.lt_of_lt_of_le Vb4_5.lt (Nat.le_of_eq g6.symm))
        have ne_b5_b6 : b5 ≠ b6 := Nat.ne_of_lt (Nat.lt_of_lt_of_le V5.lt (Nat.le_of_eq g6.symm))
        have Vb4_6 := Vb4_5.ext E6
        have Vb5_6 := V5.ext E6
        have Z6 : n0 ≤ h6.size := Nat.le_trans Z5 E6.1
        have sz6 : h0.size ≤ b6 := Nat.le_trans Kp5.1 (Nat.le_of_eq g6.symm)
        have Kp6 := Kp5.ext E6
        have Fb6indices : Fld Z h6 b6 "com/example/netz/netz/net/SparseVector" "indices" "[I" .null := D6 (Or.inr (hw _ (List.mem_of_getElem? (i := 16) rfl))) (ty := (.array .int)) (by decide)
        have Fb6values : Fld Z h6 b6 "com/example/netz/netz/net/SparseVector" "values" "[J" .null := D6 (Or.inr (hw _ (List.mem_of_getElem? (i := 18) rfl))) (ty := (.array .long)) (by decide)
        refine own_st (fun zw zk => st6 zw zk) ?_
        refine own_st (fun zw zk => XS.dup X6.here hx rfl (hb hby d1_112) rfl rfl zk) ?_
        show own_Go p e below G (T6.setTop (mkF m 113 #[.val (.int f0), .val (.long x0), .second, .val (.int f1), .val (.long x1), .second, .val (.int f2), .val (.long x2), .second, .val (.int (0 : Int32)), .val (.ref b4), .val (.ref b5), .val (.int (0 : Int32))] [(.ref b6), (.ref b6)]))
        refine own_st (fun zw zk => XS.aload X6.here hx rfl (hb hby d1_113) rfl rfl zk) ?_
        refine own_st (fun zw zk => XS.aload X6.here hx rfl (hb hby d1_115) rfl rfl zk) ?_
        obtain ⟨_, _, ⟨T7, L7, k7, n7⟩, -, X7, ⟨Lc7, hQ7, l7, y7, z7⟩, st7⟩ := X6.specialBack hx (y := (⟨"com/example/netz/netz/net/SparseVector", "<init>", "([I[J)V"⟩ : MethodName)) rfl hown (mvT hZ (hw _ (List.mem_of_getElem? (i := 9) rfl))) (mvT hZ (hw _ (List.mem_of_getElem? (i := 10) rfl))) (mvT hZ (hw _ (List.mem_of_getElem? (i := 11) rfl))) (by decide) (backOf (W := 1) (rm2 l Z a0 hw [] b6 b4 b5 h6 n0 Z6 (A6) (Fb6indices) (Fb6values) (G6)) hZ (hw _ (List.mem_of_getElem? (i := 11) rfl)) (hw _ (List.mem_of_getElem? (i := 8) rfl)) (by decide) (by decide)) (g := (mkF m 117 #[.val (.int f0), .val (.long x0), .second, .val (.int f1), .val (.long x1), .second, .val (.int f2), .val (.long x2), .second, .val (.int (0 : Int32)), .val (.ref b4), .val (.ref b5), .val (.int (0 : Int32))] [(.ref b5), (.ref b4), (.ref b6), (.ref b6)])) rfl (by rw [hml]; rfl) (Steps.refl _) (a := b6) (argsL := [(.ref b4), (.ref b5)]) (rest := [(.ref b6)]) (lenOf pd_0 rfl) rfl (by show 2 * 0 + _ ≤ _; exact Nat.le_of_eq rfl) (hb hby d1_117) (fun _ _ => ⟨rfl, e6, (by decide : 3 + 0 ≤ _), (by decide : 2 + 0 ≤ _)⟩)
        dsimp only [Pt.U, Pt.locs, Pt.cells, Pt.slots] at X7 l7 y7 z7 st7 hQ7
        subst l7 y7 z7
        obtain ⟨rfl, N7q, K7, O7_0, O7_1, O7_2⟩ := hQ7
        have Vb4_7 := Vb4_6.keep K7 (ninS ne_b4_b6 nin0)
        have Vb5_7 := Vb5_6.keep K7 (ninS ne_b5_b6 nin0)
        have Ab6_7 := A6.keep K7
        have Z7 : n0 ≤ T7.heap.size := Nat.le_trans Z6 K7.1
        have Kp7 := Kp6.trans K7 (allS (Or.inr sz6) all0)
        have N7 := Fr.app N0 N7q
        refine own_jp st7 ?_
        subst hG
        obtain ⟨fs, hr, hrun, hended, hW, hsame⟩ := X7.leave (v := some (.ref b6)) (hlocks := Bd.notSynchronized) (fun h => by rw [Bd.returns] at h; cases h)
        refine ⟨_, X7.areturnOut hx rfl Bd.returns rfl (hb hby d1_120) hr, _, hrun, hended, _, _, rfl, ?_, ⟨_, rfl⟩, hW, hsame.mono (by decide) (by decide)⟩
        show Q1 Z f0 x0 f1 x1 f2 x2 h0 n0 _ T7.heap _
        exact ⟨b6, rfl, N7, sz6, b4, b5, Kp7, O7_0, O7_1, O7_2, (by unfold own_bp; rw [if_pos hc1, if_pos hc10, if_pos hc21]; exact Vb4_7), (by unfold own_bp; rw [if_pos hc1, if_pos hc10, if_pos hc21]; exact Vb5_7)⟩
      · refine own_st (fun zw zk => XS.ifNo X0.here hx rfl (hb hby d1_21) rfl ((if0 _ _).trans (feq hc21).1) zk) ?_
        refine own_st (fun zw zk => XS.iconst X0.here hx rfl (hb hby d1_24) zk) ?_
        refine own_st (fun zw zk => XS.goto X0.here hx rfl (pc0 := 25) (pc' := 29) rfl (hb hby d1_25) (by decide) (by decide) zk) ?_
        show own_Go p e below G (s₁.setTop (mkF m 29 #[.val (.int f0), .val (.long x0), .second, .val (.int f1), .val (.long x1), .second, .val (.int f2), .val (.long x2), .second, .unset, .unset, .unset, .unset] [(.int (1 : Int32)), (.int (0 : Int32))]))
        refine own_st (fun zw zk => XS.iadd X0.here hx rfl (hb hby d1_29) rfl zk) ?_
        refine own_st (fun zw zk => XS.istore X0.here hx rfl (hb hby d1_30) rfl rfl zk) ?_
        show own_Go p e below G (s₁.setTop (mkF m 32 #[.val (.int f0), .val (.long x0), .second, .val (.int f1), .val (.long x1), .second, .val (.int f2), .val (.long x2), .second, .val (.int (1 : Int32)), .unset, .unset, .unset] []))
        refine own_st (fun zw zk => XS.iload X0.here hx rfl (hb hby d1_32) rfl zk) ?_
        obtain ⟨T8, h8, k8, X8, e8, E8, A8, st8⟩ := newP X0 hx hZ (hw _ (List.mem_of_getElem? (i := 4) rfl)) e0 (g := (mkF m 34 #[.val (.int f0), .val (.long x0), .second, .val (.int f1), .val (.long x1), .second, .val (.int f2), .val (.long x2), .second, .val (.int (1 : Int32)), .unset, .unset, .unset] [(.int (1 : Int32))])) rfl (hb hby d1_34) rfl (by decide) (cap := 1) (by decide) (by decide) (by decide) (by decide)
        obtain ⟨b8, g8⟩ : ∃ z, z = h0.size := ⟨_, rfl⟩
        rw [← g8] at A8 st8
        have G8 : n0 ≤ b8 := Nat.le_trans Z0 (Nat.le_of_eq g8.symm)
        have Z8 : n0 ≤ h8.size := Nat.le_trans Z0 E8.1
        have sz8 : h0.size ≤ b8 := Nat.le_trans (Keep.refl h0 []).1 (Nat.le_of_eq g8.symm)
        have Kp8 := (Keep.refl h0 []).ext E8
        have V8 : own_L Z h8 b8 .int ([(.int (0 : Int32))]) := own_L.new A8
        refine own_st (fun zw zk => st8 zw zk) ?_
        refine own_st (fun zw zk => XS.astore X8.here hx rfl (hb hby d1_36) rfl rfl rfl zk) ?_
        show own_Go p e below G (T8.setTop (mkF m 38 #[.val (.int f0), .val (.long x0), .second, .val (.int f1), .val (.long x1), .second, .val (.int f2), .val (.long x2), .second, .val (.int (1 : Int32)), .val (.ref b8), .unset, .unset] []))
        refine own_st (fun zw zk => XS.iload X8.here hx rfl (hb hby d1_38) rfl zk) ?_
        obtain ⟨T9, h9, k9, X9, e9, E9, A9, st9⟩ := newP X8 hx hZ (hw _ (List.mem_of_getElem? (i := 5) rfl)) e8 (g := (mkF m 40 #[.val (.int f0), .val (.long x0), .second, .val (.int f1), .val (.long x1), .second, .val (.int f2), .val (.long x2), .second, .val (.int (1 : Int32)), .val (.ref b8), .unset, .unset] [(.int (1 : Int32))])) rfl (hb hby d1_40) rfl (by decide) (cap := 1) (by decide) (by decide) (by decide) (by decide)
        obtain ⟨b9, g9⟩ : ∃ z, z = h8.size := ⟨_, rfl⟩
        rw [← g9] at A9 st9
        have G9 : n0 ≤ b9 := Nat.le_trans Z8 (Nat.le_of_eq g9.symm)
        have ne_b8_b9 : b8 ≠ b9 := Nat.ne_of_lt (Nat.lt_of_lt_of_le V8.lt (Nat.le_of_eq g9.symm))
        have Vb8_9 := V8.ext E9
        have Z9 : n0 ≤ h9.size := Nat.le_trans Z8 E9.1
        have sz9 : h0.size ≤ b9 := Nat.le_trans Kp8.1 (Nat.le_of_eq g9.symm)
        have Kp9 := Kp8.ext E9
        have V9 : own_L Z h9 b9 .long ([(.long (0 : Int64))]) := own_L.new A9
        refine own_st (fun zw zk => st9 zw zk) ?_
        refine own_st (fun zw zk => XS.astore X9.here hx rfl (hb hby d1_42) rfl rfl rfl zk) ?_
        show own_Go p e below G (T9.setTop (mkF m 44 #[.val (.int f0), .val (.long x0), .second, .val (.int f1), .val (.long x1), .second, .val (.int f2), .val (.long x2), .second, .val (.int (1 : Int32)), .val (.ref b8), .val (.ref b9), .unset] []))
        refine own_st (fun zw zk => XS.iconst X9.here hx rfl (hb hby d1_44) zk) ?_
        refine own_st (fun zw zk => XS.istore X9.here hx rfl (hb hby d1_45) rfl rfl zk) ?_
        show own_Go p e below G (T9.setTop (mkF m 47 #[.val (.int f0), .val (.long x0), .second, .val (.int f1), .val (.long x1), .second, .val (.int f2), .val (.long x2), .second, .val (.int (1 : Int32)), .val (.ref b8), .val (.ref b9), .val (.int (0 : Int32))] []))
        refine own_st (fun zw zk => XS.iloadN X9.here hx rfl (hb hby d1_47) rfl zk) ?_
        refine own_st (fun zw zk => XS.ifYes X9.here hx rfl (pc0 := 48) (pc' := 67) rfl (hb hby d1_48) rfl ((if0 _ _).trans (teq hc1).1) (by decide) (by decide) zk) ?_
        refine own_st (fun zw zk => XS.iloadN X9.here hx rfl (hb hby d1_67) rfl zk) ?_
        refine own_st (fun zw zk => XS.ifYes X9.here hx rfl (pc0 := 68) (pc' := 87) rfl (hb hby d1_68) rfl ((if0 _ _).trans (teq hc10).1) (by decide) (by decide) zk) ?_
        refine own_st (fun zw zk => XS.iload X9.here hx rfl (hb hby d1_87) rfl zk) ?_
        refine own_st (fun zw zk => XS.ifNo X9.here hx rfl (hb hby d1_89) rfl ((if0 _ _).trans (feq hc21).1) zk) ?_
        refine own_st (fun zw zk => XS.aload X9.here hx rfl (hb hby d1_92) rfl rfl zk) ?_
        refine own_st (fun zw zk => XS.iload X9.here hx rfl (hb hby d1_94) rfl zk) ?_
        show own_Go p e below G (T9.setTop (mkF m 96 #[.val (.int f0), .val (.long x0), .second, .val (.int f1), .val (.long x1), .second, .val (.int f2), .val (.long x2), .second, .val (.int (1 : Int32)), .val (.ref b8), .val (.ref b9), .val (.int (0 : Int32))] [(.int (0 : Int32)), (.ref b8)]))
        refine own_st (fun zw zk => X9.ldcInt hx hown (mvT hZ (hw _ (List.mem_of_getElem? (i := 25) rfl))) (g := (mkF m 96 #[.val (.int f0), .val (.long x0), .second, .val (.int f1), .val (.long x1), .second, .val (.int f2), .val (.long x2), .second, .val (.int (1 : Int32)), .val (.ref b8), .val (.ref b9), .val (.int (0 : Int32))] [(.int (0 : Int32)), (.ref b8)])) rfl (hb hby d1_96) _ zk) ?_
        obtain ⟨T10, h10, X10, e10, W10, V10, st10⟩ := own_ist X9 hx hZ e9 Vb8_9 (j := (0 : Int32)) (0) (by decide) (by decide) (Nat.le_of_ble_eq_true rfl) (g := (mkF m 98 #[.val (.int f0), .val (.long x0), .second, .val (.int f1), .val (.long x1), .second, .val (.int f2), .val (.long x2), .second, .val (.int (1 : Int32)), .val (.ref b8), .val (.ref b9), .val (.int (0 : Int32))] [(.int (2147483647 : Int32)), (.int (0 : Int32)), (.ref b8)])) rfl rfl (hb hby d1_98)
        have Vb8_10 : own_L Z h10 b8 .int ([(.int (2147483647 : Int32))]) := V10
        have N10 := Fr.snoc X10 N0 G8
        refine own_st (fun zw zk => st10 zw zk) ?_
        have Vb9_10 := V9.other W10 (Ne.symm ne_b8_b9)
        have Z10 : n0 ≤ h10.size := Nat.le_trans Z9 (Keep.of_wr W10).1
        have Kp10 := Kp9.wr W10 (Or.inr sz8)
        refine own_st (fun zw zk => XS.aload X10.here hx rfl (hb hby d1_99) rfl rfl zk) ?_
        refine own_st (fun zw zk => XS.iload X10.here hx rfl (hb hby d1_101) rfl zk) ?_
        refine own_st (fun zw zk => XS.lload X10.here hx rfl (hb hby d1_103) rfl zk) ?_
        obtain ⟨T11, h11, X11, e11, W11, V11, st11⟩ := own_jst X10 hx hZ e10 Vb9_10 (j := (0 : Int32)) (0) (by decide) (by decide) (Nat.le_of_ble_eq_true rfl) (g := (mkF m 105 #[.val (.int f0), .val (.long x0), .second, .val (.int f1), .val (.long x1), .second, .val (.int f2), .val (.long x2), .second, .val (.int (1 : Int32)), .val (.ref b8), .val (.ref b9), .val (.int (0 : Int32))] [(.long x2), (.int (0 : Int32)), (.ref b9)])) rfl rfl (hb hby d1_105)
        have Vb9_11 : own_L Z h11 b9 .long ([(.long x2)]) := V11
        have N11 := Fr.snoc X11 N10 G9
        refine own_st (fun zw zk => st11 zw zk) ?_
        have Vb8_11 := Vb8_10.other W11 ne_b8_b9
        have Z11 : n0 ≤ h11.size := Nat.le_trans Z10 (Keep.of_wr W11).1
        have Kp11 := Kp10.wr W11 (Or.inr sz9)
        refine own_st (fun zw zk => XS.iinc X11.here hx rfl (hb hby d1_106) rfl rfl zk) ?_
        show own_Go p e below G (T11.setTop (mkF m 109 #[.val (.int f0), .val (.long x0), .second, .val (.int f1), .val (.long x1), .second, .val (.int f2), .val (.long x2), .second, .val (.int (1 : Int32)), .val (.ref b8), .val (.ref b9), .val (.int (1 : Int32))] []))
        obtain ⟨T12, h12, X12, e12, E12, A12, D12, -, st12⟩ := newO X11 hx hZ hown (hw _ (List.mem_of_getElem? (i := 6) rfl)) (hw _ (List.mem_of_getElem? (i := 7) rfl)) (hw _ (List.mem_of_getElem? (i := 8) rfl)) e11 (g := (mkF m 109 #[.val (.int f0), .val (.long x0), .second, .val (.int f1), .val (.long x1), .second, .val (.int f2), .val (.long x2), .second, .val (.int (1 : Int32)), .val (.ref b8), .val (.ref b9), .val (.int (1 : Int32))] [])) rfl (hb hby d1_109) (by decide) (by decide)
        obtain ⟨b12, g12⟩ : ∃ z, z = h11.size := ⟨_, rfl⟩
        rw [← g12] at A12 D12 st12
        have G12 : n0 ≤ b12 := Nat.le_trans Z11 (Nat.le_of_eq g12.symm)
        have ne_b8_b12 : b8 ≠ b12 := Nat.ne_of_lt (Nat.lt_of_lt_of_le Vb8_11.lt (Nat.le_of_eq g12.symm))
        have ne_b9_b12 : b9 ≠ b12 := Nat.ne_of_lt (Nat.lt_of_lt_of_le Vb9_11.lt (Nat.le_of_eq g12.symm))
        have Vb8_12 := Vb8_11.ext E12
        have Vb9_12 := Vb9_11.ext E12
        have Z12 : n0 ≤ h12.size := Nat.le_trans Z11 E12.1
        have sz12 : h0.size ≤ b12 := Nat.le_trans Kp11.1 (Nat.le_of_eq g12.symm)
        have Kp12 := Kp11.ext E12
        have Fb12indices : Fld Z h12 b12 "com/example/netz/netz/net/SparseVector" "indices" "[I" .null := D12 (Or.inr (hw _ (List.mem_of_getElem? (i := 16) rfl))) (ty := (.array .int)) (by decide)
        have Fb12values : Fld Z h12 b12 "com/example/netz/netz/net/SparseVector" "values" "[J" .null := D12 (Or.inr (hw _ (List.mem_of_getElem? (i := 18) rfl))) (ty := (.array .long)) (by decide)
        refine own_st (fun zw zk => st12 zw zk) ?_
        refine own_st (fun zw zk => XS.dup X12.here hx rfl (hb hby d1_112) rfl rfl zk) ?_
        refine own_st (fun zw zk => XS.aload X12.here hx rfl (hb hby d1_113) rfl rfl zk) ?_
        refine own_st (fun zw zk => XS.aload X12.here hx rfl (hb hby d1_115) rfl rfl zk) ?_
        obtain ⟨_, _, ⟨T13, L13, k13, n13⟩, -, X13, ⟨Lc13, hQ13, l13, y13, z13⟩, st13⟩ := X12.specialBack hx (y := (⟨"com/example/netz/netz/net/SparseVector", "<init>", "([I[J)V"⟩ : MethodName)) rfl hown (mvT hZ (hw _ (List.mem_of_getElem? (i := 9) rfl))) (mvT hZ (hw _ (List.mem_of_getElem? (i := 10) rfl))) (mvT hZ (hw _ (List.mem_of_getElem? (i := 11) rfl))) (by decide) (backOf (W := 1) (rm2 l Z a0 hw [] b12 b8 b9 h12 n0 Z12 (A12) (Fb12indices) (Fb12values) (G12)) hZ (hw _ (List.mem_of_getElem? (i := 11) rfl)) (hw _ (List.mem_of_getElem? (i := 8) rfl)) (by decide) (by decide)) (g := (mkF m 117 #[.val (.int f0), .val (.long x0), .second, .val (.int f1), .val (.long x1), .second, .val (.int f2), .val (.long x2), .second, .val (.int (1 : Int32)), .val (.ref b8), .val (.ref b9), .val (.int (1 : Int32))] [(.ref b9), (.ref b8), (.ref b12), (.ref b12)])) rfl (by rw [hml]; rfl) (Steps.refl _) (a := b12) (argsL := [(.ref b8), (.ref b9)]) (rest := [(.ref b12)]) (lenOf pd_0 rfl) rfl (by show 2 * 0 + _ ≤ _; exact Nat.le_of_eq rfl) (hb hby d1_117) (fun _ _ => ⟨rfl, e12, (by decide : 3 + 0 ≤ _), (by decide : 4 + 0 ≤ _)⟩)
        dsimp only [Pt.U, Pt.locs, Pt.cells, Pt.slots] at X13 l13 y13 z13 st13 hQ13
        subst l13 y13 z13
        obtain ⟨rfl, N13q, K13, O13_0, O13_1, O13_2⟩ := hQ13
        have Vb8_13 := Vb8_12.keep K13 (ninS ne_b8_b12 nin0)
        have Vb9_13 := Vb9_12.keep K13 (ninS ne_b9_b12 nin0)
        have Ab12_13 := A12.keep K13
        have Z13 : n0 ≤ T13.heap.size := Nat.le_trans Z12 K13.1
        have Kp13 := Kp12.trans K13 (allS (Or.inr sz12) all0)
        have N13 := Fr.app N11 N13q
        refine own_jp st13 ?_
        subst hG
        obtain ⟨fs, hr, hrun, hended, hW, hsame⟩ := X13.leave (v := some (.ref b12)) (hlocks := Bd.notSynchronized) (fun h => by rw [Bd.returns] at h; cases h)
        refine ⟨_, X13.areturnOut hx rfl Bd.returns rfl (hb hby d1_120) hr, _, hrun, hended, _, _, rfl, ?_, ⟨_, rfl⟩, hW, hsame.mono (by decide) (by decide)⟩
        show Q1 Z f0 x0 f1 x1 f2 x2 h0 n0 _ T13.heap _
        exact ⟨b12, rfl, N13, sz12, b8, b9, Kp13, O13_0, O13_1, O13_2, (by unfold own_bp; rw [if_pos hc1, if_pos hc10, if_neg hc21]; exact Vb8_13), (by unfold own_bp; rw [if_pos hc1, if_pos hc10, if_neg hc21]; exact Vb9_13)⟩
    · refine own_st (fun zw zk => XS.ifNo X0.here hx rfl (hb hby d1_10) rfl ((if0 _ _).trans (feq hc10).1) zk) ?_
      refine own_st (fun zw zk => XS.iconst X0.here hx rfl (hb hby d1_13) zk) ?_
      refine own_st (fun zw zk => XS.goto X0.here hx rfl (pc0 := 14) (pc' := 18) rfl (hb hby d1_14) (by decide) (by decide) zk) ?_
      show own_Go p e below G (s₁.setTop (mkF m 18 #[.val (.int f0), .val (.long x0), .second, .val (.int f1), .val (.long x1), .second, .val (.int f2), .val (.long x2), .second, .unset, .unset, .unset, .unset] [(.int (1 : Int32)), (.int (0 : Int32))]))
      refine own_st (fun zw zk => XS.iadd X0.here hx rfl (hb hby d1_18) rfl zk) ?_
      refine own_st (fun zw zk => XS.iload X0.here hx rfl (hb hby d1_19) rfl zk) ?_
      by_cases hc21 : f2 = (0 : Int32)
      · refine own_st (fun zw zk => XS.ifYes X0.here hx rfl (pc0 := 21) (pc' := 28) rfl (hb hby d1_21) rfl ((if0 _ _).trans (teq hc21).1) (by decide) (by decide) zk) ?_
        refine own_st (fun zw zk => XS.iconst X0.here hx rfl (hb hby d1_28) zk) ?_
        refine own_st (fun zw zk => XS.iadd X0.here hx rfl (hb hby d1_29) rfl zk) ?_
        refine own_st (fun zw zk => XS.istore X0.here hx rfl (hb hby d1_30) rfl rfl zk) ?_
        show own_Go p e below G (s₁.setTop (mkF m 32 #[.val (.int f0), .val (.long x0), .second, .val (.int f1), .val (.long x1), .second, .val (.int f2), .val (.long x2), .second, .val (.int (1 : Int32)), .unset, .unset, .unset] []))
        refine own_st (fun zw zk => XS.iload X0.here hx rfl (hb hby d1_32) rfl zk) ?_
        obtain ⟨T14, h14, k14, X14, e14, E14, A14, st14⟩ := newP X0 hx hZ (hw _ (List.mem_of_getElem? (i := 4) rfl)) e0 (g := (mkF m 34 #[.val (.int f0), .val (.long x0), .second, .val (.int f1), .val (.long x1), .second, .val (.int f2), .val (.long x2), .second, .val (.int (1 : Int32)), .unset, .unset, .unset] [(.int (1 : Int32))])) rfl (hb hby d1_34) rfl (by decide) (cap := 1) (by decide) (by decide) (by decide) (by decide)
        obtain ⟨b14, g14⟩ : ∃ z, z = h0.size := ⟨_, rfl⟩
        rw [← g14] at A14 st14
        have G14 : n0 ≤ b14 := Nat.le_trans Z0 (Nat.le_of_eq g14.symm)
        have Z14 : n0 ≤ h14.size := Nat.le_trans Z0 E14.1
        have sz14 : h0.size ≤ b14 := Nat.le_trans (Keep.refl h0 []).1 (Nat.le_of_eq g14.symm)
        have Kp14 := (Keep.refl h0 []).ext E14
        have V14 : own_L Z h14 b14 .int ([(.int (0 : Int32))]) := own_L.new A14
        refine own_st (fun zw zk => st14 zw zk) ?_
        refine own_st (fun zw zk => XS.astore X14.here hx rfl (hb hby d1_36) rfl rfl rfl zk) ?_
        show own_Go p e below G (T14.setTop (mkF m 38 #[.val (.int f0), .val (.long x0), .second, .val (.int f1), .val (.long x1), .second, .val (.int f2), .val (.long x2), .second, .val (.int (1 : Int32)), .val (.ref b14), .unset, .unset] []))
        refine own_st (fun zw zk => XS.iload X14.here hx rfl (hb hby d1_38) rfl zk) ?_
        obtain ⟨T15, h15, k15, X15, e15, E15, A15, st15⟩ := newP X14 hx hZ (hw _ (List.mem_of_getElem? (i := 5) rfl)) e14 (g := (mkF m 40 #[.val (.int f0), .val (.long x0), .second, .val (.int f1), .val (.long x1), .second, .val (.int f2), .val (.long x2), .second, .val (.int (1 : Int32)), .val (.ref b14), .unset, .unset] [(.int (1 : Int32))])) rfl (hb hby d1_40) rfl (by decide) (cap := 1) (by decide) (by decide) (by decide) (by decide)
        obtain ⟨b15, g15⟩ : ∃ z, z = h14.size := ⟨_, rfl⟩
        rw [← g15] at A15 st15
        have G15 : n0 ≤ b15 := Nat.le_trans Z14 (Nat.le_of_eq g15.symm)
        have ne_b14_b15 : b14 ≠ b15 := Nat.ne_of_lt (Nat.lt_of_lt_of_le V14.lt (Nat.le_of_eq g15.symm))
        have Vb14_15 := V14.ext E15
        have Z15 : n0 ≤ h15.size := Nat.le_trans Z14 E15.1
        have sz15 : h0.size ≤ b15 := Nat.le_trans Kp14.1 (Nat.le_of_eq g15.symm)
        have Kp15 := Kp14.ext E15
        have V15 : own_L Z h15 b15 .long ([(.long (0 : Int64))]) := own_L.new A15
        refine own_st (fun zw zk => st15 zw zk) ?_
        refine own_st (fun zw zk => XS.astore X15.here hx rfl (hb hby d1_42) rfl rfl rfl zk) ?_
        show own_Go p e below G (T15.setTop (mkF m 44 #[.val (.int f0), .val (.long x0), .second, .val (.int f1), .val (.long x1), .second, .val (.int f2), .val (.long x2), .second, .val (.int (1 : Int32)), .val (.ref b14), .val (.ref b15), .unset] []))
        refine own_st (fun zw zk => XS.iconst X15.here hx rfl (hb hby d1_44) zk) ?_
        refine own_st (fun zw zk => XS.istore X15.here hx rfl (hb hby d1_45) rfl rfl zk) ?_
        show own_Go p e below G (T15.setTop (mkF m 47 #[.val (.int f0), .val (.long x0), .second, .val (.int f1), .val (.long x1), .second, .val (.int f2), .val (.long x2), .second, .val (.int (1 : Int32)), .val (.ref b14), .val (.ref b15), .val (.int (0 : Int32))] []))
        refine own_st (fun zw zk => XS.iloadN X15.here hx rfl (hb hby d1_47) rfl zk) ?_
        refine own_st (fun zw zk => XS.ifYes X15.here hx rfl (pc0 := 48) (pc' := 67) rfl (hb hby d1_48) rfl ((if0 _ _).trans (teq hc1).1) (by decide) (by decide) zk) ?_
        refine own_st (fun zw zk => XS.iloadN X15.here hx rfl (hb hby d1_67) rfl zk) ?_
        refine own_st (fun zw zk => XS.ifNo X15.here hx rfl (hb hby d1_68) rfl ((if0 _ _).trans (feq hc10).1) zk) ?_
        refine own_st (fun zw zk => XS.aload X15.here hx rfl (hb hby d1_71) rfl rfl zk) ?_
        refine own_st (fun zw zk => XS.iload X15.here hx rfl (hb hby d1_73) rfl zk) ?_
        refine own_st (fun zw zk => XS.iconst X15.here hx rfl (hb hby d1_75) zk) ?_
        obtain ⟨T16, h16, X16, e16, W16, V16, st16⟩ := own_ist X15 hx hZ e15 Vb14_15 (j := (0 : Int32)) (0) (by decide) (by decide) (Nat.le_of_ble_eq_true rfl) (g := (mkF m 76 #[.val (.int f0), .val (.long x0), .second, .val (.int f1), .val (.long x1), .second, .val (.int f2), .val (.long x2), .second, .val (.int (1 : Int32)), .val (.ref b14), .val (.ref b15), .val (.int (0 : Int32))] [(.int (0 : Int32)), (.int (0 : Int32)), (.ref b14)])) rfl rfl (hb hby d1_76)
        have Vb14_16 : own_L Z h16 b14 .int ([(.int (0 : Int32))]) := V16
        have N16 := Fr.snoc X16 N0 G14
        refine own_st (fun zw zk => st16 zw zk) ?_
        have Vb15_16 := V15.other W16 (Ne.symm ne_b14_b15)
        have Z16 : n0 ≤ h16.size := Nat.le_trans Z15 (Keep.of_wr W16).1
        have Kp16 := Kp15.wr W16 (Or.inr sz14)
        show own_Go p e below G (T16.setTop (mkF m 77 #[.val (.int f0), .val (.long x0), .second, .val (.int f1), .val (.long x1), .second, .val (.int f2), .val (.long x2), .second, .val (.int (1 : Int32)), .val (.ref b14), .val (.ref b15), .val (.int (0 : Int32))] []))
        refine own_st (fun zw zk => XS.aload X16.here hx rfl (hb hby d1_77) rfl rfl zk) ?_
        refine own_st (fun zw zk => XS.iload X16.here hx rfl (hb hby d1_79) rfl zk) ?_
        refine own_st (fun zw zk => XS.lload X16.here hx rfl (hb hby d1_81) rfl zk) ?_
        obtain ⟨T17, h17, X17, e17, W17, V17, st17⟩ := own_jst X16 hx hZ e16 Vb15_16 (j := (0 : Int32)) (0) (by decide) (by decide) (Nat.le_of_ble_eq_true rfl) (g := (mkF m 83 #[.val (.int f0), .val (.long x0), .second, .val (.int f1), .val (.long x1), .second, .val (.int f2), .val (.long x2), .second, .val (.int (1 : Int32)), .val (.ref b14), .val (.ref b15), .val (.int (0 : Int32))] [(.long x1), (.int (0 : Int32)), (.ref b15)])) rfl rfl (hb hby d1_83)
        have Vb15_17 : own_L Z h17 b15 .long ([(.long x1)]) := V17
        have N17 := Fr.snoc X17 N16 G15
        refine own_st (fun zw zk => st17 zw zk) ?_
        have Vb14_17 := Vb14_16.other W17 ne_b14_b15
        have Z17 : n0 ≤ h17.size := Nat.le_trans Z16 (Keep.of_wr W17).1
        have Kp17 := Kp16.wr W17 (Or.inr sz15)
        refine own_st (fun zw zk => XS.iinc X17.here hx rfl (hb hby d1_84) rfl rfl zk) ?_
        show own_Go p e below G (T17.setTop (mkF m 87 #[.val (.int f0), .val (.long x0), .second, .val (.int f1), .val (.long x1), .second, .val (.int f2), .val (.long x2), .second, .val (.int (1 : Int32)), .val (.ref b14), .val (.ref b15), .val (.int (1 : Int32))] []))
        refine own_st (fun zw zk => XS.iload X17.here hx rfl (hb hby d1_87) rfl zk) ?_
        refine own_st (fun zw zk => XS.ifYes X17.here hx rfl (pc0 := 89) (pc' := 109) rfl (hb hby d1_89) rfl ((if0 _ _).trans (teq hc21).1) (by decide) (by decide) zk) ?_
        obtain ⟨T18, h18, X18, e18, E18, A18, D18, -, st18⟩ := newO X17 hx hZ hown (hw _ (List.mem_of_getElem? (i := 6) rfl)) (hw _ (List.mem_of_getElem? (i := 7) rfl)) (hw _ (List.mem_of_getElem? (i := 8) rfl)) e17 (g := (mkF m 109 #[.val (.int f0), .val (.long x0), .second, .val (.int f1), .val (.long x1), .second, .val (.int f2), .val (.long x2), .second, .val (.int (1 : Int32)), .val (.ref b14), .val (.ref b15), .val (.int (1 : Int32))] [])) rfl (hb hby d1_109) (by decide) (by decide)
        obtain ⟨b18, g18⟩ : ∃ z, z = h17.size := ⟨_, rfl⟩
        rw [← g18] at A18 D18 st18
        have G18 : n0 ≤ b18 := Nat.le_trans Z17 (Nat.le_of_eq g18.symm)
        have ne_b14_b18 : b14 ≠ b18 := Nat.ne_of_lt (Nat.lt_of_lt_of_le Vb14_17.lt (Nat.le_of_eq g18.symm))
        have ne_b15_b18 : b15 ≠ b18 := Nat.ne_of_lt (Nat.lt_of_lt_of_le Vb15_17.lt (Nat.le_of_eq g18.symm))
        have Vb14_18 := Vb14_17.ext E18
        have Vb15_18 := Vb15_17.ext E18
        have Z18 : n0 ≤ h18.size := Nat.le_trans Z17 E18.1
        have sz18 : h0.size ≤ b18 := Nat.le_trans Kp17.1 (Nat.le_of_eq g18.symm)
        have Kp18 := Kp17.ext E18
        have Fb18indices : Fld Z h18 b18 "com/example/netz/netz/net/SparseVector" "indices" "[I" .null := D18 (Or.inr (hw _ (List.mem_of_getElem? (i := 16) rfl))) (ty := (.array .int)) (by decide)
        have Fb18values : Fld Z h18 b18 "com/example/netz/netz/net/SparseVector" "values" "[J" .null := D18 (Or.inr (hw _ (List.mem_of_getElem? (i := 18) rfl))) (ty := (.array .long)) (by decide)
        refine own_st (fun zw zk => st18 zw zk) ?_
        refine own_st (fun zw zk => XS.dup X18.here hx rfl (hb hby d1_112) rfl rfl zk) ?_
        refine own_st (fun zw zk => XS.aload X18.here hx rfl (hb hby d1_113) rfl rfl zk) ?_
        refine own_st (fun zw zk => XS.aload X18.here hx rfl (hb hby d1_115) rfl rfl zk) ?_
        obtain ⟨_, _, ⟨T19, L19, k19, n19⟩, -, X19, ⟨Lc19, hQ19, l19, y19, z19⟩, st19⟩ := X18.specialBack hx (y := (⟨"com/example/netz/netz/net/SparseVector", "<init>", "([I[J)V"⟩ : MethodName)) rfl hown (mvT hZ (hw _ (List.mem_of_getElem? (i := 9) rfl))) (mvT hZ (hw _ (List.mem_of_getElem? (i := 10) rfl))) (mvT hZ (hw _ (List.mem_of_getElem? (i := 11) rfl))) (by decide) (backOf (W := 1) (rm2 l Z a0 hw [] b18 b14 b15 h18 n0 Z18 (A18) (Fb18indices) (Fb18values) (G18)) hZ (hw _ (List.mem_of_getElem? (i := 11) rfl)) (hw _ (List.mem_of_getElem? (i := 8) rfl)) (by decide) (by decide)) (g := (mkF m 117 #[.val (.int f0), .val (.long x0), .second, .val (.int f1), .val (.long x1), .second, .val (.int f2), .val (.long x2), .second, .val (.int (1 : Int32)), .val (.ref b14), .val (.ref b15), .val (.int (1 : Int32))] [(.ref b15), (.ref b14), (.ref b18), (.ref b18)])) rfl (by rw [hml]; rfl) (Steps.refl _) (a := b18) (argsL := [(.ref b14), (.ref b15)]) (rest := [(.ref b18)]) (lenOf pd_0 rfl) rfl (by show 2 * 0 + _ ≤ _; exact Nat.le_of_eq rfl) (hb hby d1_117) (fun _ _ => ⟨rfl, e18, (by decide : 3 + 0 ≤ _), (by decide : 4 + 0 ≤ _)⟩)
        dsimp only [Pt.U, Pt.locs, Pt.cells, Pt.slots] at X19 l19 y19 z19 st19 hQ19
        subst l19 y19 z19
        obtain ⟨rfl, N19q, K19, O19_0, O19_1, O19_2⟩ := hQ19
        have Vb14_19 := Vb14_18.keep K19 (ninS ne_b14_b18 nin0)
        have Vb15_19 := Vb15_18.keep K19 (ninS ne_b15_b18 nin0)
        have Ab18_19 := A18.keep K19
        have Z19 : n0 ≤ T19.heap.size := Nat.le_trans Z18 K19.1
        have Kp19 := Kp18.trans K19 (allS (Or.inr sz18) all0)
        have N19 := Fr.app N17 N19q
        refine own_jp st19 ?_
        subst hG
        obtain ⟨fs, hr, hrun, hended, hW, hsame⟩ := X19.leave (v := some (.ref b18)) (hlocks := Bd.notSynchronized) (fun h => by rw [Bd.returns] at h; cases h)
        refine ⟨_, X19.areturnOut hx rfl Bd.returns rfl (hb hby d1_120) hr, _, hrun, hended, _, _, rfl, ?_, ⟨_, rfl⟩, hW, hsame.mono (by decide) (by decide)⟩
        show Q1 Z f0 x0 f1 x1 f2 x2 h0 n0 _ T19.heap _
        exact ⟨b18, rfl, N19, sz18, b14, b15, Kp19, O19_0, O19_1, O19_2, (by unfold own_bp; rw [if_pos hc1, if_neg hc10, if_pos hc21]; exact Vb14_19), (by unfold own_bp; rw [if_pos hc1, if_neg hc10, if_pos hc21]; exact Vb15_19)⟩
      · refine own_st (fun zw zk => XS.ifNo X0.here hx rfl (hb hby d1_21) rfl ((if0 _ _).trans (feq hc21).1) zk) ?_
        refine own_st (fun zw zk => XS.iconst X0.here hx rfl (hb hby d1_24) zk) ?_
        refine own_st (fun zw zk => XS.goto X0.here hx rfl (pc0 := 25) (pc' := 29) rfl (hb hby d1_25) (by decide) (by decide) zk) ?_
        show own_Go p e below G (s₁.setTop (mkF m 29 #[.val (.int f0), .val (.long x0), .second, .val (.int f1), .val (.long x1), .second, .val (.int f2), .val (.long x2), .second, .unset, .unset, .unset, .unset] [(.int (1 : Int32)), (.int (1 : Int32))]))
        refine own_st (fun zw zk => XS.iadd X0.here hx rfl (hb hby d1_29) rfl zk) ?_
        refine own_st (fun zw zk => XS.istore X0.here hx rfl (hb hby d1_30) rfl rfl zk) ?_
        show own_Go p e below G (s₁.setTop (mkF m 32 #[.val (.int f0), .val (.long x0), .second, .val (.int f1), .val (.long x1), .second, .val (.int f2), .val (.long x2), .second, .val (.int (2 : Int32)), .unset, .unset, .unset] []))
        refine own_st (fun zw zk => XS.iload X0.here hx rfl (hb hby d1_32) rfl zk) ?_
        obtain ⟨T20, h20, k20, X20, e20, E20, A20, st20⟩ := newP X0 hx hZ (hw _ (List.mem_of_getElem? (i := 4) rfl)) e0 (g := (mkF m 34 #[.val (.int f0), .val (.long x0), .second, .val (.int f1), .val (.long x1), .second, .val (.int f2), .val (.long x2), .second, .val (.int (2 : Int32)), .unset, .unset, .unset] [(.int (2 : Int32))])) rfl (hb hby d1_34) rfl (by decide) (cap := 2) (by decide) (by decide) (by decide) (by decide)
        obtain ⟨b20, g20⟩ : ∃ z, z = h0.size := ⟨_, rfl⟩
        rw [← g20] at A20 st20
        have G20 : n0 ≤ b20 := Nat.le_trans Z0 (Nat.le_of_eq g20.symm)
        have Z20 : n0 ≤ h20.size := Nat.le_trans Z0 E20.1
        have sz20 : h0.size ≤ b20 := Nat.le_trans (Keep.refl h0 []).1 (Nat.le_of_eq g20.symm)
        have Kp20 := (Keep.refl h0 []).ext E20
        have V20 : own_L Z h20 b20 .int ([(.int (0 : Int32)), (.int (0 : Int32))]) := own_L.new A20
        refine own_st (fun zw zk => st20 zw zk) ?_
        refine own_st (fun zw zk => XS.astore X20.here hx rfl (hb hby d1_36) rfl rfl rfl zk) ?_
        show own_Go p e below G (T20.setTop (mkF m 38 #[.val (.int f0), .val (.long x0), .second, .val (.int f1), .val (.long x1), .second, .val (.int f2), .val (.long x2), .second, .val (.int (2 : Int32)), .val (.ref b20), .unset, .unset] []))
        refine own_st (fun zw zk => XS.iload X20.here hx rfl (hb hby d1_38) rfl zk) ?_
        obtain ⟨T21, h21, k21, X21, e21, E21, A21, st21⟩ := newP X20 hx hZ (hw _ (List.mem_of_getElem? (i := 5) rfl)) e20 (g := (mkF m 40 #[.val (.int f0), .val (.long x0), .second, .val (.int f1), .val (.long x1), .second, .val (.int f2), .val (.long x2), .second, .val (.int (2 : Int32)), .val (.ref b20), .unset, .unset] [(.int (2 : Int32))])) rfl (hb hby d1_40) rfl (by decide) (cap := 2) (by decide) (by decide) (by decide) (by decide)
        obtain ⟨b21, g21⟩ : ∃ z, z = h20.size := ⟨_, rfl⟩
        rw [← g21] at A21 st21
        have G21 : n0 ≤ b21 := Nat.le_trans Z20 (Nat.le_of_eq g21.symm)
        have ne_b20_b21 : b20 ≠ b21 := Nat.ne_of_lt (Nat.lt_of_lt_of_le V20.lt (Nat.le_of_eq g21.symm))
        have Vb20_21 := V20.ext E21
        have Z21 : n0 ≤ h21.size := Nat.le_trans Z20 E21.1
        have sz21 : h0.size ≤ b21 := Nat.le_trans Kp20.1 (Nat.le_of_eq g21.symm)
        have Kp21 := Kp20.ext E21
        have V21 : own_L Z h21 b21 .long ([(.long (0 : Int64)), (.long (0 : Int64))]) := own_L.new A21
        refine own_st (fun zw zk => st21 zw zk) ?_
        refine own_st (fun zw zk => XS.astore X21.here hx rfl (hb hby d1_42) rfl rfl rfl zk) ?_
        show own_Go p e below G (T21.setTop (mkF m 44 #[.val (.int f0), .val (.long x0), .second, .val (.int f1), .val (.long x1), .second, .val (.int f2), .val (.long x2), .second, .val (.int (2 : Int32)), .val (.ref b20), .val (.ref b21), .unset] []))
        refine own_st (fun zw zk => XS.iconst X21.here hx rfl (hb hby d1_44) zk) ?_
        refine own_st (fun zw zk => XS.istore X21.here hx rfl (hb hby d1_45) rfl rfl zk) ?_
        show own_Go p e below G (T21.setTop (mkF m 47 #[.val (.int f0), .val (.long x0), .second, .val (.int f1), .val (.long x1), .second, .val (.int f2), .val (.long x2), .second, .val (.int (2 : Int32)), .val (.ref b20), .val (.ref b21), .val (.int (0 : Int32))] []))
        refine own_st (fun zw zk => XS.iloadN X21.here hx rfl (hb hby d1_47) rfl zk) ?_
        refine own_st (fun zw zk => XS.ifYes X21.here hx rfl (pc0 := 48) (pc' := 67) rfl (hb hby d1_48) rfl ((if0 _ _).trans (teq hc1).1) (by decide) (by decide) zk) ?_
        refine own_st (fun zw zk => XS.iloadN X21.here hx rfl (hb hby d1_67) rfl zk) ?_
        refine own_st (fun zw zk => XS.ifNo X21.here hx rfl (hb hby d1_68) rfl ((if0 _ _).trans (feq hc10).1) zk) ?_
        refine own_st (fun zw zk => XS.aload X21.here hx rfl (hb hby d1_71) rfl rfl zk) ?_
        refine own_st (fun zw zk => XS.iload X21.here hx rfl (hb hby d1_73) rfl zk) ?_
        refine own_st (fun zw zk => XS.iconst X21.here hx rfl (hb hby d1_75) zk) ?_
        obtain ⟨T22, h22, X22, e22, W22, V22, st22⟩ := own_ist X21 hx hZ e21 Vb20_21 (j := (0 : Int32)) (0) (by decide) (by decide) (Nat.le_of_ble_eq_true rfl) (g := (mkF m 76 #[.val (.int f0), .val (.long x0), .second, .val (.int f1), .val (.long x1), .second, .val (.int f2), .val (.long x2), .second, .val (.int (2 : Int32)), .val (.ref b20), .val (.ref b21), .val (.int (0 : Int32))] [(.int (0 : Int32)), (.int (0 : Int32)), (.ref b20)])) rfl rfl (hb hby d1_76)
        have Vb20_22 : own_L Z h22 b20 .int ([(.int (0 : Int32)), (.int (0 : Int32))]) := V22
        have N22 := Fr.snoc X22 N0 G20
        refine own_st (fun zw zk => st22 zw zk) ?_
        have Vb21_22 := V21.other W22 (Ne.symm ne_b20_b21)
        have Z22 : n0 ≤ h22.size := Nat.le_trans Z21 (Keep.of_wr W22).1
        have Kp22 := Kp21.wr W22 (Or.inr sz20)
        show own_Go p e below G (T22.setTop (mkF m 77 #[.val (.int f0), .val (.long x0), .second, .val (.int f1), .val (.long x1), .second, .val (.int f2), .val (.long x2), .second, .val (.int (2 : Int32)), .val (.ref b20), .val (.ref b21), .val (.int (0 : Int32))] []))
        refine own_st (fun zw zk => XS.aload X22.here hx rfl (hb hby d1_77) rfl rfl zk) ?_
        refine own_st (fun zw zk => XS.iload X22.here hx rfl (hb hby d1_79) rfl zk) ?_
        refine own_st (fun zw zk => XS.lload X22.here hx rfl (hb hby d1_81) rfl zk) ?_
        obtain ⟨T23, h23, X23, e23, W23, V23, st23⟩ := own_jst X22 hx hZ e22 Vb21_22 (j := (0 : Int32)) (0) (by decide) (by decide) (Nat.le_of_ble_eq_true rfl) (g := (mkF m 83 #[.val (.int f0), .val (.long x0), .second, .val (.int f1), .val (.long x1), .second, .val (.int f2), .val (.long x2), .second, .val (.int (2 : Int32)), .val (.ref b20), .val (.ref b21), .val (.int (0 : Int32))] [(.long x1), (.int (0 : Int32)), (.ref b21)])) rfl rfl (hb hby d1_83)
        have Vb21_23 : own_L Z h23 b21 .long ([(.long x1), (.long (0 : Int64))]) := V23
        have N23 := Fr.snoc X23 N22 G21
        refine own_st (fun zw zk => st23 zw zk) ?_
        have Vb20_23 := Vb20_22.other W23 ne_b20_b21
        have Z23 : n0 ≤ h23.size := Nat.le_trans Z22 (Keep.of_wr W23).1
        have Kp23 := Kp22.wr W23 (Or.inr sz21)
        refine own_st (fun zw zk => XS.iinc X23.here hx rfl (hb hby d1_84) rfl rfl zk) ?_
        show own_Go p e below G (T23.setTop (mkF m 87 #[.val (.int f0), .val (.long x0), .second, .val (.int f1), .val (.long x1), .second, .val (.int f2), .val (.long x2), .second, .val (.int (2 : Int32)), .val (.ref b20), .val (.ref b21), .val (.int (1 : Int32))] []))
        refine own_st (fun zw zk => XS.iload X23.here hx rfl (hb hby d1_87) rfl zk) ?_
        refine own_st (fun zw zk => XS.ifNo X23.here hx rfl (hb hby d1_89) rfl ((if0 _ _).trans (feq hc21).1) zk) ?_
        refine own_st (fun zw zk => XS.aload X23.here hx rfl (hb hby d1_92) rfl rfl zk) ?_
        refine own_st (fun zw zk => XS.iload X23.here hx rfl (hb hby d1_94) rfl zk) ?_
        refine own_st (fun zw zk => X23.ldcInt hx hown (mvT hZ (hw _ (List.mem_of_getElem? (i := 25) rfl))) (g := (mkF m 96 #[.val (.int f0), .val (.long x0), .second, .val (.int f1), .val (.long x1), .second, .val (.int f2), .val (.long x2), .second, .val (.int (2 : Int32)), .val (.ref b20), .val (.ref b21), .val (.int (1 : Int32))] [(.int (1 : Int32)), (.ref b20)])) rfl (hb hby d1_96) _ zk) ?_
        obtain ⟨T24, h24, X24, e24, W24, V24, st24⟩ := own_ist X23 hx hZ e23 Vb20_23 (j := (1 : Int32)) (1) (by decide) (by decide) (Nat.le_of_ble_eq_true rfl) (g := (mkF m 98 #[.val (.int f0), .val (.long x0), .second, .val (.int f1), .val (.long x1), .second, .val (.int f2), .val (.long x2), .second, .val (.int (2 : Int32)), .val (.ref b20), .val (.ref b21), .val (.int (1 : Int32))] [(.int (2147483647 : Int32)), (.int (1 : Int32)), (.ref b20)])) rfl rfl (hb hby d1_98)
        have Vb20_24 : own_L Z h24 b20 .int ([(.int (0 : Int32)), (.int (2147483647 : Int32))]) := V24
        have N24 := Fr.snoc X24 N23 G20
        refine own_st (fun zw zk => st24 zw zk) ?_
        have Vb21_24 := Vb21_23.other W24 (Ne.symm ne_b20_b21)
        have Z24 : n0 ≤ h24.size := Nat.le_trans Z23 (Keep.of_wr W24).1
        have Kp24 := Kp23.wr W24 (Or.inr sz20)
        refine own_st (fun zw zk => XS.aload X24.here hx rfl (hb hby d1_99) rfl rfl zk) ?_
        refine own_st (fun zw zk => XS.iload X24.here hx rfl (hb hby d1_101) rfl zk) ?_
        show own_Go p e below G (T24.setTop (mkF m 103 #[.val (.int f0), .val (.long x0), .second, .val (.int f1), .val (.long x1), .second, .val (.int f2), .val (.long x2), .second, .val (.int (2 : Int32)), .val (.ref b20), .val (.ref b21), .val (.int (1 : Int32))] [(.int (1 : Int32)), (.ref b21)]))
        refine own_st (fun zw zk => XS.lload X24.here hx rfl (hb hby d1_103) rfl zk) ?_
        obtain ⟨T25, h25, X25, e25, W25, V25, st25⟩ := own_jst X24 hx hZ e24 Vb21_24 (j := (1 : Int32)) (1) (by decide) (by decide) (Nat.le_of_ble_eq_true rfl) (g := (mkF m 105 #[.val (.int f0), .val (.long x0), .second, .val (.int f1), .val (.long x1), .second, .val (.int f2), .val (.long x2), .second, .val (.int (2 : Int32)), .val (.ref b20), .val (.ref b21), .val (.int (1 : Int32))] [(.long x2), (.int (1 : Int32)), (.ref b21)])) rfl rfl (hb hby d1_105)
        have Vb21_25 : own_L Z h25 b21 .long ([(.long x1), (.long x2)]) := V25
        have N25 := Fr.snoc X25 N24 G21
        refine own_st (fun zw zk => st25 zw zk) ?_
        have Vb20_25 := Vb20_24.other W25 ne_b20_b21
        have Z25 : n0 ≤ h25.size := Nat.le_trans Z24 (Keep.of_wr W25).1
        have Kp25 := Kp24.wr W25 (Or.inr sz21)
        refine own_st (fun zw zk => XS.iinc X25.here hx rfl (hb hby d1_106) rfl rfl zk) ?_
        show own_Go p e below G (T25.setTop (mkF m 109 #[.val (.int f0), .val (.long x0), .second, .val (.int f1), .val (.long x1), .second, .val (.int f2), .val (.long x2), .second, .val (.int (2 : Int32)), .val (.ref b20), .val (.ref b21), .val (.int (2 : Int32))] []))
        obtain ⟨T26, h26, X26, e26, E26, A26, D26, -, st26⟩ := newO X25 hx hZ hown (hw _ (List.mem_of_getElem? (i := 6) rfl)) (hw _ (List.mem_of_getElem? (i := 7) rfl)) (hw _ (List.mem_of_getElem? (i := 8) rfl)) e25 (g := (mkF m 109 #[.val (.int f0), .val (.long x0), .second, .val (.int f1), .val (.long x1), .second, .val (.int f2), .val (.long x2), .second, .val (.int (2 : Int32)), .val (.ref b20), .val (.ref b21), .val (.int (2 : Int32))] [])) rfl (hb hby d1_109) (by decide) (by decide)
        obtain ⟨b26, g26⟩ : ∃ z, z = h25.size := ⟨_, rfl⟩
        rw [← g26] at A26 D26 st26
        have G26 : n0 ≤ b26 := Nat.le_trans Z25 (Nat.le_of_eq g26.symm)
        have ne_b20_b26 : b20 ≠ b26 := Nat.ne_of_lt (Nat.lt_of_lt_of_le Vb20_25.lt (Nat.le_of_eq g26.symm))
        have ne_b21_b26 : b21 ≠ b26 := Nat.ne_of_lt (Nat.lt_of_lt_of_le Vb21_25.lt (Nat.le_of_eq g26.symm))
        have Vb20_26 := Vb20_25.ext E26
        have Vb21_26 := Vb21_25.ext E26
        have Z26 : n0 ≤ h26.size := Nat.le_trans Z25 E26.1
        have sz26 : h0.size ≤ b26 := Nat.le_trans Kp25.1 (Nat.le_of_eq g26.symm)
        have Kp26 := Kp25.ext E26
        have Fb26indices : Fld Z h26 b26 "com/example/netz/netz/net/SparseVector" "indices" "[I" .null := D26 (Or.inr (hw _ (List.mem_of_getElem? (i := 16) rfl))) (ty := (.array .int)) (by decide)
        have Fb26values : Fld Z h26 b26 "com/example/netz/netz/net/SparseVector" "values" "[J" .null := D26 (Or.inr (hw _ (List.mem_of_getElem? (i := 18) rfl))) (ty := (.array .long)) (by decide)
        refine own_st (fun zw zk => st26 zw zk) ?_
        refine own_st (fun zw zk => XS.dup X26.here hx rfl (hb hby d1_112) rfl rfl zk) ?_
        refine own_st (fun zw zk => XS.aload X26.here hx rfl (hb hby d1_113) rfl rfl zk) ?_
        refine own_st (fun zw zk => XS.aload X26.here hx rfl (hb hby d1_115) rfl rfl zk) ?_
        obtain ⟨_, _, ⟨T27, L27, k27, n27⟩, -, X27, ⟨Lc27, hQ27, l27, y27, z27⟩, st27⟩ := X26.specialBack hx (y := (⟨"com/example/netz/netz/net/SparseVector", "<init>", "([I[J)V"⟩ : MethodName)) rfl hown (mvT hZ (hw _ (List.mem_of_getElem? (i := 9) rfl))) (mvT hZ (hw _ (List.mem_of_getElem? (i := 10) rfl))) (mvT hZ (hw _ (List.mem_of_getElem? (i := 11) rfl))) (by decide) (backOf (W := 1) (rm2 l Z a0 hw [] b26 b20 b21 h26 n0 Z26 (A26) (Fb26indices) (Fb26values) (G26)) hZ (hw _ (List.mem_of_getElem? (i := 11) rfl)) (hw _ (List.mem_of_getElem? (i := 8) rfl)) (by decide) (by decide)) (g := (mkF m 117 #[.val (.int f0), .val (.long x0), .second, .val (.int f1), .val (.long x1), .second, .val (.int f2), .val (.long x2), .second, .val (.int (2 : Int32)), .val (.ref b20), .val (.ref b21), .val (.int (2 : Int32))] [(.ref b21), (.ref b20), (.ref b26), (.ref b26)])) rfl (by rw [hml]; rfl) (Steps.refl _) (a := b26) (argsL := [(.ref b20), (.ref b21)]) (rest := [(.ref b26)]) (lenOf pd_0 rfl) rfl (by show 2 * 0 + _ ≤ _; exact Nat.le_of_eq rfl) (hb hby d1_117) (fun _ _ => ⟨rfl, e26, (by decide : 3 + 0 ≤ _), (by decide : 6 + 0 ≤ _)⟩)
        dsimp only [Pt.U, Pt.locs, Pt.cells, Pt.slots] at X27 l27 y27 z27 st27 hQ27
        subst l27 y27 z27
        obtain ⟨rfl, N27q, K27, O27_0, O27_1, O27_2⟩ := hQ27
        have Vb20_27 := Vb20_26.keep K27 (ninS ne_b20_b26 nin0)
        have Vb21_27 := Vb21_26.keep K27 (ninS ne_b21_b26 nin0)
        have Ab26_27 := A26.keep K27
        have Z27 : n0 ≤ T27.heap.size := Nat.le_trans Z26 K27.1
        have Kp27 := Kp26.trans K27 (allS (Or.inr sz26) all0)
        have N27 := Fr.app N25 N27q
        refine own_jp st27 ?_
        subst hG
        obtain ⟨fs, hr, hrun, hended, hW, hsame⟩ := X27.leave (v := some (.ref b26)) (hlocks := Bd.notSynchronized) (fun h => by rw [Bd.returns] at h; cases h)
        refine ⟨_, X27.areturnOut hx rfl Bd.returns rfl (hb hby d1_120) hr, _, hrun, hended, _, _, rfl, ?_, ⟨_, rfl⟩, hW, hsame.mono (by decide) (by decide)⟩
        show Q1 Z f0 x0 f1 x1 f2 x2 h0 n0 _ T27.heap _
        exact ⟨b26, rfl, N27, sz26, b20, b21, Kp27, O27_0, O27_1, O27_2, (by unfold own_bp; rw [if_pos hc1, if_neg hc10, if_neg hc21]; exact Vb20_27), (by unfold own_bp; rw [if_pos hc1, if_neg hc10, if_neg hc21]; exact Vb21_27)⟩
  · refine own_st (fun zw zk => XS.ifNo X0.here hx rfl (hb hby d1_1) rfl ((if0 _ _).trans (feq hc1).1) zk) ?_
    refine own_st (fun zw zk => XS.iconst X0.here hx rfl (hb hby d1_4) zk) ?_
    refine own_st (fun zw zk => XS.goto X0.here hx rfl (pc0 := 5) (pc' := 9) rfl (hb hby d1_5) (by decide) (by decide) zk) ?_
    show own_Go p e below G (s₁.setTop (mkF m 9 #[.val (.int f0), .val (.long x0), .second, .val (.int f1), .val (.long x1), .second, .val (.int f2), .val (.long x2), .second, .unset, .unset, .unset, .unset] [(.int (1 : Int32))]))
    refine own_st (fun zw zk => XS.iloadN X0.here hx rfl (hb hby d1_9) rfl zk) ?_
    by_cases hc10 : f1 = (0 : Int32)
    · refine own_st (fun zw zk => XS.ifYes X0.here hx rfl (pc0 := 10) (pc' := 17) rfl (hb hby d1_10) rfl ((if0 _ _).trans (teq hc10).1) (by decide) (by decide) zk) ?_
      refine own_st (fun zw zk => XS.iconst X0.here hx rfl (hb hby d1_17) zk) ?_
      refine own_st (fun zw zk => XS.iadd X0.here hx rfl (hb hby d1_18) rfl zk) ?_
      refine own_st (fun zw zk => XS.iload X0.here hx rfl (hb hby d1_19) rfl zk) ?_
      by_cases hc21 : f2 = (0 : Int32)
      · refine own_st (fun zw zk => XS.ifYes X0.here hx rfl (pc0 := 21) (pc' := 28) rfl (hb hby d1_21) rfl ((if0 _ _).trans (teq hc21).1) (by decide) (by decide) zk) ?_
        refine own_st (fun zw zk => XS.iconst X0.here hx rfl (hb hby d1_28) zk) ?_
        refine own_st (fun zw zk => XS.iadd X0.here hx rfl (hb hby d1_29) rfl zk) ?_
        show own_Go p e below G (s₁.setTop (mkF m 30 #[.val (.int f0), .val (.long x0), .second, .val (.int f1), .val (.long x1), .second, .val (.int f2), .val (.long x2), .second, .unset, .unset, .unset, .unset] [(.int (1 : Int32))]))
        refine own_st (fun zw zk => XS.istore X0.here hx rfl (hb hby d1_30) rfl rfl zk) ?_
        show own_Go p e below G (s₁.setTop (mkF m 32 #[.val (.int f0), .val (.long x0), .second, .val (.int f1), .val (.long x1), .second, .val (.int f2), .val (.long x2), .second, .val (.int (1 : Int32)), .unset, .unset, .unset] []))
        refine own_st (fun zw zk => XS.iload X0.here hx rfl (hb hby d1_32) rfl zk) ?_
        obtain ⟨T28, h28, k28, X28, e28, E28, A28, st28⟩ := newP X0 hx hZ (hw _ (List.mem_of_getElem? (i := 4) rfl)) e0 (g := (mkF m 34 #[.val (.int f0), .val (.long x0), .second, .val (.int f1), .val (.long x1), .second, .val (.int f2), .val (.long x2), .second, .val (.int (1 : Int32)), .unset, .unset, .unset] [(.int (1 : Int32))])) rfl (hb hby d1_34) rfl (by decide) (cap := 1) (by decide) (by decide) (by decide) (by decide)
        obtain ⟨b28, g28⟩ : ∃ z, z = h0.size := ⟨_, rfl⟩
        rw [← g28] at A28 st28
        have G28 : n0 ≤ b28 := Nat.le_trans Z0 (Nat.le_of_eq g28.symm)
        have Z28 : n0 ≤ h28.size := Nat.le_trans Z0 E28.1
        have sz28 : h0.size ≤ b28 := Nat.le_trans (Keep.refl h0 []).1 (Nat.le_of_eq g28.symm)
        have Kp28 := (Keep.refl h0 []).ext E28
        have V28 : own_L Z h28 b28 .int ([(.int (0 : Int32))]) := own_L.new A28
        refine own_st (fun zw zk => st28 zw zk) ?_
        refine own_st (fun zw zk => XS.astore X28.here hx rfl (hb hby d1_36) rfl rfl rfl zk) ?_
        show own_Go p e below G (T28.setTop (mkF m 38 #[.val (.int f0), .val (.long x0), .second, .val (.int f1), .val (.long x1), .second, .val (.int f2), .val (.long x2), .second, .val (.int (1 : Int32)), .val (.ref b28), .unset, .unset] []))
        refine own_st (fun zw zk => XS.iload X28.here hx rfl (hb hby d1_38) rfl zk) ?_
        obtain ⟨T29, h29, k29, X29, e29, E29, A29, st29⟩ := newP X28 hx hZ (hw _ (List.mem_of_getElem? (i := 5) rfl)) e28 (g := (mkF m 40 #[.val (.int f0), .val (.long x0), .second, .val (.int f1), .val (.long x1), .second, .val (.int f2), .val (.long x2), .second, .val (.int (1 : Int32)), .val (.ref b28), .unset, .unset] [(.int (1 : Int32))])) rfl (hb hby d1_40) rfl (by decide) (cap := 1) (by decide) (by decide) (by decide) (by decide)
        obtain ⟨b29, g29⟩ : ∃ z, z = h28.size := ⟨_, rfl⟩
        rw [← g29] at A29 st29
        have G29 : n0 ≤ b29 := Nat.le_trans Z28 (Nat.le_of_eq g29.symm)
        have ne_b28_b29 : b28 ≠ b29 := Nat.ne_of_lt (Nat.lt_of_lt_of_le V28.lt (Nat.le_of_eq g29.symm))
        have Vb28_29 := V28.ext E29
        have Z29 : n0 ≤ h29.size := Nat.le_trans Z28 E29.1
        have sz29 : h0.size ≤ b29 := Nat.le_trans Kp28.1 (Nat.le_of_eq g29.symm)
        have Kp29 := Kp28.ext E29
        have V29 : own_L Z h29 b29 .long ([(.long (0 : Int64))]) := own_L.new A29
        refine own_st (fun zw zk => st29 zw zk) ?_
        refine own_st (fun zw zk => XS.astore X29.here hx rfl (hb hby d1_42) rfl rfl rfl zk) ?_
        show own_Go p e below G (T29.setTop (mkF m 44 #[.val (.int f0), .val (.long x0), .second, .val (.int f1), .val (.long x1), .second, .val (.int f2), .val (.long x2), .second, .val (.int (1 : Int32)), .val (.ref b28), .val (.ref b29), .unset] []))
        refine own_st (fun zw zk => XS.iconst X29.here hx rfl (hb hby d1_44) zk) ?_
        refine own_st (fun zw zk => XS.istore X29.here hx rfl (hb hby d1_45) rfl rfl zk) ?_
        show own_Go p e below G (T29.setTop (mkF m 47 #[.val (.int f0), .val (.long x0), .second, .val (.int f1), .val (.long x1), .second, .val (.int f2), .val (.long x2), .second, .val (.int (1 : Int32)), .val (.ref b28), .val (.ref b29), .val (.int (0 : Int32))] []))
        refine own_st (fun zw zk => XS.iloadN X29.here hx rfl (hb hby d1_47) rfl zk) ?_
        refine own_st (fun zw zk => XS.ifNo X29.here hx rfl (hb hby d1_48) rfl ((if0 _ _).trans (feq hc1).1) zk) ?_
        refine own_st (fun zw zk => XS.aload X29.here hx rfl (hb hby d1_51) rfl rfl zk) ?_
        refine own_st (fun zw zk => XS.iload X29.here hx rfl (hb hby d1_53) rfl zk) ?_
        refine own_st (fun zw zk => X29.ldcInt hx hown (mvT hZ (hw _ (List.mem_of_getElem? (i := 24) rfl))) (g := (mkF m 55 #[.val (.int f0), .val (.long x0), .second, .val (.int f1), .val (.long x1), .second, .val (.int f2), .val (.long x2), .second, .val (.int (1 : Int32)), .val (.ref b28), .val (.ref b29), .val (.int (0 : Int32))] [(.int (0 : Int32)), (.ref b28)])) rfl (hb hby d1_55) _ zk) ?_
        obtain ⟨T30, h30, X30, e30, W30, V30, st30⟩ := own_ist X29 hx hZ e29 Vb28_29 (j := (0 : Int32)) (0) (by decide) (by decide) (Nat.le_of_ble_eq_true rfl) (g := (mkF m 57 #[.val (.int f0), .val (.long x0), .second, .val (.int f1), .val (.long x1), .second, .val (.int f2), .val (.long x2), .second, .val (.int (1 : Int32)), .val (.ref b28), .val (.ref b29), .val (.int (0 : Int32))] [(.int (-2147483648 : Int32)), (.int (0 : Int32)), (.ref b28)])) rfl rfl (hb hby d1_57)
        have Vb28_30 : own_L Z h30 b28 .int ([(.int (-2147483648 : Int32))]) := V30
        have N30 := Fr.snoc X30 N0 G28
        refine own_st (fun zw zk => st30 zw zk) ?_
        have Vb29_30 := V29.other W30 (Ne.symm ne_b28_b29)
        have Z30 : n0 ≤ h30.size := Nat.le_trans Z29 (Keep.of_wr W30).1
        have Kp30 := Kp29.wr W30 (Or.inr sz28)
        refine own_st (fun zw zk => XS.aload X30.here hx rfl (hb hby d1_58) rfl rfl zk) ?_
        refine own_st (fun zw zk => XS.iload X30.here hx rfl (hb hby d1_60) rfl zk) ?_
        show own_Go p e below G (T30.setTop (mkF m 62 #[.val (.int f0), .val (.long x0), .second, .val (.int f1), .val (.long x1), .second, .val (.int f2), .val (.long x2), .second, .val (.int (1 : Int32)), .val (.ref b28), .val (.ref b29), .val (.int (0 : Int32))] [(.int (0 : Int32)), (.ref b29)]))
        refine own_st (fun zw zk => XS.lloadN X30.here hx rfl (hb hby d1_62) rfl zk) ?_
        obtain ⟨T31, h31, X31, e31, W31, V31, st31⟩ := own_jst X30 hx hZ e30 Vb29_30 (j := (0 : Int32)) (0) (by decide) (by decide) (Nat.le_of_ble_eq_true rfl) (g := (mkF m 63 #[.val (.int f0), .val (.long x0), .second, .val (.int f1), .val (.long x1), .second, .val (.int f2), .val (.long x2), .second, .val (.int (1 : Int32)), .val (.ref b28), .val (.ref b29), .val (.int (0 : Int32))] [(.long x0), (.int (0 : Int32)), (.ref b29)])) rfl rfl (hb hby d1_63)
        have Vb29_31 : own_L Z h31 b29 .long ([(.long x0)]) := V31
        have N31 := Fr.snoc X31 N30 G29
        refine own_st (fun zw zk => st31 zw zk) ?_
        have Vb28_31 := Vb28_30.other W31 ne_b28_b29
        have Z31 : n0 ≤ h31.size := Nat.le_trans Z30 (Keep.of_wr W31).1
        have Kp31 := Kp30.wr W31 (Or.inr sz29)
        refine own_st (fun zw zk => XS.iinc X31.here hx rfl (hb hby d1_64) rfl rfl zk) ?_
        show own_Go p e below G (T31.setTop (mkF m 67 #[.val (.int f0), .val (.long x0), .second, .val (.int f1), .val (.long x1), .second, .val (.int f2), .val (.long x2), .second, .val (.int (1 : Int32)), .val (.ref b28), .val (.ref b29), .val (.int (1 : Int32))] []))
        refine own_st (fun zw zk => XS.iloadN X31.here hx rfl (hb hby d1_67) rfl zk) ?_
        refine own_st (fun zw zk => XS.ifYes X31.here hx rfl (pc0 := 68) (pc' := 87) rfl (hb hby d1_68) rfl ((if0 _ _).trans (teq hc10).1) (by decide) (by decide) zk) ?_
        refine own_st (fun zw zk => XS.iload X31.here hx rfl (hb hby d1_87) rfl zk) ?_
        refine own_st (fun zw zk => XS.ifYes X31.here hx rfl (pc0 := 89) (pc' := 109) rfl (hb hby d1_89) rfl ((if0 _ _).trans (teq hc21).1) (by decide) (by decide) zk) ?_
        obtain ⟨T32, h32, X32, e32, E32, A32, D32, -, st32⟩ := newO X31 hx hZ hown (hw _ (List.mem_of_getElem? (i := 6) rfl)) (hw _ (List.mem_of_getElem? (i := 7) rfl)) (hw _ (List.mem_of_getElem? (i := 8) rfl)) e31 (g := (mkF m 109 #[.val (.int f0), .val (.long x0), .second, .val (.int f1), .val (.long x1), .second, .val (.int f2), .val (.long x2), .second, .val (.int (1 : Int32)), .val (.ref b28), .val (.ref b29), .val (.int (1 : Int32))] [])) rfl (hb hby d1_109) (by decide) (by decide)
        obtain ⟨b32, g32⟩ : ∃ z, z = h31.size := ⟨_, rfl⟩
        rw [← g32] at A32 D32 st32
        have G32 : n0 ≤ b32 := Nat.le_trans Z31 (Nat.le_of_eq g32.symm)
        have ne_b28_b32 : b28 ≠ b32 := Nat.ne_of_lt (Nat.lt_of_lt_of_le Vb28_31.lt (Nat.le_of_eq g32.symm))
        have ne_b29_b32 : b29 ≠ b32 := Nat.ne_of_lt (Nat.lt_of_lt_of_le Vb29_31.lt (Nat.le_of_eq g32.symm))
        have Vb28_32 := Vb28_31.ext E32
        have Vb29_32 := Vb29_31.ext E32
        have Z32 : n0 ≤ h32.size := Nat.le_trans Z31 E32.1
        have sz32 : h0.size ≤ b32 := Nat.le_trans Kp31.1 (Nat.le_of_eq g32.symm)
        have Kp32 := Kp31.ext E32
        have Fb32indices : Fld Z h32 b32 "com/example/netz/netz/net/SparseVector" "indices" "[I" .null := D32 (Or.inr (hw _ (List.mem_of_getElem? (i := 16) rfl))) (ty := (.array .int)) (by decide)
        have Fb32values : Fld Z h32 b32 "com/example/netz/netz/net/SparseVector" "values" "[J" .null := D32 (Or.inr (hw _ (List.mem_of_getElem? (i := 18) rfl))) (ty := (.array .long)) (by decide)
        refine own_st (fun zw zk => st32 zw zk) ?_
        refine own_st (fun zw zk => XS.dup X32.here hx rfl (hb hby d1_112) rfl rfl zk) ?_
        refine own_st (fun zw zk => XS.aload X32.here hx rfl (hb hby d1_113) rfl rfl zk) ?_
        refine own_st (fun zw zk => XS.aload X32.here hx rfl (hb hby d1_115) rfl rfl zk) ?_
        show own_Go p e below G (T32.setTop (mkF m 117 #[.val (.int f0), .val (.long x0), .second, .val (.int f1), .val (.long x1), .second, .val (.int f2), .val (.long x2), .second, .val (.int (1 : Int32)), .val (.ref b28), .val (.ref b29), .val (.int (1 : Int32))] [(.ref b29), (.ref b28), (.ref b32), (.ref b32)]))
        obtain ⟨_, _, ⟨T33, L33, k33, n33⟩, -, X33, ⟨Lc33, hQ33, l33, y33, z33⟩, st33⟩ := X32.specialBack hx (y := (⟨"com/example/netz/netz/net/SparseVector", "<init>", "([I[J)V"⟩ : MethodName)) rfl hown (mvT hZ (hw _ (List.mem_of_getElem? (i := 9) rfl))) (mvT hZ (hw _ (List.mem_of_getElem? (i := 10) rfl))) (mvT hZ (hw _ (List.mem_of_getElem? (i := 11) rfl))) (by decide) (backOf (W := 1) (rm2 l Z a0 hw [] b32 b28 b29 h32 n0 Z32 (A32) (Fb32indices) (Fb32values) (G32)) hZ (hw _ (List.mem_of_getElem? (i := 11) rfl)) (hw _ (List.mem_of_getElem? (i := 8) rfl)) (by decide) (by decide)) (g := (mkF m 117 #[.val (.int f0), .val (.long x0), .second, .val (.int f1), .val (.long x1), .second, .val (.int f2), .val (.long x2), .second, .val (.int (1 : Int32)), .val (.ref b28), .val (.ref b29), .val (.int (1 : Int32))] [(.ref b29), (.ref b28), (.ref b32), (.ref b32)])) rfl (by rw [hml]; rfl) (Steps.refl _) (a := b32) (argsL := [(.ref b28), (.ref b29)]) (rest := [(.ref b32)]) (lenOf pd_0 rfl) rfl (by show 2 * 0 + _ ≤ _; exact Nat.le_of_eq rfl) (hb hby d1_117) (fun _ _ => ⟨rfl, e32, (by decide : 3 + 0 ≤ _), (by decide : 4 + 0 ≤ _)⟩)
        dsimp only [Pt.U, Pt.locs, Pt.cells, Pt.slots] at X33 l33 y33 z33 st33 hQ33
        subst l33 y33 z33
        obtain ⟨rfl, N33q, K33, O33_0, O33_1, O33_2⟩ := hQ33
        have Vb28_33 := Vb28_32.keep K33 (ninS ne_b28_b32 nin0)
        have Vb29_33 := Vb29_32.keep K33 (ninS ne_b29_b32 nin0)
        have Ab32_33 := A32.keep K33
        have Z33 : n0 ≤ T33.heap.size := Nat.le_trans Z32 K33.1
        have Kp33 := Kp32.trans K33 (allS (Or.inr sz32) all0)
        have N33 := Fr.app N31 N33q
        refine own_jp st33 ?_
        subst hG
        obtain ⟨fs, hr, hrun, hended, hW, hsame⟩ := X33.leave (v := some (.ref b32)) (hlocks := Bd.notSynchronized) (fun h => by rw [Bd.returns] at h; cases h)
        refine ⟨_, X33.areturnOut hx rfl Bd.returns rfl (hb hby d1_120) hr, _, hrun, hended, _, _, rfl, ?_, ⟨_, rfl⟩, hW, hsame.mono (by decide) (by decide)⟩
        show Q1 Z f0 x0 f1 x1 f2 x2 h0 n0 _ T33.heap _
        exact ⟨b32, rfl, N33, sz32, b28, b29, Kp33, O33_0, O33_1, O33_2, (by unfold own_bp; rw [if_neg hc1, if_pos hc10, if_pos hc21]; exact Vb28_33), (by unfold own_bp; rw [if_neg hc1, if_pos hc10, if_pos hc21]; exact Vb29_33)⟩
      · refine own_st (fun zw zk => XS.ifNo X0.here hx rfl (hb hby d1_21) rfl ((if0 _ _).trans (feq hc21).1) zk) ?_
        refine own_st (fun zw zk => XS.iconst X0.here hx rfl (hb hby d1_24) zk) ?_
        refine own_st (fun zw zk => XS.goto X0.here hx rfl (pc0 := 25) (pc' := 29) rfl (hb hby d1_25) (by decide) (by decide) zk) ?_
        show own_Go p e below G (s₁.setTop (mkF m 29 #[.val (.int f0), .val (.long x0), .second, .val (.int f1), .val (.long x1), .second, .val (.int f2), .val (.long x2), .second, .unset, .unset, .unset, .unset] [(.int (1 : Int32)), (.int (1 : Int32))]))
        refine own_st (fun zw zk => XS.iadd X0.here hx rfl (hb hby d1_29) rfl zk) ?_
        refine own_st (fun zw zk => XS.istore X0.here hx rfl (hb hby d1_30) rfl rfl zk) ?_
        show own_Go p e below G (s₁.setTop (mkF m 32 #[.val (.int f0), .val (.long x0), .second, .val (.int f1), .val (.long x1), .second, .val (.int f2), .val (.long x2), .second, .val (.int (2 : Int32)), .unset, .unset, .unset] []))
        refine own_st (fun zw zk => XS.iload X0.here hx rfl (hb hby d1_32) rfl zk) ?_
        obtain ⟨T34, h34, k34, X34, e34, E34, A34, st34⟩ := newP X0 hx hZ (hw _ (List.mem_of_getElem? (i := 4) rfl)) e0 (g := (mkF m 34 #[.val (.int f0), .val (.long x0), .second, .val (.int f1), .val (.long x1), .second, .val (.int f2), .val (.long x2), .second, .val (.int (2 : Int32)), .unset, .unset, .unset] [(.int (2 : Int32))])) rfl (hb hby d1_34) rfl (by decide) (cap := 2) (by decide) (by decide) (by decide) (by decide)
        obtain ⟨b34, g34⟩ : ∃ z, z = h0.size := ⟨_, rfl⟩
        rw [← g34] at A34 st34
        have G34 : n0 ≤ b34 := Nat.le_trans Z0 (Nat.le_of_eq g34.symm)
        have Z34 : n0 ≤ h34.size := Nat.le_trans Z0 E34.1
        have sz34 : h0.size ≤ b34 := Nat.le_trans (Keep.refl h0 []).1 (Nat.le_of_eq g34.symm)
        have Kp34 := (Keep.refl h0 []).ext E34
        have V34 : own_L Z h34 b34 .int ([(.int (0 : Int32)), (.int (0 : Int32))]) := own_L.new A34
        refine own_st (fun zw zk => st34 zw zk) ?_
        refine own_st (fun zw zk => XS.astore X34.here hx rfl (hb hby d1_36) rfl rfl rfl zk) ?_
        show own_Go p e below G (T34.setTop (mkF m 38 #[.val (.int f0), .val (.long x0), .second, .val (.int f1), .val (.long x1), .second, .val (.int f2), .val (.long x2), .second, .val (.int (2 : Int32)), .val (.ref b34), .unset, .unset] []))
        refine own_st (fun zw zk => XS.iload X34.here hx rfl (hb hby d1_38) rfl zk) ?_
        obtain ⟨T35, h35, k35, X35, e35, E35, A35, st35⟩ := newP X34 hx hZ (hw _ (List.mem_of_getElem? (i := 5) rfl)) e34 (g := (mkF m 40 #[.val (.int f0), .val (.long x0), .second, .val (.int f1), .val (.long x1), .second, .val (.int f2), .val (.long x2), .second, .val (.int (2 : Int32)), .val (.ref b34), .unset, .unset] [(.int (2 : Int32))])) rfl (hb hby d1_40) rfl (by decide) (cap := 2) (by decide) (by decide) (by decide) (by decide)
        obtain ⟨b35, g35⟩ : ∃ z, z = h34.size := ⟨_, rfl⟩
        rw [← g35] at A35 st35
        have G35 : n0 ≤ b35 := Nat.le_trans Z34 (Nat.le_of_eq g35.symm)
        have ne_b34_b35 : b34 ≠ b35 := Nat.ne_of_lt (Nat.lt_of_lt_of_le V34.lt (Nat.le_of_eq g35.symm))
        have Vb34_35 := V34.ext E35
        have Z35 : n0 ≤ h35.size := Nat.le_trans Z34 E35.1
        have sz35 : h0.size ≤ b35 := Nat.le_trans Kp34.1 (Nat.le_of_eq g35.symm)
        have Kp35 := Kp34.ext E35
        have V35 : own_L Z h35 b35 .long ([(.long (0 : Int64)), (.long (0 : Int64))]) := own_L.new A35
        refine own_st (fun zw zk => st35 zw zk) ?_
        refine own_st (fun zw zk => XS.astore X35.here hx rfl (hb hby d1_42) rfl rfl rfl zk) ?_
        show own_Go p e below G (T35.setTop (mkF m 44 #[.val (.int f0), .val (.long x0), .second, .val (.int f1), .val (.long x1), .second, .val (.int f2), .val (.long x2), .second, .val (.int (2 : Int32)), .val (.ref b34), .val (.ref b35), .unset] []))
        refine own_st (fun zw zk => XS.iconst X35.here hx rfl (hb hby d1_44) zk) ?_
        refine own_st (fun zw zk => XS.istore X35.here hx rfl (hb hby d1_45) rfl rfl zk) ?_
        show own_Go p e below G (T35.setTop (mkF m 47 #[.val (.int f0), .val (.long x0), .second, .val (.int f1), .val (.long x1), .second, .val (.int f2), .val (.long x2), .second, .val (.int (2 : Int32)), .val (.ref b34), .val (.ref b35), .val (.int (0 : Int32))] []))
        refine own_st (fun zw zk => XS.iloadN X35.here hx rfl (hb hby d1_47) rfl zk) ?_
        refine own_st (fun zw zk => XS.ifNo X35.here hx rfl (hb hby d1_48) rfl ((if0 _ _).trans (feq hc1).1) zk) ?_
        refine own_st (fun zw zk => XS.aload X35.here hx rfl (hb hby d1_51) rfl rfl zk) ?_
        refine own_st (fun zw zk => XS.iload X35.here hx rfl (hb hby d1_53) rfl zk) ?_
        refine own_st (fun zw zk => X35.ldcInt hx hown (mvT hZ (hw _ (List.mem_of_getElem? (i := 24) rfl))) (g := (mkF m 55 #[.val (.int f0), .val (.long x0), .second, .val (.int f1), .val (.long x1), .second, .val (.int f2), .val (.long x2), .second, .val (.int (2 : Int32)), .val (.ref b34), .val (.ref b35), .val (.int (0 : Int32))] [(.int (0 : Int32)), (.ref b34)])) rfl (hb hby d1_55) _ zk) ?_
        obtain ⟨T36, h36, X36, e36, W36, V36, st36⟩ := own_ist X35 hx hZ e35 Vb34_35 (j := (0 : Int32)) (0) (by decide) (by decide) (Nat.le_of_ble_eq_true rfl) (g := (mkF m 57 #[.val (.int f0), .val (.long x0), .second, .val (.int f1), .val (.long x1), .second, .val (.int f2), .val (.long x2), .second, .val (.int (2 : Int32)), .val (.ref b34), .val (.ref b35), .val (.int (0 : Int32))] [(.int (-2147483648 : Int32)), (.int (0 : Int32)), (.ref b34)])) rfl rfl (hb hby d1_57)
        have Vb34_36 : own_L Z h36 b34 .int ([(.int (-2147483648 : Int32)), (.int (0 : Int32))]) := V36
        have N36 := Fr.snoc X36 N0 G34
        refine own_st (fun zw zk => st36 zw zk) ?_
        have Vb35_36 := V35.other W36 (Ne.symm ne_b34_b35)
        have Z36 : n0 ≤ h36.size := Nat.le_trans Z35 (Keep.of_wr W36).1
        have Kp36 := Kp35.wr W36 (Or.inr sz34)
        refine own_st (fun zw zk => XS.aload X36.here hx rfl (hb hby d1_58) rfl rfl zk) ?_
        refine own_st (fun zw zk => XS.iload X36.here hx rfl (hb hby d1_60) rfl zk) ?_
        show own_Go p e below G (T36.setTop (mkF m 62 #[.val (.int f0), .val (.long x0), .second, .val (.int f1), .val (.long x1), .second, .val (.int f2), .val (.long x2), .second, .val (.int (2 : Int32)), .val (.ref b34), .val (.ref b35), .val (.int (0 : Int32))] [(.int (0 : Int32)), (.ref b35)]))
        refine own_st (fun zw zk => XS.lloadN X36.here hx rfl (hb hby d1_62) rfl zk) ?_
        obtain ⟨T37, h37, X37, e37, W37, V37, st37⟩ := own_jst X36 hx hZ e36 Vb35_36 (j := (0 : Int32)) (0) (by decide) (by decide) (Nat.le_of_ble_eq_true rfl) (g := (mkF m 63 #[.val (.int f0), .val (.long x0), .second, .val (.int f1), .val (.long x1), .second, .val (.int f2), .val (.long x2), .second, .val (.int (2 : Int32)), .val (.ref b34), .val (.ref b35), .val (.int (0 : Int32))] [(.long x0), (.int (0 : Int32)), (.ref b35)])) rfl rfl (hb hby d1_63)
        have Vb35_37 : own_L Z h37 b35 .long ([(.long x0), (.long (0 : Int64))]) := V37
        have N37 := Fr.snoc X37 N36 G35
        refine own_st (fun zw zk => st37 zw zk) ?_
        have Vb34_37 := Vb34_36.other W37 ne_b34_b35
        have Z37 : n0 ≤ h37.size := Nat.le_trans Z36 (Keep.of_wr W37).1
        have Kp37 := Kp36.wr W37 (Or.inr sz35)
        refine own_st (fun zw zk => XS.iinc X37.here hx rfl (hb hby d1_64) rfl rfl zk) ?_
        show own_Go p e below G (T37.setTop (mkF m 67 #[.val (.int f0), .val (.long x0), .second, .val (.int f1), .val (.long x1), .second, .val (.int f2), .val (.long x2), .second, .val (.int (2 : Int32)), .val (.ref b34), .val (.ref b35), .val (.int (1 : Int32))] []))
        refine own_st (fun zw zk => XS.iloadN X37.here hx rfl (hb hby d1_67) rfl zk) ?_
        refine own_st (fun zw zk => XS.ifYes X37.here hx rfl (pc0 := 68) (pc' := 87) rfl (hb hby d1_68) rfl ((if0 _ _).trans (teq hc10).1) (by decide) (by decide) zk) ?_
        refine own_st (fun zw zk => XS.iload X37.here hx rfl (hb hby d1_87) rfl zk) ?_
        refine own_st (fun zw zk => XS.ifNo X37.here hx rfl (hb hby d1_89) rfl ((if0 _ _).trans (feq hc21).1) zk) ?_
        refine own_st (fun zw zk => XS.aload X37.here hx rfl (hb hby d1_92) rfl rfl zk) ?_
        refine own_st (fun zw zk => XS.iload X37.here hx rfl (hb hby d1_94) rfl zk) ?_
        refine own_st (fun zw zk => X37.ldcInt hx hown (mvT hZ (hw _ (List.mem_of_getElem? (i := 25) rfl))) (g := (mkF m 96 #[.val (.int f0), .val (.long x0), .second, .val (.int f1), .val (.long x1), .second, .val (.int f2), .val (.long x2), .second, .val (.int (2 : Int32)), .val (.ref b34), .val (.ref b35), .val (.int (1 : Int32))] [(.int (1 : Int32)), (.ref b34)])) rfl (hb hby d1_96) _ zk) ?_
        obtain ⟨T38, h38, X38, e38, W38, V38, st38⟩ := own_ist X37 hx hZ e37 Vb34_37 (j := (1 : Int32)) (1) (by decide) (by decide) (Nat.le_of_ble_eq_true rfl) (g := (mkF m 98 #[.val (.int f0), .val (.long x0), .second, .val (.int f1), .val (.long x1), .second, .val (.int f2), .val (.long x2), .second, .val (.int (2 : Int32)), .val (.ref b34), .val (.ref b35), .val (.int (1 : Int32))] [(.int (2147483647 : Int32)), (.int (1 : Int32)), (.ref b34)])) rfl rfl (hb hby d1_98)
        have Vb34_38 : own_L Z h38 b34 .int ([(.int (-2147483648 : Int32)), (.int (2147483647 : Int32))]) := V38
        have N38 := Fr.snoc X38 N37 G34
        refine own_st (fun zw zk => st38 zw zk) ?_
        have Vb35_38 := Vb35_37.other W38 (Ne.symm ne_b34_b35)
        have Z38 : n0 ≤ h38.size := Nat.le_trans Z37 (Keep.of_wr W38).1
        have Kp38 := Kp37.wr W38 (Or.inr sz34)
        show own_Go p e below G (T38.setTop (mkF m 99 #[.val (.int f0), .val (.long x0), .second, .val (.int f1), .val (.long x1), .second, .val (.int f2), .val (.long x2), .second, .val (.int (2 : Int32)), .val (.ref b34), .val (.ref b35), .val (.int (1 : Int32))] []))
        refine own_st (fun zw zk => XS.aload X38.here hx rfl (hb hby d1_99) rfl rfl zk) ?_
        refine own_st (fun zw zk => XS.iload X38.here hx rfl (hb hby d1_101) rfl zk) ?_
        refine own_st (fun zw zk => XS.lload X38.here hx rfl (hb hby d1_103) rfl zk) ?_
        obtain ⟨T39, h39, X39, e39, W39, V39, st39⟩ := own_jst X38 hx hZ e38 Vb35_38 (j := (1 : Int32)) (1) (by decide) (by decide) (Nat.le_of_ble_eq_true rfl) (g := (mkF m 105 #[.val (.int f0), .val (.long x0), .second, .val (.int f1), .val (.long x1), .second, .val (.int f2), .val (.long x2), .second, .val (.int (2 : Int32)), .val (.ref b34), .val (.ref b35), .val (.int (1 : Int32))] [(.long x2), (.int (1 : Int32)), (.ref b35)])) rfl rfl (hb hby d1_105)
        have Vb35_39 : own_L Z h39 b35 .long ([(.long x0), (.long x2)]) := V39
        have N39 := Fr.snoc X39 N38 G35
        refine own_st (fun zw zk => st39 zw zk) ?_
        have Vb34_39 := Vb34_38.other W39 ne_b34_b35
        have Z39 : n0 ≤ h39.size := Nat.le_trans Z38 (Keep.of_wr W39).1
        have Kp39 := Kp38.wr W39 (Or.inr sz35)
        refine own_st (fun zw zk => XS.iinc X39.here hx rfl (hb hby d1_106) rfl rfl zk) ?_
        show own_Go p e below G (T39.setTop (mkF m 109 #[.val (.int f0), .val (.long x0), .second, .val (.int f1), .val (.long x1), .second, .val (.int f2), .val (.long x2), .second, .val (.int (2 : Int32)), .val (.ref b34), .val (.ref b35), .val (.int (2 : Int32))] []))
        obtain ⟨T40, h40, X40, e40, E40, A40, D40, -, st40⟩ := newO X39 hx hZ hown (hw _ (List.mem_of_getElem? (i := 6) rfl)) (hw _ (List.mem_of_getElem? (i := 7) rfl)) (hw _ (List.mem_of_getElem? (i := 8) rfl)) e39 (g := (mkF m 109 #[.val (.int f0), .val (.long x0), .second, .val (.int f1), .val (.long x1), .second, .val (.int f2), .val (.long x2), .second, .val (.int (2 : Int32)), .val (.ref b34), .val (.ref b35), .val (.int (2 : Int32))] [])) rfl (hb hby d1_109) (by decide) (by decide)
        obtain ⟨b40, g40⟩ : ∃ z, z = h39.size := ⟨_, rfl⟩
        rw [← g40] at A40 D40 st40
        have G40 : n0 ≤ b40 := Nat.le_trans Z39 (Nat.le_of_eq g40.symm)
        have ne_b34_b40 : b34 ≠ b40 := Nat.ne_of_lt (Nat.lt_of_lt_of_le Vb34_39.lt (Nat.le_of_eq g40.symm))
        have ne_b35_b40 : b35 ≠ b40 := Nat.ne_of_lt (Nat.lt_of_lt_of_le Vb35_39.lt (Nat.le_of_eq g40.symm))
        have Vb34_40 := Vb34_39.ext E40
        have Vb35_40 := Vb35_39.ext E40
        have Z40 : n0 ≤ h40.size := Nat.le_trans Z39 E40.1
        have sz40 : h0.size ≤ b40 := Nat.le_trans Kp39.1 (Nat.le_of_eq g40.symm)
        have Kp40 := Kp39.ext E40
        have Fb40indices : Fld Z h40 b40 "com/example/netz/netz/net/SparseVector" "indices" "[I" .null := D40 (Or.inr (hw _ (List.mem_of_getElem? (i := 16) rfl))) (ty := (.array .int)) (by decide)
        have Fb40values : Fld Z h40 b40 "com/example/netz/netz/net/SparseVector" "values" "[J" .null := D40 (Or.inr (hw _ (List.mem_of_getElem? (i := 18) rfl))) (ty := (.array .long)) (by decide)
        refine own_st (fun zw zk => st40 zw zk) ?_
        refine own_st (fun zw zk => XS.dup X40.here hx rfl (hb hby d1_112) rfl rfl zk) ?_
        refine own_st (fun zw zk => XS.aload X40.here hx rfl (hb hby d1_113) rfl rfl zk) ?_
        refine own_st (fun zw zk => XS.aload X40.here hx rfl (hb hby d1_115) rfl rfl zk) ?_
        obtain ⟨_, _, ⟨T41, L41, k41, n41⟩, -, X41, ⟨Lc41, hQ41, l41, y41, z41⟩, st41⟩ := X40.specialBack hx (y := (⟨"com/example/netz/netz/net/SparseVector", "<init>", "([I[J)V"⟩ : MethodName)) rfl hown (mvT hZ (hw _ (List.mem_of_getElem? (i := 9) rfl))) (mvT hZ (hw _ (List.mem_of_getElem? (i := 10) rfl))) (mvT hZ (hw _ (List.mem_of_getElem? (i := 11) rfl))) (by decide) (backOf (W := 1) (rm2 l Z a0 hw [] b40 b34 b35 h40 n0 Z40 (A40) (Fb40indices) (Fb40values) (G40)) hZ (hw _ (List.mem_of_getElem? (i := 11) rfl)) (hw _ (List.mem_of_getElem? (i := 8) rfl)) (by decide) (by decide)) (g := (mkF m 117 #[.val (.int f0), .val (.long x0), .second, .val (.int f1), .val (.long x1), .second, .val (.int f2), .val (.long x2), .second, .val (.int (2 : Int32)), .val (.ref b34), .val (.ref b35), .val (.int (2 : Int32))] [(.ref b35), (.ref b34), (.ref b40), (.ref b40)])) rfl (by rw [hml]; rfl) (Steps.refl _) (a := b40) (argsL := [(.ref b34), (.ref b35)]) (rest := [(.ref b40)]) (lenOf pd_0 rfl) rfl (by show 2 * 0 + _ ≤ _; exact Nat.le_of_eq rfl) (hb hby d1_117) (fun _ _ => ⟨rfl, e40, (by decide : 3 + 0 ≤ _), (by decide : 6 + 0 ≤ _)⟩)
        dsimp only [Pt.U, Pt.locs, Pt.cells, Pt.slots] at X41 l41 y41 z41 st41 hQ41
        subst l41 y41 z41
        obtain ⟨rfl, N41q, K41, O41_0, O41_1, O41_2⟩ := hQ41
        have Vb34_41 := Vb34_40.keep K41 (ninS ne_b34_b40 nin0)
        have Vb35_41 := Vb35_40.keep K41 (ninS ne_b35_b40 nin0)
        have Ab40_41 := A40.keep K41
        have Z41 : n0 ≤ T41.heap.size := Nat.le_trans Z40 K41.1
        have Kp41 := Kp40.trans K41 (allS (Or.inr sz40) all0)
        have N41 := Fr.app N39 N41q
        refine own_jp st41 ?_
        subst hG
        obtain ⟨fs, hr, hrun, hended, hW, hsame⟩ := X41.leave (v := some (.ref b40)) (hlocks := Bd.notSynchronized) (fun h => by rw [Bd.returns] at h; cases h)
        refine ⟨_, X41.areturnOut hx rfl Bd.returns rfl (hb hby d1_120) hr, _, hrun, hended, _, _, rfl, ?_, ⟨_, rfl⟩, hW, hsame.mono (by decide) (by decide)⟩
        show Q1 Z f0 x0 f1 x1 f2 x2 h0 n0 _ T41.heap _
        exact ⟨b40, rfl, N41, sz40, b34, b35, Kp41, O41_0, O41_1, O41_2, (by unfold own_bp; rw [if_neg hc1, if_pos hc10, if_neg hc21]; exact Vb34_41), (by unfold own_bp; rw [if_neg hc1, if_pos hc10, if_neg hc21]; exact Vb35_41)⟩
    · refine own_st (fun zw zk => XS.ifNo X0.here hx rfl (hb hby d1_10) rfl ((if0 _ _).trans (feq hc10).1) zk) ?_
      refine own_st (fun zw zk => XS.iconst X0.here hx rfl (hb hby d1_13) zk) ?_
      refine own_st (fun zw zk => XS.goto X0.here hx rfl (pc0 := 14) (pc' := 18) rfl (hb hby d1_14) (by decide) (by decide) zk) ?_
      show own_Go p e below G (s₁.setTop (mkF m 18 #[.val (.int f0), .val (.long x0), .second, .val (.int f1), .val (.long x1), .second, .val (.int f2), .val (.long x2), .second, .unset, .unset, .unset, .unset] [(.int (1 : Int32)), (.int (1 : Int32))]))
      refine own_st (fun zw zk => XS.iadd X0.here hx rfl (hb hby d1_18) rfl zk) ?_
      refine own_st (fun zw zk => XS.iload X0.here hx rfl (hb hby d1_19) rfl zk) ?_
      by_cases hc21 : f2 = (0 : Int32)
      · refine own_st (fun zw zk => XS.ifYes X0.here hx rfl (pc0 := 21) (pc' := 28) rfl (hb hby d1_21) rfl ((if0 _ _).trans (teq hc21).1) (by decide) (by decide) zk) ?_
        refine own_st (fun zw zk => XS.iconst X0.here hx rfl (hb hby d1_28) zk) ?_
        refine own_st (fun zw zk => XS.iadd X0.here hx rfl (hb hby d1_29) rfl zk) ?_
        refine own_st (fun zw zk => XS.istore X0.here hx rfl (hb hby d1_30) rfl rfl zk) ?_
        show own_Go p e below G (s₁.setTop (mkF m 32 #[.val (.int f0), .val (.long x0), .second, .val (.int f1), .val (.long x1), .second, .val (.int f2), .val (.long x2), .second, .val (.int (2 : Int32)), .unset, .unset, .unset] []))
        refine own_st (fun zw zk => XS.iload X0.here hx rfl (hb hby d1_32) rfl zk) ?_
        obtain ⟨T42, h42, k42, X42, e42, E42, A42, st42⟩ := newP X0 hx hZ (hw _ (List.mem_of_getElem? (i := 4) rfl)) e0 (g := (mkF m 34 #[.val (.int f0), .val (.long x0), .second, .val (.int f1), .val (.long x1), .second, .val (.int f2), .val (.long x2), .second, .val (.int (2 : Int32)), .unset, .unset, .unset] [(.int (2 : Int32))])) rfl (hb hby d1_34) rfl (by decide) (cap := 2) (by decide) (by decide) (by decide) (by decide)
        obtain ⟨b42, g42⟩ : ∃ z, z = h0.size := ⟨_, rfl⟩
        rw [← g42] at A42 st42
        have G42 : n0 ≤ b42 := Nat.le_trans Z0 (Nat.le_of_eq g42.symm)
        have Z42 : n0 ≤ h42.size := Nat.le_trans Z0 E42.1
        have sz42 : h0.size ≤ b42 := Nat.le_trans (Keep.refl h0 []).1 (Nat.le_of_eq g42.symm)
        have Kp42 := (Keep.refl h0 []).ext E42
        have V42 : own_L Z h42 b42 .int ([(.int (0 : Int32)), (.int (0 : Int32))]) := own_L.new A42
        refine own_st (fun zw zk => st42 zw zk) ?_
        refine own_st (fun zw zk => XS.astore X42.here hx rfl (hb hby d1_36) rfl rfl rfl zk) ?_
        show own_Go p e below G (T42.setTop (mkF m 38 #[.val (.int f0), .val (.long x0), .second, .val (.int f1), .val (.long x1), .second, .val (.int f2), .val (.long x2), .second, .val (.int (2 : Int32)), .val (.ref b42), .unset, .unset] []))
        refine own_st (fun zw zk => XS.iload X42.here hx rfl (hb hby d1_38) rfl zk) ?_
        obtain ⟨T43, h43, k43, X43, e43, E43, A43, st43⟩ := newP X42 hx hZ (hw _ (List.mem_of_getElem? (i := 5) rfl)) e42 (g := (mkF m 40 #[.val (.int f0), .val (.long x0), .second, .val (.int f1), .val (.long x1), .second, .val (.int f2), .val (.long x2), .second, .val (.int (2 : Int32)), .val (.ref b42), .unset, .unset] [(.int (2 : Int32))])) rfl (hb hby d1_40) rfl (by decide) (cap := 2) (by decide) (by decide) (by decide) (by decide)
        obtain ⟨b43, g43⟩ : ∃ z, z = h42.size := ⟨_, rfl⟩
        rw [← g43] at A43 st43
        have G43 : n0 ≤ b43 := Nat.le_trans Z42 (Nat.le_of_eq g43.symm)
        have ne_b42_b43 : b42 ≠ b43 := Nat.ne_of_lt (Nat.lt_of_lt_of_le V42.lt (Nat.le_of_eq g43.symm))
        have Vb42_43 := V42.ext E43
        have Z43 : n0 ≤ h43.size := Nat.le_trans Z42 E43.1
        have sz43 : h0.size ≤ b43 := Nat.le_trans Kp42.1 (Nat.le_of_eq g43.symm)
        have Kp43 := Kp42.ext E43
        have V43 : own_L Z h43 b43 .long ([(.long (0 : Int64)), (.long (0 : Int64))]) := own_L.new A43
        refine own_st (fun zw zk => st43 zw zk) ?_
        refine own_st (fun zw zk => XS.astore X43.here hx rfl (hb hby d1_42) rfl rfl rfl zk) ?_
        show own_Go p e below G (T43.setTop (mkF m 44 #[.val (.int f0), .val (.long x0), .second, .val (.int f1), .val (.long x1), .second, .val (.int f2), .val (.long x2), .second, .val (.int (2 : Int32)), .val (.ref b42), .val (.ref b43), .unset] []))
        refine own_st (fun zw zk => XS.iconst X43.here hx rfl (hb hby d1_44) zk) ?_
        refine own_st (fun zw zk => XS.istore X43.here hx rfl (hb hby d1_45) rfl rfl zk) ?_
        show own_Go p e below G (T43.setTop (mkF m 47 #[.val (.int f0), .val (.long x0), .second, .val (.int f1), .val (.long x1), .second, .val (.int f2), .val (.long x2), .second, .val (.int (2 : Int32)), .val (.ref b42), .val (.ref b43), .val (.int (0 : Int32))] []))
        refine own_st (fun zw zk => XS.iloadN X43.here hx rfl (hb hby d1_47) rfl zk) ?_
        refine own_st (fun zw zk => XS.ifNo X43.here hx rfl (hb hby d1_48) rfl ((if0 _ _).trans (feq hc1).1) zk) ?_
        refine own_st (fun zw zk => XS.aload X43.here hx rfl (hb hby d1_51) rfl rfl zk) ?_
        refine own_st (fun zw zk => XS.iload X43.here hx rfl (hb hby d1_53) rfl zk) ?_
        refine own_st (fun zw zk => X43.ldcInt hx hown (mvT hZ (hw _ (List.mem_of_getElem? (i := 24) rfl))) (g := (mkF m 55 #[.val (.int f0), .val (.long x0), .second, .val (.int f1), .val (.long x1), .second, .val (.int f2), .val (.long x2), .second, .val (.int (2 : Int32)), .val (.ref b42), .val (.ref b43), .val (.int (0 : Int32))] [(.int (0 : Int32)), (.ref b42)])) rfl (hb hby d1_55) _ zk) ?_
        obtain ⟨T44, h44, X44, e44, W44, V44, st44⟩ := own_ist X43 hx hZ e43 Vb42_43 (j := (0 : Int32)) (0) (by decide) (by decide) (Nat.le_of_ble_eq_true rfl) (g := (mkF m 57 #[.val (.int f0), .val (.long x0), .second, .val (.int f1), .val (.long x1), .second, .val (.int f2), .val (.long x2), .second, .val (.int (2 : Int32)), .val (.ref b42), .val (.ref b43), .val (.int (0 : Int32))] [(.int (-2147483648 : Int32)), (.int (0 : Int32)), (.ref b42)])) rfl rfl (hb hby d1_57)
        have Vb42_44 : own_L Z h44 b42 .int ([(.int (-2147483648 : Int32)), (.int (0 : Int32))]) := V44
        have N44 := Fr.snoc X44 N0 G42
        refine own_st (fun zw zk => st44 zw zk) ?_
        have Vb43_44 := V43.other W44 (Ne.symm ne_b42_b43)
        have Z44 : n0 ≤ h44.size := Nat.le_trans Z43 (Keep.of_wr W44).1
        have Kp44 := Kp43.wr W44 (Or.inr sz42)
        refine own_st (fun zw zk => XS.aload X44.here hx rfl (hb hby d1_58) rfl rfl zk) ?_
        refine own_st (fun zw zk => XS.iload X44.here hx rfl (hb hby d1_60) rfl zk) ?_
        show own_Go p e below G (T44.setTop (mkF m 62 #[.val (.int f0), .val (.long x0), .second, .val (.int f1), .val (.long x1), .second, .val (.int f2), .val (.long x2), .second, .val (.int (2 : Int32)), .val (.ref b42), .val (.ref b43), .val (.int (0 : Int32))] [(.int (0 : Int32)), (.ref b43)]))
        refine own_st (fun zw zk => XS.lloadN X44.here hx rfl (hb hby d1_62) rfl zk) ?_
        obtain ⟨T45, h45, X45, e45, W45, V45, st45⟩ := own_jst X44 hx hZ e44 Vb43_44 (j := (0 : Int32)) (0) (by decide) (by decide) (Nat.le_of_ble_eq_true rfl) (g := (mkF m 63 #[.val (.int f0), .val (.long x0), .second, .val (.int f1), .val (.long x1), .second, .val (.int f2), .val (.long x2), .second, .val (.int (2 : Int32)), .val (.ref b42), .val (.ref b43), .val (.int (0 : Int32))] [(.long x0), (.int (0 : Int32)), (.ref b43)])) rfl rfl (hb hby d1_63)
        have Vb43_45 : own_L Z h45 b43 .long ([(.long x0), (.long (0 : Int64))]) := V45
        have N45 := Fr.snoc X45 N44 G43
        refine own_st (fun zw zk => st45 zw zk) ?_
        have Vb42_45 := Vb42_44.other W45 ne_b42_b43
        have Z45 : n0 ≤ h45.size := Nat.le_trans Z44 (Keep.of_wr W45).1
        have Kp45 := Kp44.wr W45 (Or.inr sz43)
        refine own_st (fun zw zk => XS.iinc X45.here hx rfl (hb hby d1_64) rfl rfl zk) ?_
        show own_Go p e below G (T45.setTop (mkF m 67 #[.val (.int f0), .val (.long x0), .second, .val (.int f1), .val (.long x1), .second, .val (.int f2), .val (.long x2), .second, .val (.int (2 : Int32)), .val (.ref b42), .val (.ref b43), .val (.int (1 : Int32))] []))
        refine own_st (fun zw zk => XS.iloadN X45.here hx rfl (hb hby d1_67) rfl zk) ?_
        refine own_st (fun zw zk => XS.ifNo X45.here hx rfl (hb hby d1_68) rfl ((if0 _ _).trans (feq hc10).1) zk) ?_
        refine own_st (fun zw zk => XS.aload X45.here hx rfl (hb hby d1_71) rfl rfl zk) ?_
        refine own_st (fun zw zk => XS.iload X45.here hx rfl (hb hby d1_73) rfl zk) ?_
        refine own_st (fun zw zk => XS.iconst X45.here hx rfl (hb hby d1_75) zk) ?_
        obtain ⟨T46, h46, X46, e46, W46, V46, st46⟩ := own_ist X45 hx hZ e45 Vb42_45 (j := (1 : Int32)) (1) (by decide) (by decide) (Nat.le_of_ble_eq_true rfl) (g := (mkF m 76 #[.val (.int f0), .val (.long x0), .second, .val (.int f1), .val (.long x1), .second, .val (.int f2), .val (.long x2), .second, .val (.int (2 : Int32)), .val (.ref b42), .val (.ref b43), .val (.int (1 : Int32))] [(.int (0 : Int32)), (.int (1 : Int32)), (.ref b42)])) rfl rfl (hb hby d1_76)
        have Vb42_46 : own_L Z h46 b42 .int ([(.int (-2147483648 : Int32)), (.int (0 : Int32))]) := V46
        have N46 := Fr.snoc X46 N45 G42
        refine own_st (fun zw zk => st46 zw zk) ?_
        have Vb43_46 := Vb43_45.other W46 (Ne.symm ne_b42_b43)
        have Z46 : n0 ≤ h46.size := Nat.le_trans Z45 (Keep.of_wr W46).1
        have Kp46 := Kp45.wr W46 (Or.inr sz42)
        refine own_st (fun zw zk => XS.aload X46.here hx rfl (hb hby d1_77) rfl rfl zk) ?_
        refine own_st (fun zw zk => XS.iload X46.here hx rfl (hb hby d1_79) rfl zk) ?_
        show own_Go p e below G (T46.setTop (mkF m 81 #[.val (.int f0), .val (.long x0), .second, .val (.int f1), .val (.long x1), .second, .val (.int f2), .val (.long x2), .second, .val (.int (2 : Int32)), .val (.ref b42), .val (.ref b43), .val (.int (1 : Int32))] [(.int (1 : Int32)), (.ref b43)]))
        refine own_st (fun zw zk => XS.lload X46.here hx rfl (hb hby d1_81) rfl zk) ?_
        obtain ⟨T47, h47, X47, e47, W47, V47, st47⟩ := own_jst X46 hx hZ e46 Vb43_46 (j := (1 : Int32)) (1) (by decide) (by decide) (Nat.le_of_ble_eq_true rfl) (g := (mkF m 83 #[.val (.int f0), .val (.long x0), .second, .val (.int f1), .val (.long x1), .second, .val (.int f2), .val (.long x2), .second, .val (.int (2 : Int32)), .val (.ref b42), .val (.ref b43), .val (.int (1 : Int32))] [(.long x1), (.int (1 : Int32)), (.ref b43)])) rfl rfl (hb hby d1_83)
        have Vb43_47 : own_L Z h47 b43 .long ([(.long x0), (.long x1)]) := V47
        have N47 := Fr.snoc X47 N46 G43
        refine own_st (fun zw zk => st47 zw zk) ?_
        have Vb42_47 := Vb42_46.other W47 ne_b42_b43
        have Z47 : n0 ≤ h47.size := Nat.le_trans Z46 (Keep.of_wr W47).1
        have Kp47 := Kp46.wr W47 (Or.inr sz43)
        refine own_st (fun zw zk => XS.iinc X47.here hx rfl (hb hby d1_84) rfl rfl zk) ?_
        show own_Go p e below G (T47.setTop (mkF m 87 #[.val (.int f0), .val (.long x0), .second, .val (.int f1), .val (.long x1), .second, .val (.int f2), .val (.long x2), .second, .val (.int (2 : Int32)), .val (.ref b42), .val (.ref b43), .val (.int (2 : Int32))] []))
        refine own_st (fun zw zk => XS.iload X47.here hx rfl (hb hby d1_87) rfl zk) ?_
        refine own_st (fun zw zk => XS.ifYes X47.here hx rfl (pc0 := 89) (pc' := 109) rfl (hb hby d1_89) rfl ((if0 _ _).trans (teq hc21).1) (by decide) (by decide) zk) ?_
        obtain ⟨T48, h48, X48, e48, E48, A48, D48, -, st48⟩ := newO X47 hx hZ hown (hw _ (List.mem_of_getElem? (i := 6) rfl)) (hw _ (List.mem_of_getElem? (i := 7) rfl)) (hw _ (List.mem_of_getElem? (i := 8) rfl)) e47 (g := (mkF m 109 #[.val (.int f0), .val (.long x0), .second, .val (.int f1), .val (.long x1), .second, .val (.int f2), .val (.long x2), .second, .val (.int (2 : Int32)), .val (.ref b42), .val (.ref b43), .val (.int (2 : Int32))] [])) rfl (hb hby d1_109) (by decide) (by decide)
        obtain ⟨b48, g48⟩ : ∃ z, z = h47.size := ⟨_, rfl⟩
        rw [← g48] at A48 D48 st48
        have G48 : n0 ≤ b48 := Nat.le_trans Z47 (Nat.le_of_eq g48.symm)
        have ne_b42_b48 : b42 ≠ b48 := Nat.ne_of_lt (Nat.lt_of_lt_of_le Vb42_47.lt (Nat.le_of_eq g48.symm))
        have ne_b43_b48 : b43 ≠ b48 := Nat.ne_of_lt (Nat.lt_of_lt_of_le Vb43_47.lt (Nat.le_of_eq g48.symm))
        have Vb42_48 := Vb42_47.ext E48
        have Vb43_48 := Vb43_47.ext E48
        have Z48 : n0 ≤ h48.size := Nat.le_trans Z47 E48.1
        have sz48 : h0.size ≤ b48 := Nat.le_trans Kp47.1 (Nat.le_of_eq g48.symm)
        have Kp48 := Kp47.ext E48
        have Fb48indices : Fld Z h48 b48 "com/example/netz/netz/net/SparseVector" "indices" "[I" .null := D48 (Or.inr (hw _ (List.mem_of_getElem? (i := 16) rfl))) (ty := (.array .int)) (by decide)
        have Fb48values : Fld Z h48 b48 "com/example/netz/netz/net/SparseVector" "values" "[J" .null := D48 (Or.inr (hw _ (List.mem_of_getElem? (i := 18) rfl))) (ty := (.array .long)) (by decide)
        refine own_st (fun zw zk => st48 zw zk) ?_
        refine own_st (fun zw zk => XS.dup X48.here hx rfl (hb hby d1_112) rfl rfl zk) ?_
        refine own_st (fun zw zk => XS.aload X48.here hx rfl (hb hby d1_113) rfl rfl zk) ?_
        refine own_st (fun zw zk => XS.aload X48.here hx rfl (hb hby d1_115) rfl rfl zk) ?_
        obtain ⟨_, _, ⟨T49, L49, k49, n49⟩, -, X49, ⟨Lc49, hQ49, l49, y49, z49⟩, st49⟩ := X48.specialBack hx (y := (⟨"com/example/netz/netz/net/SparseVector", "<init>", "([I[J)V"⟩ : MethodName)) rfl hown (mvT hZ (hw _ (List.mem_of_getElem? (i := 9) rfl))) (mvT hZ (hw _ (List.mem_of_getElem? (i := 10) rfl))) (mvT hZ (hw _ (List.mem_of_getElem? (i := 11) rfl))) (by decide) (backOf (W := 1) (rm2 l Z a0 hw [] b48 b42 b43 h48 n0 Z48 (A48) (Fb48indices) (Fb48values) (G48)) hZ (hw _ (List.mem_of_getElem? (i := 11) rfl)) (hw _ (List.mem_of_getElem? (i := 8) rfl)) (by decide) (by decide)) (g := (mkF m 117 #[.val (.int f0), .val (.long x0), .second, .val (.int f1), .val (.long x1), .second, .val (.int f2), .val (.long x2), .second, .val (.int (2 : Int32)), .val (.ref b42), .val (.ref b43), .val (.int (2 : Int32))] [(.ref b43), (.ref b42), (.ref b48), (.ref b48)])) rfl (by rw [hml]; rfl) (Steps.refl _) (a := b48) (argsL := [(.ref b42), (.ref b43)]) (rest := [(.ref b48)]) (lenOf pd_0 rfl) rfl (by show 2 * 0 + _ ≤ _; exact Nat.le_of_eq rfl) (hb hby d1_117) (fun _ _ => ⟨rfl, e48, (by decide : 3 + 0 ≤ _), (by decide : 6 + 0 ≤ _)⟩)
        dsimp only [Pt.U, Pt.locs, Pt.cells, Pt.slots] at X49 l49 y49 z49 st49 hQ49
        subst l49 y49 z49
        obtain ⟨rfl, N49q, K49, O49_0, O49_1, O49_2⟩ := hQ49
        have Vb42_49 := Vb42_48.keep K49 (ninS ne_b42_b48 nin0)
        have Vb43_49 := Vb43_48.keep K49 (ninS ne_b43_b48 nin0)
        have Ab48_49 := A48.keep K49
        have Z49 : n0 ≤ T49.heap.size := Nat.le_trans Z48 K49.1
        have Kp49 := Kp48.trans K49 (allS (Or.inr sz48) all0)
        have N49 := Fr.app N47 N49q
        refine own_jp st49 ?_
        subst hG
        obtain ⟨fs, hr, hrun, hended, hW, hsame⟩ := X49.leave (v := some (.ref b48)) (hlocks := Bd.notSynchronized) (fun h => by rw [Bd.returns] at h; cases h)
        refine ⟨_, X49.areturnOut hx rfl Bd.returns rfl (hb hby d1_120) hr, _, hrun, hended, _, _, rfl, ?_, ⟨_, rfl⟩, hW, hsame.mono (by decide) (by decide)⟩
        show Q1 Z f0 x0 f1 x1 f2 x2 h0 n0 _ T49.heap _
        exact ⟨b48, rfl, N49, sz48, b42, b43, Kp49, O49_0, O49_1, O49_2, (by unfold own_bp; rw [if_neg hc1, if_neg hc10, if_pos hc21]; exact Vb42_49), (by unfold own_bp; rw [if_neg hc1, if_neg hc10, if_pos hc21]; exact Vb43_49)⟩
      · refine own_st (fun zw zk => XS.ifNo X0.here hx rfl (hb hby d1_21) rfl ((if0 _ _).trans (feq hc21).1) zk) ?_
        refine own_st (fun zw zk => XS.iconst X0.here hx rfl (hb hby d1_24) zk) ?_
        refine own_st (fun zw zk => XS.goto X0.here hx rfl (pc0 := 25) (pc' := 29) rfl (hb hby d1_25) (by decide) (by decide) zk) ?_
        show own_Go p e below G (s₁.setTop (mkF m 29 #[.val (.int f0), .val (.long x0), .second, .val (.int f1), .val (.long x1), .second, .val (.int f2), .val (.long x2), .second, .unset, .unset, .unset, .unset] [(.int (1 : Int32)), (.int (2 : Int32))]))
        refine own_st (fun zw zk => XS.iadd X0.here hx rfl (hb hby d1_29) rfl zk) ?_
        refine own_st (fun zw zk => XS.istore X0.here hx rfl (hb hby d1_30) rfl rfl zk) ?_
        show own_Go p e below G (s₁.setTop (mkF m 32 #[.val (.int f0), .val (.long x0), .second, .val (.int f1), .val (.long x1), .second, .val (.int f2), .val (.long x2), .second, .val (.int (3 : Int32)), .unset, .unset, .unset] []))
        refine own_st (fun zw zk => XS.iload X0.here hx rfl (hb hby d1_32) rfl zk) ?_
        obtain ⟨T50, h50, k50, X50, e50, E50, A50, st50⟩ := newP X0 hx hZ (hw _ (List.mem_of_getElem? (i := 4) rfl)) e0 (g := (mkF m 34 #[.val (.int f0), .val (.long x0), .second, .val (.int f1), .val (.long x1), .second, .val (.int f2), .val (.long x2), .second, .val (.int (3 : Int32)), .unset, .unset, .unset] [(.int (3 : Int32))])) rfl (hb hby d1_34) rfl (by decide) (cap := 3) (by decide) (by decide) (by decide) (by decide)
        obtain ⟨b50, g50⟩ : ∃ z, z = h0.size := ⟨_, rfl⟩
        rw [← g50] at A50 st50
        have G50 : n0 ≤ b50 := Nat.le_trans Z0 (Nat.le_of_eq g50.symm)
        have Z50 : n0 ≤ h50.size := Nat.le_trans Z0 E50.1
        have sz50 : h0.size ≤ b50 := Nat.le_trans (Keep.refl h0 []).1 (Nat.le_of_eq g50.symm)
        have Kp50 := (Keep.refl h0 []).ext E50
        have V50 : own_L Z h50 b50 .int ([(.int (0 : Int32)), (.int (0 : Int32)), (.int (0 : Int32))]) := own_L.new A50
        refine own_st (fun zw zk => st50 zw zk) ?_
        refine own_st (fun zw zk => XS.astore X50.here hx rfl (hb hby d1_36) rfl rfl rfl zk) ?_
        show own_Go p e below G (T50.setTop (mkF m 38 #[.val (.int f0), .val (.long x0), .second, .val (.int f1), .val (.long x1), .second, .val (.int f2), .val (.long x2), .second, .val (.int (3 : Int32)), .val (.ref b50), .unset, .unset] []))
        refine own_st (fun zw zk => XS.iload X50.here hx rfl (hb hby d1_38) rfl zk) ?_
        obtain ⟨T51, h51, k51, X51, e51, E51, A51, st51⟩ := newP X50 hx hZ (hw _ (List.mem_of_getElem? (i := 5) rfl)) e50 (g := (mkF m 40 #[.val (.int f0), .val (.long x0), .second, .val (.int f1), .val (.long x1), .second, .val (.int f2), .val (.long x2), .second, .val (.int (3 : Int32)), .val (.ref b50), .unset, .unset] [(.int (3 : Int32))])) rfl (hb hby d1_40) rfl (by decide) (cap := 3) (by decide) (by decide) (by decide) (by decide)
        obtain ⟨b51, g51⟩ : ∃ z, z = h50.size := ⟨_, rfl⟩
        rw [← g51] at A51 st51
        have G51 : n0 ≤ b51 := Nat.le_trans Z50 (Nat.le_of_eq g51.symm)
        have ne_b50_b51 : b50 ≠ b51 := Nat.ne_of_lt (Nat.lt_of_lt_of_le V50.lt (Nat.le_of_eq g51.symm))
        have Vb50_51 := V50.ext E51
        have Z51 : n0 ≤ h51.size := Nat.le_trans Z50 E51.1
        have sz51 : h0.size ≤ b51 := Nat.le_trans Kp50.1 (Nat.le_of_eq g51.symm)
        have Kp51 := Kp50.ext E51
        have V51 : own_L Z h51 b51 .long ([(.long (0 : Int64)), (.long (0 : Int64)), (.long (0 : Int64))]) := own_L.new A51
        refine own_st (fun zw zk => st51 zw zk) ?_
        refine own_st (fun zw zk => XS.astore X51.here hx rfl (hb hby d1_42) rfl rfl rfl zk) ?_
        show own_Go p e below G (T51.setTop (mkF m 44 #[.val (.int f0), .val (.long x0), .second, .val (.int f1), .val (.long x1), .second, .val (.int f2), .val (.long x2), .second, .val (.int (3 : Int32)), .val (.ref b50), .val (.ref b51), .unset] []))
        refine own_st (fun zw zk => XS.iconst X51.here hx rfl (hb hby d1_44) zk) ?_
        refine own_st (fun zw zk => XS.istore X51.here hx rfl (hb hby d1_45) rfl rfl zk) ?_
        show own_Go p e below G (T51.setTop (mkF m 47 #[.val (.int f0), .val (.long x0), .second, .val (.int f1), .val (.long x1), .second, .val (.int f2), .val (.long x2), .second, .val (.int (3 : Int32)), .val (.ref b50), .val (.ref b51), .val (.int (0 : Int32))] []))
        refine own_st (fun zw zk => XS.iloadN X51.here hx rfl (hb hby d1_47) rfl zk) ?_
        refine own_st (fun zw zk => XS.ifNo X51.here hx rfl (hb hby d1_48) rfl ((if0 _ _).trans (feq hc1).1) zk) ?_
        refine own_st (fun zw zk => XS.aload X51.here hx rfl (hb hby d1_51) rfl rfl zk) ?_
        refine own_st (fun zw zk => XS.iload X51.here hx rfl (hb hby d1_53) rfl zk) ?_
        refine own_st (fun zw zk => X51.ldcInt hx hown (mvT hZ (hw _ (List.mem_of_getElem? (i := 24) rfl))) (g := (mkF m 55 #[.val (.int f0), .val (.long x0), .second, .val (.int f1), .val (.long x1), .second, .val (.int f2), .val (.long x2), .second, .val (.int (3 : Int32)), .val (.ref b50), .val (.ref b51), .val (.int (0 : Int32))] [(.int (0 : Int32)), (.ref b50)])) rfl (hb hby d1_55) _ zk) ?_
        obtain ⟨T52, h52, X52, e52, W52, V52, st52⟩ := own_ist X51 hx hZ e51 Vb50_51 (j := (0 : Int32)) (0) (by decide) (by decide) (Nat.le_of_ble_eq_true rfl) (g := (mkF m 57 #[.val (.int f0), .val (.long x0), .second, .val (.int f1), .val (.long x1), .second, .val (.int f2), .val (.long x2), .second, .val (.int (3 : Int32)), .val (.ref b50), .val (.ref b51), .val (.int (0 : Int32))] [(.int (-2147483648 : Int32)), (.int (0 : Int32)), (.ref b50)])) rfl rfl (hb hby d1_57)
        have Vb50_52 : own_L Z h52 b50 .int ([(.int (-2147483648 : Int32)), (.int (0 : Int32)), (.int (0 : Int32))]) := V52
        have N52 := Fr.snoc X52 N0 G50
        refine own_st (fun zw zk => st52 zw zk) ?_
        have Vb51_52 := V51.other W52 (Ne.symm ne_b50_b51)
        have Z52 : n0 ≤ h52.size := Nat.le_trans Z51 (Keep.of_wr W52).1
        have Kp52 := Kp51.wr W52 (Or.inr sz50)
        refine own_st (fun zw zk => XS.aload X52.here hx rfl (hb hby d1_58) rfl rfl zk) ?_
        refine own_st (fun zw zk => XS.iload X52.here hx rfl (hb hby d1_60) rfl zk) ?_
        show own_Go p e below G (T52.setTop (mkF m 62 #[.val (.int f0), .val (.long x0), .second, .val (.int f1), .val (.long x1), .second, .val (.int f2), .val (.long x2), .second, .val (.int (3 : Int32)), .val (.ref b50), .val (.ref b51), .val (.int (0 : Int32))] [(.int (0 : Int32)), (.ref b51)]))
        refine own_st (fun zw zk => XS.lloadN X52.here hx rfl (hb hby d1_62) rfl zk) ?_
        obtain ⟨T53, h53, X53, e53, W53, V53, st53⟩ := own_jst X52 hx hZ e52 Vb51_52 (j := (0 : Int32)) (0) (by decide) (by decide) (Nat.le_of_ble_eq_true rfl) (g := (mkF m 63 #[.val (.int f0), .val (.long x0), .second, .val (.int f1), .val (.long x1), .second, .val (.int f2), .val (.long x2), .second, .val (.int (3 : Int32)), .val (.ref b50), .val (.ref b51), .val (.int (0 : Int32))] [(.long x0), (.int (0 : Int32)), (.ref b51)])) rfl rfl (hb hby d1_63)
        have Vb51_53 : own_L Z h53 b51 .long ([(.long x0), (.long (0 : Int64)), (.long (0 : Int64))]) := V53
        have N53 := Fr.snoc X53 N52 G51
        refine own_st (fun zw zk => st53 zw zk) ?_
        have Vb50_53 := Vb50_52.other W53 ne_b50_b51
        have Z53 : n0 ≤ h53.size := Nat.le_trans Z52 (Keep.of_wr W53).1
        have Kp53 := Kp52.wr W53 (Or.inr sz51)
        refine own_st (fun zw zk => XS.iinc X53.here hx rfl (hb hby d1_64) rfl rfl zk) ?_
        show own_Go p e below G (T53.setTop (mkF m 67 #[.val (.int f0), .val (.long x0), .second, .val (.int f1), .val (.long x1), .second, .val (.int f2), .val (.long x2), .second, .val (.int (3 : Int32)), .val (.ref b50), .val (.ref b51), .val (.int (1 : Int32))] []))
        refine own_st (fun zw zk => XS.iloadN X53.here hx rfl (hb hby d1_67) rfl zk) ?_
        refine own_st (fun zw zk => XS.ifNo X53.here hx rfl (hb hby d1_68) rfl ((if0 _ _).trans (feq hc10).1) zk) ?_
        refine own_st (fun zw zk => XS.aload X53.here hx rfl (hb hby d1_71) rfl rfl zk) ?_
        refine own_st (fun zw zk => XS.iload X53.here hx rfl (hb hby d1_73) rfl zk) ?_
        refine own_st (fun zw zk => XS.iconst X53.here hx rfl (hb hby d1_75) zk) ?_
        obtain ⟨T54, h54, X54, e54, W54, V54, st54⟩ := own_ist X53 hx hZ e53 Vb50_53 (j := (1 : Int32)) (1) (by decide) (by decide) (Nat.le_of_ble_eq_true rfl) (g := (mkF m 76 #[.val (.int f0), .val (.long x0), .second, .val (.int f1), .val (.long x1), .second, .val (.int f2), .val (.long x2), .second, .val (.int (3 : Int32)), .val (.ref b50), .val (.ref b51), .val (.int (1 : Int32))] [(.int (0 : Int32)), (.int (1 : Int32)), (.ref b50)])) rfl rfl (hb hby d1_76)
        have Vb50_54 : own_L Z h54 b50 .int ([(.int (-2147483648 : Int32)), (.int (0 : Int32)), (.int (0 : Int32))]) := V54
        have N54 := Fr.snoc X54 N53 G50
        refine own_st (fun zw zk => st54 zw zk) ?_
        have Vb51_54 := Vb51_53.other W54 (Ne.symm ne_b50_b51)
        have Z54 : n0 ≤ h54.size := Nat.le_trans Z53 (Keep.of_wr W54).1
        have Kp54 := Kp53.wr W54 (Or.inr sz50)
        refine own_st (fun zw zk => XS.aload X54.here hx rfl (hb hby d1_77) rfl rfl zk) ?_
        refine own_st (fun zw zk => XS.iload X54.here hx rfl (hb hby d1_79) rfl zk) ?_
        show own_Go p e below G (T54.setTop (mkF m 81 #[.val (.int f0), .val (.long x0), .second, .val (.int f1), .val (.long x1), .second, .val (.int f2), .val (.long x2), .second, .val (.int (3 : Int32)), .val (.ref b50), .val (.ref b51), .val (.int (1 : Int32))] [(.int (1 : Int32)), (.ref b51)]))
        refine own_st (fun zw zk => XS.lload X54.here hx rfl (hb hby d1_81) rfl zk) ?_
        obtain ⟨T55, h55, X55, e55, W55, V55, st55⟩ := own_jst X54 hx hZ e54 Vb51_54 (j := (1 : Int32)) (1) (by decide) (by decide) (Nat.le_of_ble_eq_true rfl) (g := (mkF m 83 #[.val (.int f0), .val (.long x0), .second, .val (.int f1), .val (.long x1), .second, .val (.int f2), .val (.long x2), .second, .val (.int (3 : Int32)), .val (.ref b50), .val (.ref b51), .val (.int (1 : Int32))] [(.long x1), (.int (1 : Int32)), (.ref b51)])) rfl rfl (hb hby d1_83)
        have Vb51_55 : own_L Z h55 b51 .long ([(.long x0), (.long x1), (.long (0 : Int64))]) := V55
        have N55 := Fr.snoc X55 N54 G51
        refine own_st (fun zw zk => st55 zw zk) ?_
        have Vb50_55 := Vb50_54.other W55 ne_b50_b51
        have Z55 : n0 ≤ h55.size := Nat.le_trans Z54 (Keep.of_wr W55).1
        have Kp55 := Kp54.wr W55 (Or.inr sz51)
        refine own_st (fun zw zk => XS.iinc X55.here hx rfl (hb hby d1_84) rfl rfl zk) ?_
        show own_Go p e below G (T55.setTop (mkF m 87 #[.val (.int f0), .val (.long x0), .second, .val (.int f1), .val (.long x1), .second, .val (.int f2), .val (.long x2), .second, .val (.int (3 : Int32)), .val (.ref b50), .val (.ref b51), .val (.int (2 : Int32))] []))
        refine own_st (fun zw zk => XS.iload X55.here hx rfl (hb hby d1_87) rfl zk) ?_
        refine own_st (fun zw zk => XS.ifNo X55.here hx rfl (hb hby d1_89) rfl ((if0 _ _).trans (feq hc21).1) zk) ?_
        refine own_st (fun zw zk => XS.aload X55.here hx rfl (hb hby d1_92) rfl rfl zk) ?_
        refine own_st (fun zw zk => XS.iload X55.here hx rfl (hb hby d1_94) rfl zk) ?_
        refine own_st (fun zw zk => X55.ldcInt hx hown (mvT hZ (hw _ (List.mem_of_getElem? (i := 25) rfl))) (g := (mkF m 96 #[.val (.int f0), .val (.long x0), .second, .val (.int f1), .val (.long x1), .second, .val (.int f2), .val (.long x2), .second, .val (.int (3 : Int32)), .val (.ref b50), .val (.ref b51), .val (.int (2 : Int32))] [(.int (2 : Int32)), (.ref b50)])) rfl (hb hby d1_96) _ zk) ?_
        obtain ⟨T56, h56, X56, e56, W56, V56, st56⟩ := own_ist X55 hx hZ e55 Vb50_55 (j := (2 : Int32)) (2) (by decide) (by decide) (Nat.le_of_ble_eq_true rfl) (g := (mkF m 98 #[.val (.int f0), .val (.long x0), .second, .val (.int f1), .val (.long x1), .second, .val (.int f2), .val (.long x2), .second, .val (.int (3 : Int32)), .val (.ref b50), .val (.ref b51), .val (.int (2 : Int32))] [(.int (2147483647 : Int32)), (.int (2 : Int32)), (.ref b50)])) rfl rfl (hb hby d1_98)
        have Vb50_56 : own_L Z h56 b50 .int ([(.int (-2147483648 : Int32)), (.int (0 : Int32)), (.int (2147483647 : Int32))]) := V56
        have N56 := Fr.snoc X56 N55 G50
        refine own_st (fun zw zk => st56 zw zk) ?_
        have Vb51_56 := Vb51_55.other W56 (Ne.symm ne_b50_b51)
        have Z56 : n0 ≤ h56.size := Nat.le_trans Z55 (Keep.of_wr W56).1
        have Kp56 := Kp55.wr W56 (Or.inr sz50)
        refine own_st (fun zw zk => XS.aload X56.here hx rfl (hb hby d1_99) rfl rfl zk) ?_
        refine own_st (fun zw zk => XS.iload X56.here hx rfl (hb hby d1_101) rfl zk) ?_
        show own_Go p e below G (T56.setTop (mkF m 103 #[.val (.int f0), .val (.long x0), .second, .val (.int f1), .val (.long x1), .second, .val (.int f2), .val (.long x2), .second, .val (.int (3 : Int32)), .val (.ref b50), .val (.ref b51), .val (.int (2 : Int32))] [(.int (2 : Int32)), (.ref b51)]))
        refine own_st (fun zw zk => XS.lload X56.here hx rfl (hb hby d1_103) rfl zk) ?_
        obtain ⟨T57, h57, X57, e57, W57, V57, st57⟩ := own_jst X56 hx hZ e56 Vb51_56 (j := (2 : Int32)) (2) (by decide) (by decide) (Nat.le_of_ble_eq_true rfl) (g := (mkF m 105 #[.val (.int f0), .val (.long x0), .second, .val (.int f1), .val (.long x1), .second, .val (.int f2), .val (.long x2), .second, .val (.int (3 : Int32)), .val (.ref b50), .val (.ref b51), .val (.int (2 : Int32))] [(.long x2), (.int (2 : Int32)), (.ref b51)])) rfl rfl (hb hby d1_105)
        have Vb51_57 : own_L Z h57 b51 .long ([(.long x0), (.long x1), (.long x2)]) := V57
        have N57 := Fr.snoc X57 N56 G51
        refine own_st (fun zw zk => st57 zw zk) ?_
        have Vb50_57 := Vb50_56.other W57 ne_b50_b51
        have Z57 : n0 ≤ h57.size := Nat.le_trans Z56 (Keep.of_wr W57).1
        have Kp57 := Kp56.wr W57 (Or.inr sz51)
        refine own_st (fun zw zk => XS.iinc X57.here hx rfl (hb hby d1_106) rfl rfl zk) ?_
        show own_Go p e below G (T57.setTop (mkF m 109 #[.val (.int f0), .val (.long x0), .second, .val (.int f1), .val (.long x1), .second, .val (.int f2), .val (.long x2), .second, .val (.int (3 : Int32)), .val (.ref b50), .val (.ref b51), .val (.int (3 : Int32))] []))
        obtain ⟨T58, h58, X58, e58, E58, A58, D58, -, st58⟩ := newO X57 hx hZ hown (hw _ (List.mem_of_getElem? (i := 6) rfl)) (hw _ (List.mem_of_getElem? (i := 7) rfl)) (hw _ (List.mem_of_getElem? (i := 8) rfl)) e57 (g := (mkF m 109 #[.val (.int f0), .val (.long x0), .second, .val (.int f1), .val (.long x1), .second, .val (.int f2), .val (.long x2), .second, .val (.int (3 : Int32)), .val (.ref b50), .val (.ref b51), .val (.int (3 : Int32))] [])) rfl (hb hby d1_109) (by decide) (by decide)
        obtain ⟨b58, g58⟩ : ∃ z, z = h57.size := ⟨_, rfl⟩
        rw [← g58] at A58 D58 st58
        have G58 : n0 ≤ b58 := Nat.le_trans Z57 (Nat.le_of_eq g58.symm)
        have ne_b50_b58 : b50 ≠ b58 := Nat.ne_of_lt (Nat.lt_of_lt_of_le Vb50_57.lt (Nat.le_of_eq g58.symm))
        have ne_b51_b58 : b51 ≠ b58 := Nat.ne_of_lt (Nat.lt_of_lt_of_le Vb51_57.lt (Nat.le_of_eq g58.symm))
        have Vb50_58 := Vb50_57.ext E58
        have Vb51_58 := Vb51_57.ext E58
        have Z58 : n0 ≤ h58.size := Nat.le_trans Z57 E58.1
        have sz58 : h0.size ≤ b58 := Nat.le_trans Kp57.1 (Nat.le_of_eq g58.symm)
        have Kp58 := Kp57.ext E58
        have Fb58indices : Fld Z h58 b58 "com/example/netz/netz/net/SparseVector" "indices" "[I" .null := D58 (Or.inr (hw _ (List.mem_of_getElem? (i := 16) rfl))) (ty := (.array .int)) (by decide)
        have Fb58values : Fld Z h58 b58 "com/example/netz/netz/net/SparseVector" "values" "[J" .null := D58 (Or.inr (hw _ (List.mem_of_getElem? (i := 18) rfl))) (ty := (.array .long)) (by decide)
        refine own_st (fun zw zk => st58 zw zk) ?_
        refine own_st (fun zw zk => XS.dup X58.here hx rfl (hb hby d1_112) rfl rfl zk) ?_
        refine own_st (fun zw zk => XS.aload X58.here hx rfl (hb hby d1_113) rfl rfl zk) ?_
        refine own_st (fun zw zk => XS.aload X58.here hx rfl (hb hby d1_115) rfl rfl zk) ?_
        obtain ⟨_, _, ⟨T59, L59, k59, n59⟩, -, X59, ⟨Lc59, hQ59, l59, y59, z59⟩, st59⟩ := X58.specialBack hx (y := (⟨"com/example/netz/netz/net/SparseVector", "<init>", "([I[J)V"⟩ : MethodName)) rfl hown (mvT hZ (hw _ (List.mem_of_getElem? (i := 9) rfl))) (mvT hZ (hw _ (List.mem_of_getElem? (i := 10) rfl))) (mvT hZ (hw _ (List.mem_of_getElem? (i := 11) rfl))) (by decide) (backOf (W := 1) (rm2 l Z a0 hw [] b58 b50 b51 h58 n0 Z58 (A58) (Fb58indices) (Fb58values) (G58)) hZ (hw _ (List.mem_of_getElem? (i := 11) rfl)) (hw _ (List.mem_of_getElem? (i := 8) rfl)) (by decide) (by decide)) (g := (mkF m 117 #[.val (.int f0), .val (.long x0), .second, .val (.int f1), .val (.long x1), .second, .val (.int f2), .val (.long x2), .second, .val (.int (3 : Int32)), .val (.ref b50), .val (.ref b51), .val (.int (3 : Int32))] [(.ref b51), (.ref b50), (.ref b58), (.ref b58)])) rfl (by rw [hml]; rfl) (Steps.refl _) (a := b58) (argsL := [(.ref b50), (.ref b51)]) (rest := [(.ref b58)]) (lenOf pd_0 rfl) rfl (by show 2 * 0 + _ ≤ _; exact Nat.le_of_eq rfl) (hb hby d1_117) (fun _ _ => ⟨rfl, e58, (by decide : 3 + 0 ≤ _), (by decide : 8 + 0 ≤ _)⟩)
        dsimp only [Pt.U, Pt.locs, Pt.cells, Pt.slots] at X59 l59 y59 z59 st59 hQ59
        subst l59 y59 z59
        obtain ⟨rfl, N59q, K59, O59_0, O59_1, O59_2⟩ := hQ59
        have Vb50_59 := Vb50_58.keep K59 (ninS ne_b50_b58 nin0)
        have Vb51_59 := Vb51_58.keep K59 (ninS ne_b51_b58 nin0)
        have Ab58_59 := A58.keep K59
        have Z59 : n0 ≤ T59.heap.size := Nat.le_trans Z58 K59.1
        have Kp59 := Kp58.trans K59 (allS (Or.inr sz58) all0)
        have N59 := Fr.app N57 N59q
        refine own_jp st59 ?_
        subst hG
        obtain ⟨fs, hr, hrun, hended, hW, hsame⟩ := X59.leave (v := some (.ref b58)) (hlocks := Bd.notSynchronized) (fun h => by rw [Bd.returns] at h; cases h)
        refine ⟨_, X59.areturnOut hx rfl Bd.returns rfl (hb hby d1_120) hr, _, hrun, hended, _, _, rfl, ?_, ⟨_, rfl⟩, hW, hsame.mono (by decide) (by decide)⟩
        show Q1 Z f0 x0 f1 x1 f2 x2 h0 n0 _ T59.heap _
        exact ⟨b58, rfl, N59, sz58, b50, b51, Kp59, O59_0, O59_1, O59_2, (by unfold own_bp; rw [if_neg hc1, if_neg hc10, if_neg hc21]; exact Vb50_59), (by unfold own_bp; rw [if_neg hc1, if_neg hc10, if_neg hc21]; exact Vb51_59)⟩
theorem d4_0 : decode prog_42_method_12_code 0 = .ok (.iconst 0, 1) := by decide +kernel
theorem d4_1 : decode prog_42_method_12_code 1 = .ok (.istore_n 2, 1) := by decide +kernel
theorem d4_2 : decode prog_42_method_12_code 2 = .ok (.iconst 0, 1) := by decide +kernel
theorem d4_3 : decode prog_42_method_12_code 3 = .ok (.istore_n 3, 1) := by decide +kernel
theorem d4_4 : decode prog_42_method_12_code 4 = .ok (.iload_n 2, 1) := by decide +kernel
theorem d4_5 : decode prog_42_method_12_code 5 = .ok (.aload_n 0, 1) := by decide +kernel
theorem d4_6 : decode prog_42_method_12_code 6 = .ok (.getfield 7, 3) := by decide +kernel
theorem d4_9 : decode prog_42_method_12_code 9 = .ok (.arraylength, 1) := by decide +kernel
theorem d4_10 : decode prog_42_method_12_code 10 = .ok (.if_icmp .lt 12, 3) := by decide +kernel
theorem d4_13 : decode prog_42_method_12_code 13 = .ok (.iload_n 3, 1) := by decide +kernel
theorem d4_14 : decode prog_42_method_12_code 14 = .ok (.aload_n 1, 1) := by decide +kernel
theorem d4_15 : decode prog_42_method_12_code 15 = .ok (.getfield 7, 3) := by decide +kernel
theorem d4_18 : decode prog_42_method_12_code 18 = .ok (.arraylength, 1) := by decide +kernel
theorem d4_19 : decode prog_42_method_12_code 19 = .ok (.if_icmp .ge 116, 3) := by decide +kernel
theorem d4_22 : decode prog_42_method_12_code 22 = .ok (.iload_n 3, 1) := by decide +kernel
theorem d4_23 : decode prog_42_method_12_code 23 = .ok (.aload_n 1, 1) := by decide +kernel
theorem d4_24 : decode prog_42_method_12_code 24 = .ok (.getfield 7, 3) := by decide +kernel
theorem d4_27 : decode prog_42_method_12_code 27 = .ok (.arraylength, 1) := by decide +kernel
theorem d4_28 : decode prog_42_method_12_code 28 = .ok (.if_icmp .eq 27, 3) := by decide +kernel
theorem d4_31 : decode prog_42_method_12_code 31 = .ok (.iload_n 2, 1) := by decide +kernel
theorem d4_32 : decode prog_42_method_12_code 32 = .ok (.aload_n 0, 1) := by decide +kernel
theorem d4_33 : decode prog_42_method_12_code 33 = .ok (.getfield 7, 3) := by decide +kernel
theorem d4_36 : decode prog_42_method_12_code 36 = .ok (.arraylength, 1) := by decide +kernel
theorem d4_37 : decode prog_42_method_12_code 37 = .ok (.if_icmp .ge 34, 3) := by decide +kernel
theorem d4_40 : decode prog_42_method_12_code 40 = .ok (.aload_n 0, 1) := by decide +kernel
theorem d4_41 : decode prog_42_method_12_code 41 = .ok (.getfield 7, 3) := by decide +kernel
theorem d4_44 : decode prog_42_method_12_code 44 = .ok (.iload_n 2, 1) := by decide +kernel
theorem d4_45 : decode prog_42_method_12_code 45 = .ok (.iaload, 1) := by decide +kernel
theorem d4_46 : decode prog_42_method_12_code 46 = .ok (.aload_n 1, 1) := by decide +kernel
theorem d4_47 : decode prog_42_method_12_code 47 = .ok (.getfield 7, 3) := by decide +kernel
theorem d4_50 : decode prog_42_method_12_code 50 = .ok (.iload_n 3, 1) := by decide +kernel
theorem d4_51 : decode prog_42_method_12_code 51 = .ok (.iaload, 1) := by decide +kernel
theorem d4_52 : decode prog_42_method_12_code 52 = .ok (.if_icmp .ge 19, 3) := by decide +kernel
theorem d4_55 : decode prog_42_method_12_code 55 = .ok (.aload_n 0, 1) := by decide +kernel
theorem d4_56 : decode prog_42_method_12_code 56 = .ok (.getfield 13, 3) := by decide +kernel
theorem d4_59 : decode prog_42_method_12_code 59 = .ok (.iload_n 2, 1) := by decide +kernel
theorem d4_60 : decode prog_42_method_12_code 60 = .ok (.iinc 2 1, 3) := by decide +kernel
theorem d4_63 : decode prog_42_method_12_code 63 = .ok (.laload, 1) := by decide +kernel
theorem d4_64 : decode prog_42_method_12_code 64 = .ok (.lconst 0, 1) := by decide +kernel
theorem d4_65 : decode prog_42_method_12_code 65 = .ok (.lcmp, 1) := by decide +kernel
theorem d4_66 : decode prog_42_method_12_code 66 = .ok (.ifCond .ge (-62), 3) := by decide +kernel
theorem d4_69 : decode prog_42_method_12_code 69 = .ok (.iconst 0, 1) := by decide +kernel
theorem d4_70 : decode prog_42_method_12_code 70 = .ok (.ireturn, 1) := by decide +kernel
theorem d4_71 : decode prog_42_method_12_code 71 = .ok (.iload_n 2, 1) := by decide +kernel
theorem d4_72 : decode prog_42_method_12_code 72 = .ok (.aload_n 0, 1) := by decide +kernel
theorem d4_73 : decode prog_42_method_12_code 73 = .ok (.getfield 7, 3) := by decide +kernel
theorem d4_76 : decode prog_42_method_12_code 76 = .ok (.arraylength, 1) := by decide +kernel
theorem d4_77 : decode prog_42_method_12_code 77 = .ok (.if_icmp .eq 18, 3) := by decide +kernel
theorem d4_80 : decode prog_42_method_12_code 80 = .ok (.aload_n 1, 1) := by decide +kernel
theorem d4_81 : decode prog_42_method_12_code 81 = .ok (.getfield 7, 3) := by decide +kernel
theorem d4_84 : decode prog_42_method_12_code 84 = .ok (.iload_n 3, 1) := by decide +kernel
theorem d4_85 : decode prog_42_method_12_code 85 = .ok (.iaload, 1) := by decide +kernel
theorem d4_86 : decode prog_42_method_12_code 86 = .ok (.aload_n 0, 1) := by decide +kernel
theorem d4_87 : decode prog_42_method_12_code 87 = .ok (.getfield 7, 3) := by decide +kernel
theorem d4_90 : decode prog_42_method_12_code 90 = .ok (.iload_n 2, 1) := by decide +kernel
theorem d4_91 : decode prog_42_method_12_code 91 = .ok (.iaload, 1) := by decide +kernel
theorem d4_92 : decode prog_42_method_12_code 92 = .ok (.if_icmp .ge 19, 3) := by decide +kernel
theorem d4_95 : decode prog_42_method_12_code 95 = .ok (.aload_n 1, 1) := by decide +kernel
theorem d4_96 : decode prog_42_method_12_code 96 = .ok (.getfield 13, 3) := by decide +kernel
theorem d4_99 : decode prog_42_method_12_code 99 = .ok (.iload_n 3, 1) := by decide +kernel
theorem d4_100 : decode prog_42_method_12_code 100 = .ok (.iinc 3 1, 3) := by decide +kernel
theorem d4_103 : decode prog_42_method_12_code 103 = .ok (.laload, 1) := by decide +kernel
theorem d4_104 : decode prog_42_method_12_code 104 = .ok (.lconst 0, 1) := by decide +kernel
theorem d4_105 : decode prog_42_method_12_code 105 = .ok (.lcmp, 1) := by decide +kernel
theorem d4_106 : decode prog_42_method_12_code 106 = .ok (.ifCond .le (-102), 3) := by decide +kernel
theorem d4_109 : decode prog_42_method_12_code 109 = .ok (.iconst 0, 1) := by decide +kernel
theorem d4_110 : decode prog_42_method_12_code 110 = .ok (.ireturn, 1) := by decide +kernel
theorem d4_111 : decode prog_42_method_12_code 111 = .ok (.aload_n 0, 1) := by decide +kernel
theorem d4_112 : decode prog_42_method_12_code 112 = .ok (.getfield 13, 3) := by decide +kernel
theorem d4_115 : decode prog_42_method_12_code 115 = .ok (.iload_n 2, 1) := by decide +kernel
theorem d4_116 : decode prog_42_method_12_code 116 = .ok (.iinc 2 1, 3) := by decide +kernel
theorem d4_119 : decode prog_42_method_12_code 119 = .ok (.laload, 1) := by decide +kernel
theorem d4_120 : decode prog_42_method_12_code 120 = .ok (.aload_n 1, 1) := by decide +kernel
theorem d4_121 : decode prog_42_method_12_code 121 = .ok (.getfield 13, 3) := by decide +kernel
theorem d4_124 : decode prog_42_method_12_code 124 = .ok (.iload_n 3, 1) := by decide +kernel
theorem d4_125 : decode prog_42_method_12_code 125 = .ok (.iinc 3 1, 3) := by decide +kernel
theorem d4_128 : decode prog_42_method_12_code 128 = .ok (.laload, 1) := by decide +kernel
theorem d4_129 : decode prog_42_method_12_code 129 = .ok (.lcmp, 1) := by decide +kernel
theorem d4_130 : decode prog_42_method_12_code 130 = .ok (.ifCond .ge (-126), 3) := by decide +kernel
theorem d4_133 : decode prog_42_method_12_code 133 = .ok (.iconst 0, 1) := by decide +kernel
theorem d4_134 : decode prog_42_method_12_code 134 = .ok (.ireturn, 1) := by decide +kernel
theorem d4_135 : decode prog_42_method_12_code 135 = .ok (.iconst 1, 1) := by decide +kernel
theorem d4_136 : decode prog_42_method_12_code 136 = .ok (.ireturn, 1) := by decide +kernel
theorem ef_rm4 (m : MethodId) (d : Addr) (oo : Addr) : entryFrame m #[(.ref d), (.ref oo)] 4 = mkF m 0 #[.val (.ref d), .val (.ref oo), .unset, .unset] [] := by first | (simp [entryFrame, mkF, argsToLocals, Value.category]; done) | rfl
def Q4 (Z : State) (d : Addr) (oo : Addr) (ti : Addr) (tv : Addr) (ui : Addr) (uv : Addr) (xs : own_Ps) (ys : own_Ps) (nx : Int32) (ny : Int32) (h0 : Heap) (n0 : Nat) (rv : Option Value) (hq : Heap) (Lq : List Loc) : Prop := rv = some (.int (own_al xs ys)) ∧ Fr n0 Lq ∧ hq = h0
set_option maxRecDepth 65536 in
set_option maxHeartbeats 40000000 in
theorem rm4 (l : Launch) (Z : State) (a0 : Array Value) (hw : ∀ d ∈ tables_1, d.before a0 Z = true) (ws : List Jvm.Cond) (d : Addr) (oo : Addr) (ti : Addr) (tv : Addr) (ui : Addr) (uv : Addr) (xs : own_Ps) (ys : own_Ps) (nx : Int32) (ny : Int32) (h0 : Heap) (n0 : Nat) (Z0 : n0 ≤ h0.size) (F0_ : Fld Z h0 d "com/example/netz/netz/net/SparseVector" "indices" "[I" (.ref ti)) (F1_ : Fld Z h0 d "com/example/netz/netz/net/SparseVector" "values" "[J" (.ref tv)) (F2_ : Fld Z h0 oo "com/example/netz/netz/net/SparseVector" "indices" "[I" (.ref ui)) (F3_ : Fld Z h0 oo "com/example/netz/netz/net/SparseVector" "values" "[J" (.ref uv)) (F4_ : own_L Z h0 ti .int ((own_pi xs))) (F5_ : own_L Z h0 tv .long ((own_pj xs))) (F6_ : own_L Z h0 ui .int ((own_pi ys))) (F7_ : own_L Z h0 uv .long ((own_pj ys))) (hlx : (own_pi xs).length.toInt32 = nx) (hnx : nx.toInt = xs.length) (hly : (own_pi ys).length.toInt32 = ny) (hny : ny.toInt = ys.length) (hx3 : xs.length ≤ 3) (hy3 : ys.length ≤ 3) :
    MetFree l (⟨"com/example/netz/netz/net/SparseVector", "isAtLeast", "(Lcom/example/netz/netz/net/SparseVector;)Z"⟩ : MethodName) (head1 (Jvm.Cond.code (⟨"com/example/netz/netz/net/SparseVector", "isAtLeast", "(Lcom/example/netz/netz/net/SparseVector;)Z"⟩ : MethodName) prog_42_method_12_code 4 (some .boolean) :: ws) ({ frames := 0, cells := 0, slots := 0, locals := 0 } : Room)) (fun za U => za = #[(.ref d), (.ref oo)] ∧ Z.Warmed39 U.vm ∧ U.heap = h0) (fun _ _ _ _ _ => True) (fun _ U o U' => ∃ rv Lq, o = .returned rv ∧ Q4 Z d oo ti tv ui uv xs ys nx ny h0 n0 rv U'.heap Lq ∧ FrameEnd U o U' Lq ({ frames := 0, cells := 0, slots := 0, locals := 0 } : Room).cells ({ frames := 0, cells := 0, slots := 0, locals := 0 } : Room).slots) := by
  refine MetFree.of_bodySF (plainFor_of_name pn_0) hisR ?_
  intro p e s m args below meth c s₁ Bd hml0 hP hK
  obtain ⟨rfl, hZ, hh⟩ := hP
  have hx := Bd.exec
  have hby := Bd.bytes
  have hml : c.maxLocals = 4 := hml0
  have hown : s.vm.findClass "com/example/netz/netz/net/SparseVector" = some m.cls := findClass_of_methodNamed Bd.named
  have hnm := (name_of_methodNamed Bd.named Bd.method).1
  have X0 : Stand p l e ({ frames := 0, cells := 0, slots := 0, locals := 0 } : Room) s m #[(.ref d), (.ref oo)] below meth c s₁ [] 0 0 := Stand.of_body Bd
  have e0 : s₁.heap = h0 := by rw [← hh, Bd.state]; rfl
  have N0 := Fr.nil n0
  refine own_out (own_nm fun G hG => own_st (fun zt zk => castTop (ef_rm4 m d oo) zk) ?_)
  show own_Go p e below G (s₁.setTop (mkF m 0 #[.val (.ref d), .val (.ref oo), .unset, .unset] []))
  refine own_st (fun zw zk => XS.iconst X0.here hx rfl (hb hby d4_0) zk) ?_
  refine own_st (fun zw zk => XS.istoreN X0.here hx rfl (hb hby d4_1) rfl rfl zk) ?_
  show own_Go p e below G (s₁.setTop (mkF m 2 #[.val (.ref d), .val (.ref oo), .val (.int (0 : Int32)), .unset] []))
  refine own_st (fun zw zk => XS.iconst X0.here hx rfl (hb hby d4_2) zk) ?_
  refine own_st (fun zw zk => XS.istoreN X0.here hx rfl (hb hby d4_3) rfl rfl zk) ?_
  have loop4_60 : ∀ (bk : Nat) (ii : Int32) (jj : Int32) (ni : Nat) (nj : Nat) (Tj60 : State) (Lj60 : List Loc) (Xj60 : Stand p l e ({ frames := 0, cells := 0, slots := 0, locals := 0 } : Room) s m #[(.ref d), (.ref oo)] below meth c Tj60 Lj60 0 0) (ej60 : Tj60.heap = h0) (Nj60 : Fr n0 Lj60) (hi : ii.toInt = ni) (hj : jj.toInt = nj) (hni : ni ≤ xs.length) (hnj : nj ≤ ys.length) (hinv : own_al (xs.drop ni) (ys.drop nj) = own_al xs ys) (hbk : (xs.length - ni) + (ys.length - nj) < bk), own_Go p e below G (Tj60.setTop (mkF m 4 #[.val (.ref d), .val (.ref oo), .val (.int ii), .val (.int jj)] [])) := by
    intro bk
    induction bk with
    | zero =>
      intro ii jj ni nj Tj60 Lj60 Xj60 ej60 Nj60 hi hj hni hnj hinv hbk
      exact absurd hbk (Nat.not_lt_zero _)
    | succ bk ih =>
      intro ii jj ni nj Tj60 Lj60 Xj60 ej60 Nj60 hi hj hni hnj hinv hbk
      show own_Go p e below G (Tj60.setTop (mkF m 4 #[.val (.ref d), .val (.ref oo), .val (.int ii), .val (.int jj)] []))
      refine own_st (fun zw zk => XS.iloadN Xj60.here hx rfl (hb hby d4_4) rfl zk) ?_
      refine own_st (fun zw zk => XS.aloadN Xj60.here hx rfl (hb hby d4_5) rfl rfl zk) ?_
      obtain ⟨T61, X61, e61, st61⟩ := getF Xj60 hx hZ hown (host := "") (Or.inl (hw _ (List.mem_of_getElem? (i := 15) rfl))) Via.refl ej60 F0_ (g := (mkF m 6 #[.val (.ref d), .val (.ref oo), .val (.int ii), .val (.int jj)] [(.ref d), (.int ii)])) rfl rfl (hb hby d4_6)
      refine own_st (fun zw zk => st61 zw zk) ?_
      refine own_st (fun zw zk => own_len X61 hx hZ e61 F4_ (z := nx) (hlx) (g := (mkF m 9 #[.val (.ref d), .val (.ref oo), .val (.int ii), .val (.int jj)] [(.ref ti), (.int ii)])) rfl rfl (hb hby d4_9) _ zk) ?_
      by_cases hc10 : ii < nx
      · refine own_st (fun zw zk => XS.icmpYes X61.here hx rfl (pc0 := 10) (pc' := 22) rfl (hb hby d4_10) rfl (tlt hc10).1 (by decide) (by decide) zk) ?_
        refine own_st (fun zw zk => XS.iloadN X61.here hx rfl (hb hby d4_22) rfl zk) ?_
        refine own_st (fun zw zk => XS.aloadN X61.here hx rfl (hb hby d4_23) rfl rfl zk) ?_
        obtain ⟨T62, X62, e62, st62⟩ := getF X61 hx hZ hown (host := "") (Or.inl (hw _ (List.mem_of_getElem? (i := 15) rfl))) Via.refl e61 F2_ (g := (mkF m 24 #[.val (.ref d), .val (.ref oo), .val (.int ii), .val (.int jj)] [(.ref oo), (.int jj)])) rfl rfl (hb hby d4_24)
        refine own_st (fun zw zk => st62 zw zk) ?_
        show own_Go p e below G (T62.setTop (mkF m 27 #[.val (.ref d), .val (.ref oo), .val (.int ii), .val (.int jj)] [(.ref ui), (.int jj)]))
        refine own_st (fun zw zk => own_len X62 hx hZ e62 F6_ (z := ny) (hly) (g := (mkF m 27 #[.val (.ref d), .val (.ref oo), .val (.int ii), .val (.int jj)] [(.ref ui), (.int jj)])) rfl rfl (hb hby d4_27) _ zk) ?_
        by_cases hc28 : jj = ny
        · refine own_st (fun zw zk => XS.icmpYes X62.here hx rfl (pc0 := 28) (pc' := 55) rfl (hb hby d4_28) rfl (teq hc28).1 (by decide) (by decide) zk) ?_
          obtain ⟨x, hxx, hxd⟩ := own_drop (own_ltn hi hnx hc10)
          refine own_st (fun zw zk => XS.aloadN X62.here hx rfl (hb hby d4_55) rfl rfl zk) ?_
          obtain ⟨T63, X63, e63, st63⟩ := getF X62 hx hZ hown (host := "") (Or.inl (hw _ (List.mem_of_getElem? (i := 17) rfl))) Via.refl e62 F1_ (g := (mkF m 56 #[.val (.ref d), .val (.ref oo), .val (.int ii), .val (.int jj)] [(.ref d)])) rfl rfl (hb hby d4_56)
          refine own_st (fun zw zk => st63 zw zk) ?_
          refine own_st (fun zw zk => XS.iloadN X63.here hx rfl (hb hby d4_59) rfl zk) ?_
          refine own_st (fun zw zk => XS.iinc X63.here hx rfl (hb hby d4_60) rfl rfl zk) ?_
          show own_Go p e below G (T63.setTop (mkF m 63 #[.val (.ref d), .val (.ref oo), .val (.int (ii + (1 : Int32))), .val (.int jj)] [(.int ii), (.ref tv)]))
          refine own_st (fun zw zk => own_jld X63 hx hZ e63 F5_ (j := ii) (v := (.long (x.2))) (i := ni) (own_nn hi) (own_nat hi) (own_pj_at hxx) (g := (mkF m 63 #[.val (.ref d), .val (.ref oo), .val (.int (ii + (1 : Int32))), .val (.int jj)] [(.int ii), (.ref tv)])) rfl rfl (hb hby d4_63) _ zk) ?_
          refine own_st (fun zw zk => XS.lconst X63.here hx rfl (hb hby d4_64) zk) ?_
          refine own_st (fun zw zk => XS.lcmp X63.here hx rfl (hb hby d4_65) rfl zk) ?_
          by_cases hc66 : (x.2) < (0 : Int64)
          · refine own_st (fun zw zk => XS.ifNo X63.here hx rfl (hb hby d4_66) rfl ((if0 _ _).trans (tlt (own_tll hc66)).2.1) zk) ?_
            refine own_st (fun zw zk => XS.iconst X63.here hx rfl (hb hby d4_69) zk) ?_
            subst hG
            obtain ⟨fs, hr, hrun, hended, hW, hsame⟩ := X63.leave (v := some (.int (0 : Int32))) (hlocks := Bd.notSynchronized) (fun h => by rw [Bd.returns] at h; cases h)
            refine ⟨_, retN X63 hx (t := .boolean) Bd.returns (by simp) (hb hby d4_70) hr, _, hrun, hended, _, _, rfl, ?_, ⟨_, rfl⟩, hW, hsame.mono (by decide) (by decide)⟩
            show Q4 Z d oo ti tv ui uv xs ys nx ny h0 n0 _ T63.heap _
            rw [e63]
            exact ⟨by rw [← hinv, hxd, List.drop_eq_nil_of_le (own_geq' hj hny hc28), own_al_xn, if_pos hc66], Nj60, rfl⟩
          · refine own_st (fun zw zk => XS.ifYes X63.here hx rfl (pc0 := 66) (pc' := 4) rfl (hb hby d4_66) rfl ((if0 _ _).trans (flt (own_fll hc66)).2.1) (by decide) (by decide) zk) ?_
            show own_Go p e below G (T63.setTop (mkF m 4 #[.val (.ref d), .val (.ref oo), .val (.int (ii + (1 : Int32))), .val (.int jj)] []))
            exact ih (ii + (1 : Int32)) jj (ni + 1) (nj) _ _ X63 e63 Nj60 (own_up hi (by omega)) (hj) (own_ltn hi hnx hc10) (hnj) (by rw [← hinv, hxd, List.drop_eq_nil_of_le (own_geq' hj hny hc28), own_al_xn, if_neg hc66]) (by have := own_ltn hi hnx hc10; omega)
        · refine own_st (fun zw zk => XS.icmpNo X62.here hx rfl (hb hby d4_28) rfl (feq hc28).1 zk) ?_
          refine own_st (fun zw zk => XS.iloadN X62.here hx rfl (hb hby d4_31) rfl zk) ?_
          refine own_st (fun zw zk => XS.aloadN X62.here hx rfl (hb hby d4_32) rfl rfl zk) ?_
          obtain ⟨T64, X64, e64, st64⟩ := getF X62 hx hZ hown (host := "") (Or.inl (hw _ (List.mem_of_getElem? (i := 15) rfl))) Via.refl e62 F0_ (g := (mkF m 33 #[.val (.ref d), .val (.ref oo), .val (.int ii), .val (.int jj)] [(.ref d), (.int ii)])) rfl rfl (hb hby d4_33)
          refine own_st (fun zw zk => st64 zw zk) ?_
          refine own_st (fun zw zk => own_len X64 hx hZ e64 F4_ (z := nx) (hlx) (g := (mkF m 36 #[.val (.ref d), .val (.ref oo), .val (.int ii), .val (.int jj)] [(.ref ti), (.int ii)])) rfl rfl (hb hby d4_36) _ zk) ?_
          refine own_st (fun zw zk => XS.icmpNo X64.here hx rfl (hb hby d4_37) rfl (tlt hc10).2.1 zk) ?_
          obtain ⟨x, hxx, hxd⟩ := own_drop (own_ltn hi hnx hc10)
          obtain ⟨y, hyy, hyd⟩ := own_drop (own_ltq hj hny hnj hc28)
          refine own_st (fun zw zk => XS.aloadN X64.here hx rfl (hb hby d4_40) rfl rfl zk) ?_
          show own_Go p e below G (T64.setTop (mkF m 41 #[.val (.ref d), .val (.ref oo), .val (.int ii), .val (.int jj)] [(.ref d)]))
          obtain ⟨T65, X65, e65, st65⟩ := getF X64 hx hZ hown (host := "") (Or.inl (hw _ (List.mem_of_getElem? (i := 15) rfl))) Via.refl e64 F0_ (g := (mkF m 41 #[.val (.ref d), .val (.ref oo), .val (.int ii), .val (.int jj)] [(.ref d)])) rfl rfl (hb hby d4_41)
          refine own_st (fun zw zk => st65 zw zk) ?_
          refine own_st (fun zw zk => XS.iloadN X65.here hx rfl (hb hby d4_44) rfl zk) ?_
          refine own_st (fun zw zk => own_ild X65 hx hZ e65 F4_ (j := ii) (v := (.int (x.1))) (i := ni) (own_nn hi) (own_nat hi) (own_pi_at hxx) (g := (mkF m 45 #[.val (.ref d), .val (.ref oo), .val (.int ii), .val (.int jj)] [(.int ii), (.ref ti)])) rfl rfl (hb hby d4_45) _ zk) ?_
          refine own_st (fun zw zk => XS.aloadN X65.here hx rfl (hb hby d4_46) rfl rfl zk) ?_
          obtain ⟨T66, X66, e66, st66⟩ := getF X65 hx hZ hown (host := "") (Or.inl (hw _ (List.mem_of_getElem? (i := 15) rfl))) Via.refl e65 F2_ (g := (mkF m 47 #[.val (.ref d), .val (.ref oo), .val (.int ii), .val (.int jj)] [(.ref oo), (.int (x.1))])) rfl rfl (hb hby d4_47)
          refine own_st (fun zw zk => st66 zw zk) ?_
          refine own_st (fun zw zk => XS.iloadN X66.here hx rfl (hb hby d4_50) rfl zk) ?_
          refine own_st (fun zw zk => own_ild X66 hx hZ e66 F6_ (j := jj) (v := (.int (y.1))) (i := nj) (own_nn hj) (own_nat hj) (own_pi_at hyy) (g := (mkF m 51 #[.val (.ref d), .val (.ref oo), .val (.int ii), .val (.int jj)] [(.int jj), (.ref ui), (.int (x.1))])) rfl rfl (hb hby d4_51) _ zk) ?_
          by_cases hc52 : (x.1) < (y.1)
          · refine own_st (fun zw zk => XS.icmpNo X66.here hx rfl (hb hby d4_52) rfl (tlt hc52).2.1 zk) ?_
            show own_Go p e below G (T66.setTop (mkF m 55 #[.val (.ref d), .val (.ref oo), .val (.int ii), .val (.int jj)] []))
            refine own_st (fun zw zk => XS.aloadN X66.here hx rfl (hb hby d4_55) rfl rfl zk) ?_
            obtain ⟨T67, X67, e67, st67⟩ := getF X66 hx hZ hown (host := "") (Or.inl (hw _ (List.mem_of_getElem? (i := 17) rfl))) Via.refl e66 F1_ (g := (mkF m 56 #[.val (.ref d), .val (.ref oo), .val (.int ii), .val (.int jj)] [(.ref d)])) rfl rfl (hb hby d4_56)
            refine own_st (fun zw zk => st67 zw zk) ?_
            refine own_st (fun zw zk => XS.iloadN X67.here hx rfl (hb hby d4_59) rfl zk) ?_
            refine own_st (fun zw zk => XS.iinc X67.here hx rfl (hb hby d4_60) rfl rfl zk) ?_
            show own_Go p e below G (T67.setTop (mkF m 63 #[.val (.ref d), .val (.ref oo), .val (.int (ii + (1 : Int32))), .val (.int jj)] [(.int ii), (.ref tv)]))
            refine own_st (fun zw zk => own_jld X67 hx hZ e67 F5_ (j := ii) (v := (.long (x.2))) (i := ni) (own_nn hi) (own_nat hi) (own_pj_at hxx) (g := (mkF m 63 #[.val (.ref d), .val (.ref oo), .val (.int (ii + (1 : Int32))), .val (.int jj)] [(.int ii), (.ref tv)])) rfl rfl (hb hby d4_63) _ zk) ?_
            refine own_st (fun zw zk => XS.lconst X67.here hx rfl (hb hby d4_64) zk) ?_
            refine own_st (fun zw zk => XS.lcmp X67.here hx rfl (hb hby d4_65) rfl zk) ?_
            by_cases hc66 : (x.2) < (0 : Int64)
            · refine own_st (fun zw zk => XS.ifNo X67.here hx rfl (hb hby d4_66) rfl ((if0 _ _).trans (tlt (own_tll hc66)).2.1) zk) ?_
              refine own_st (fun zw zk => XS.iconst X67.here hx rfl (hb hby d4_69) zk) ?_
              subst hG
              obtain ⟨fs, hr, hrun, hended, hW, hsame⟩ := X67.leave (v := some (.int (0 : Int32))) (hlocks := Bd.notSynchronized) (fun h => by rw [Bd.returns] at h; cases h)
              refine ⟨_, retN X67 hx (t := .boolean) Bd.returns (by simp) (hb hby d4_70) hr, _, hrun, hended, _, _, rfl, ?_, ⟨_, rfl⟩, hW, hsame.mono (by decide) (by decide)⟩
              show Q4 Z d oo ti tv ui uv xs ys nx ny h0 n0 _ T67.heap _
              rw [e67]
              exact ⟨by rw [← hinv, hxd, hyd, own_al_xy, if_pos hc52, if_pos hc66], Nj60, rfl⟩
            · refine own_st (fun zw zk => XS.ifYes X67.here hx rfl (pc0 := 66) (pc' := 4) rfl (hb hby d4_66) rfl ((if0 _ _).trans (flt (own_fll hc66)).2.1) (by decide) (by decide) zk) ?_
              show own_Go p e below G (T67.setTop (mkF m 4 #[.val (.ref d), .val (.ref oo), .val (.int (ii + (1 : Int32))), .val (.int jj)] []))
              exact ih (ii + (1 : Int32)) jj (ni + 1) (nj) _ _ X67 e67 Nj60 (own_up hi (by omega)) (hj) (own_ltn hi hnx hc10) (hnj) (by rw [← hinv, hxd, hyd, own_al_xy, if_pos hc52, if_neg hc66]) (by have := own_ltn hi hnx hc10; omega)
          · refine own_st (fun zw zk => XS.icmpYes X66.here hx rfl (pc0 := 52) (pc' := 71) rfl (hb hby d4_52) rfl (flt hc52).2.1 (by decide) (by decide) zk) ?_
            show own_Go p e below G (T66.setTop (mkF m 71 #[.val (.ref d), .val (.ref oo), .val (.int ii), .val (.int jj)] []))
            refine own_st (fun zw zk => XS.iloadN X66.here hx rfl (hb hby d4_71) rfl zk) ?_
            refine own_st (fun zw zk => XS.aloadN X66.here hx rfl (hb hby d4_72) rfl rfl zk) ?_
            obtain ⟨T68, X68, e68, st68⟩ := getF X66 hx hZ hown (host := "") (Or.inl (hw _ (List.mem_of_getElem? (i := 15) rfl))) Via.refl e66 F0_ (g := (mkF m 73 #[.val (.ref d), .val (.ref oo), .val (.int ii), .val (.int jj)] [(.ref d), (.int ii)])) rfl rfl (hb hby d4_73)
            refine own_st (fun zw zk => st68 zw zk) ?_
            refine own_st (fun zw zk => own_len X68 hx hZ e68 F4_ (z := nx) (hlx) (g := (mkF m 76 #[.val (.ref d), .val (.ref oo), .val (.int ii), .val (.int jj)] [(.ref ti), (.int ii)])) rfl rfl (hb hby d4_76) _ zk) ?_
            have hc77 : ¬ (ii = nx) := own_neq hi hnx hc10
            refine own_st (fun zw zk => XS.icmpNo X68.here hx rfl (hb hby d4_77) rfl (feq hc77).1 zk) ?_
            refine own_st (fun zw zk => XS.aloadN X68.here hx rfl (hb hby d4_80) rfl rfl zk) ?_
            obtain ⟨T69, X69, e69, st69⟩ := getF X68 hx hZ hown (host := "") (Or.inl (hw _ (List.mem_of_getElem? (i := 15) rfl))) Via.refl e68 F2_ (g := (mkF m 81 #[.val (.ref d), .val (.ref oo), .val (.int ii), .val (.int jj)] [(.ref oo)])) rfl rfl (hb hby d4_81)
            refine own_st (fun zw zk => st69 zw zk) ?_
            refine own_st (fun zw zk => XS.iloadN X69.here hx rfl (hb hby d4_84) rfl zk) ?_
            show own_Go p e below G (T69.setTop (mkF m 85 #[.val (.ref d), .val (.ref oo), .val (.int ii), .val (.int jj)] [(.int jj), (.ref ui)]))
            refine own_st (fun zw zk => own_ild X69 hx hZ e69 F6_ (j := jj) (v := (.int (y.1))) (i := nj) (own_nn hj) (own_nat hj) (own_pi_at hyy) (g := (mkF m 85 #[.val (.ref d), .val (.ref oo), .val (.int ii), .val (.int jj)] [(.int jj), (.ref ui)])) rfl rfl (hb hby d4_85) _ zk) ?_
            refine own_st (fun zw zk => XS.aloadN X69.here hx rfl (hb hby d4_86) rfl rfl zk) ?_
            obtain ⟨T70, X70, e70, st70⟩ := getF X69 hx hZ hown (host := "") (Or.inl (hw _ (List.mem_of_getElem? (i := 15) rfl))) Via.refl e69 F0_ (g := (mkF m 87 #[.val (.ref d), .val (.ref oo), .val (.int ii), .val (.int jj)] [(.ref d), (.int (y.1))])) rfl rfl (hb hby d4_87)
            refine own_st (fun zw zk => st70 zw zk) ?_
            refine own_st (fun zw zk => XS.iloadN X70.here hx rfl (hb hby d4_90) rfl zk) ?_
            refine own_st (fun zw zk => own_ild X70 hx hZ e70 F4_ (j := ii) (v := (.int (x.1))) (i := ni) (own_nn hi) (own_nat hi) (own_pi_at hxx) (g := (mkF m 91 #[.val (.ref d), .val (.ref oo), .val (.int ii), .val (.int jj)] [(.int ii), (.ref ti), (.int (y.1))])) rfl rfl (hb hby d4_91) _ zk) ?_
            by_cases hc92 : (y.1) < (x.1)
            · refine own_st (fun zw zk => XS.icmpNo X70.here hx rfl (hb hby d4_92) rfl (tlt hc92).2.1 zk) ?_
              refine own_st (fun zw zk => XS.aloadN X70.here hx rfl (hb hby d4_95) rfl rfl zk) ?_
              obtain ⟨T71, X71, e71, st71⟩ := getF X70 hx hZ hown (host := "") (Or.inl (hw _ (List.mem_of_getElem? (i := 17) rfl))) Via.refl e70 F3_ (g := (mkF m 96 #[.val (.ref d), .val (.ref oo), .val (.int ii), .val (.int jj)] [(.ref oo)])) rfl rfl (hb hby d4_96)
              refine own_st (fun zw zk => st71 zw zk) ?_
              show own_Go p e below G (T71.setTop (mkF m 99 #[.val (.ref d), .val (.ref oo), .val (.int ii), .val (.int jj)] [(.ref uv)]))
              refine own_st (fun zw zk => XS.iloadN X71.here hx rfl (hb hby d4_99) rfl zk) ?_
              refine own_st (fun zw zk => XS.iinc X71.here hx rfl (hb hby d4_100) rfl rfl zk) ?_
              show own_Go p e below G (T71.setTop (mkF m 103 #[.val (.ref d), .val (.ref oo), .val (.int ii), .val (.int (jj + (1 : Int32)))] [(.int jj), (.ref uv)]))
              refine own_st (fun zw zk => own_jld X71 hx hZ e71 F7_ (j := jj) (v := (.long (y.2))) (i := nj) (own_nn hj) (own_nat hj) (own_pj_at hyy) (g := (mkF m 103 #[.val (.ref d), .val (.ref oo), .val (.int ii), .val (.int (jj + (1 : Int32)))] [(.int jj), (.ref uv)])) rfl rfl (hb hby d4_103) _ zk) ?_
              refine own_st (fun zw zk => XS.lconst X71.here hx rfl (hb hby d4_104) zk) ?_
              refine own_st (fun zw zk => XS.lcmp X71.here hx rfl (hb hby d4_105) rfl zk) ?_
              by_cases hc106 : (0 : Int64) < (y.2)
              · refine own_st (fun zw zk => XS.ifNo X71.here hx rfl (hb hby d4_106) rfl ((if0 _ _).trans (tlt (own_tlg hc106)).2.2.2) zk) ?_
                refine own_st (fun zw zk => XS.iconst X71.here hx rfl (hb hby d4_109) zk) ?_
                subst hG
                obtain ⟨fs, hr, hrun, hended, hW, hsame⟩ := X71.leave (v := some (.int (0 : Int32))) (hlocks := Bd.notSynchronized) (fun h => by rw [Bd.returns] at h; cases h)
                refine ⟨_, retN X71 hx (t := .boolean) Bd.returns (by simp) (hb hby d4_110) hr, _, hrun, hended, _, _, rfl, ?_, ⟨_, rfl⟩, hW, hsame.mono (by decide) (by decide)⟩
                show Q4 Z d oo ti tv ui uv xs ys nx ny h0 n0 _ T71.heap _
                rw [e71]
                exact ⟨by rw [← hinv, hxd, hyd, own_al_xy, if_neg hc52, if_pos hc92, if_pos hc106], Nj60, rfl⟩
              · refine own_st (fun zw zk => XS.ifYes X71.here hx rfl (pc0 := 106) (pc' := 4) rfl (hb hby d4_106) rfl ((if0 _ _).trans (flt (own_flg hc106)).2.2.2) (by decide) (by decide) zk) ?_
                show own_Go p e below G (T71.setTop (mkF m 4 #[.val (.ref d), .val (.ref oo), .val (.int ii), .val (.int (jj + (1 : Int32)))] []))
                exact ih ii (jj + (1 : Int32)) (ni) (nj + 1) _ _ X71 e71 Nj60 (hi) (own_up hj (by omega)) (hni) (own_ltq hj hny hnj hc28) (by rw [← hinv, hxd, hyd, own_al_xy, if_neg hc52, if_pos hc92, if_neg hc106]) (by have := own_ltq hj hny hnj hc28; omega)
            · refine own_st (fun zw zk => XS.icmpYes X70.here hx rfl (pc0 := 92) (pc' := 111) rfl (hb hby d4_92) rfl (flt hc92).2.1 (by decide) (by decide) zk) ?_
              refine own_st (fun zw zk => XS.aloadN X70.here hx rfl (hb hby d4_111) rfl rfl zk) ?_
              obtain ⟨T72, X72, e72, st72⟩ := getF X70 hx hZ hown (host := "") (Or.inl (hw _ (List.mem_of_getElem? (i := 17) rfl))) Via.refl e70 F1_ (g := (mkF m 112 #[.val (.ref d), .val (.ref oo), .val (.int ii), .val (.int jj)] [(.ref d)])) rfl rfl (hb hby d4_112)
              refine own_st (fun zw zk => st72 zw zk) ?_
              show own_Go p e below G (T72.setTop (mkF m 115 #[.val (.ref d), .val (.ref oo), .val (.int ii), .val (.int jj)] [(.ref tv)]))
              refine own_st (fun zw zk => XS.iloadN X72.here hx rfl (hb hby d4_115) rfl zk) ?_
              refine own_st (fun zw zk => XS.iinc X72.here hx rfl (hb hby d4_116) rfl rfl zk) ?_
              show own_Go p e below G (T72.setTop (mkF m 119 #[.val (.ref d), .val (.ref oo), .val (.int (ii + (1 : Int32))), .val (.int jj)] [(.int ii), (.ref tv)]))
              refine own_st (fun zw zk => own_jld X72 hx hZ e72 F5_ (j := ii) (v := (.long (x.2))) (i := ni) (own_nn hi) (own_nat hi) (own_pj_at hxx) (g := (mkF m 119 #[.val (.ref d), .val (.ref oo), .val (.int (ii + (1 : Int32))), .val (.int jj)] [(.int ii), (.ref tv)])) rfl rfl (hb hby d4_119) _ zk) ?_
              refine own_st (fun zw zk => XS.aloadN X72.here hx rfl (hb hby d4_120) rfl rfl zk) ?_
              obtain ⟨T73, X73, e73, st73⟩ := getF X72 hx hZ hown (host := "") (Or.inl (hw _ (List.mem_of_getElem? (i := 17) rfl))) Via.refl e72 F3_ (g := (mkF m 121 #[.val (.ref d), .val (.ref oo), .val (.int (ii + (1 : Int32))), .val (.int jj)] [(.ref oo), (.long (x.2))])) rfl rfl (hb hby d4_121)
              refine own_st (fun zw zk => st73 zw zk) ?_
              refine own_st (fun zw zk => XS.iloadN X73.here hx rfl (hb hby d4_124) rfl zk) ?_
              refine own_st (fun zw zk => XS.iinc X73.here hx rfl (hb hby d4_125) rfl rfl zk) ?_
              show own_Go p e below G (T73.setTop (mkF m 128 #[.val (.ref d), .val (.ref oo), .val (.int (ii + (1 : Int32))), .val (.int (jj + (1 : Int32)))] [(.int jj), (.ref uv), (.long (x.2))]))
              refine own_st (fun zw zk => own_jld X73 hx hZ e73 F7_ (j := jj) (v := (.long (y.2))) (i := nj) (own_nn hj) (own_nat hj) (own_pj_at hyy) (g := (mkF m 128 #[.val (.ref d), .val (.ref oo), .val (.int (ii + (1 : Int32))), .val (.int (jj + (1 : Int32)))] [(.int jj), (.ref uv), (.long (x.2))])) rfl rfl (hb hby d4_128) _ zk) ?_
              refine own_st (fun zw zk => XS.lcmp X73.here hx rfl (hb hby d4_129) rfl zk) ?_
              by_cases hc130 : (x.2) < (y.2)
              · refine own_st (fun zw zk => XS.ifNo X73.here hx rfl (hb hby d4_130) rfl ((if0 _ _).trans (tlt (own_tll hc130)).2.1) zk) ?_
                refine own_st (fun zw zk => XS.iconst X73.here hx rfl (hb hby d4_133) zk) ?_
                subst hG
                obtain ⟨fs, hr, hrun, hended, hW, hsame⟩ := X73.leave (v := some (.int (0 : Int32))) (hlocks := Bd.notSynchronized) (fun h => by rw [Bd.returns] at h; cases h)
                refine ⟨_, retN X73 hx (t := .boolean) Bd.returns (by simp) (hb hby d4_134) hr, _, hrun, hended, _, _, rfl, ?_, ⟨_, rfl⟩, hW, hsame.mono (by decide) (by decide)⟩
                show Q4 Z d oo ti tv ui uv xs ys nx ny h0 n0 _ T73.heap _
                rw [e73]
                exact ⟨by rw [← hinv, hxd, hyd, own_al_xy, if_neg hc52, if_neg hc92, if_pos hc130], Nj60, rfl⟩
              · refine own_st (fun zw zk => XS.ifYes X73.here hx rfl (pc0 := 130) (pc' := 4) rfl (hb hby d4_130) rfl ((if0 _ _).trans (flt (own_fll hc130)).2.1) (by decide) (by decide) zk) ?_
                show own_Go p e below G (T73.setTop (mkF m 4 #[.val (.ref d), .val (.ref oo), .val (.int (ii + (1 : Int32))), .val (.int (jj + (1 : Int32)))] []))
                exact ih (ii + (1 : Int32)) (jj + (1 : Int32)) (ni + 1) (nj + 1) _ _ X73 e73 Nj60 (own_up hi (by omega)) (own_up hj (by omega)) (own_ltn hi hnx hc10) (own_ltq hj hny hnj hc28) (by rw [← hinv, hxd, hyd, own_al_xy, if_neg hc52, if_neg hc92, if_neg hc130]) (by have := own_ltn hi hnx hc10; have := own_ltq hj hny hnj hc28; omega)
      · refine own_st (fun zw zk => XS.icmpNo X61.here hx rfl (hb hby d4_10) rfl (flt hc10).1 zk) ?_
        refine own_st (fun zw zk => XS.iloadN X61.here hx rfl (hb hby d4_13) rfl zk) ?_
        refine own_st (fun zw zk => XS.aloadN X61.here hx rfl (hb hby d4_14) rfl rfl zk) ?_
        obtain ⟨T74, X74, e74, st74⟩ := getF X61 hx hZ hown (host := "") (Or.inl (hw _ (List.mem_of_getElem? (i := 15) rfl))) Via.refl e61 F2_ (g := (mkF m 15 #[.val (.ref d), .val (.ref oo), .val (.int ii), .val (.int jj)] [(.ref oo), (.int jj)])) rfl rfl (hb hby d4_15)
        refine own_st (fun zw zk => st74 zw zk) ?_
        show own_Go p e below G (T74.setTop (mkF m 18 #[.val (.ref d), .val (.ref oo), .val (.int ii), .val (.int jj)] [(.ref ui), (.int jj)]))
        refine own_st (fun zw zk => own_len X74 hx hZ e74 F6_ (z := ny) (hly) (g := (mkF m 18 #[.val (.ref d), .val (.ref oo), .val (.int ii), .val (.int jj)] [(.ref ui), (.int jj)])) rfl rfl (hb hby d4_18) _ zk) ?_
        by_cases hc19 : jj < ny
        · refine own_st (fun zw zk => XS.icmpNo X74.here hx rfl (hb hby d4_19) rfl (tlt hc19).2.1 zk) ?_
          refine own_st (fun zw zk => XS.iloadN X74.here hx rfl (hb hby d4_22) rfl zk) ?_
          refine own_st (fun zw zk => XS.aloadN X74.here hx rfl (hb hby d4_23) rfl rfl zk) ?_
          obtain ⟨T75, X75, e75, st75⟩ := getF X74 hx hZ hown (host := "") (Or.inl (hw _ (List.mem_of_getElem? (i := 15) rfl))) Via.refl e74 F2_ (g := (mkF m 24 #[.val (.ref d), .val (.ref oo), .val (.int ii), .val (.int jj)] [(.ref oo), (.int jj)])) rfl rfl (hb hby d4_24)
          refine own_st (fun zw zk => st75 zw zk) ?_
          refine own_st (fun zw zk => own_len X75 hx hZ e75 F6_ (z := ny) (hly) (g := (mkF m 27 #[.val (.ref d), .val (.ref oo), .val (.int ii), .val (.int jj)] [(.ref ui), (.int jj)])) rfl rfl (hb hby d4_27) _ zk) ?_
          have hc28 : ¬ (jj = ny) := own_neq hj hny hc19
          refine own_st (fun zw zk => XS.icmpNo X75.here hx rfl (hb hby d4_28) rfl (feq hc28).1 zk) ?_
          refine own_st (fun zw zk => XS.iloadN X75.here hx rfl (hb hby d4_31) rfl zk) ?_
          show own_Go p e below G (T75.setTop (mkF m 32 #[.val (.ref d), .val (.ref oo), .val (.int ii), .val (.int jj)] [(.int ii)]))
          refine own_st (fun zw zk => XS.aloadN X75.here hx rfl (hb hby d4_32) rfl rfl zk) ?_
          obtain ⟨T76, X76, e76, st76⟩ := getF X75 hx hZ hown (host := "") (Or.inl (hw _ (List.mem_of_getElem? (i := 15) rfl))) Via.refl e75 F0_ (g := (mkF m 33 #[.val (.ref d), .val (.ref oo), .val (.int ii), .val (.int jj)] [(.ref d), (.int ii)])) rfl rfl (hb hby d4_33)
          refine own_st (fun zw zk => st76 zw zk) ?_
          refine own_st (fun zw zk => own_len X76 hx hZ e76 F4_ (z := nx) (hlx) (g := (mkF m 36 #[.val (.ref d), .val (.ref oo), .val (.int ii), .val (.int jj)] [(.ref ti), (.int ii)])) rfl rfl (hb hby d4_36) _ zk) ?_
          refine own_st (fun zw zk => XS.icmpYes X76.here hx rfl (pc0 := 37) (pc' := 71) rfl (hb hby d4_37) rfl (flt hc10).2.1 (by decide) (by decide) zk) ?_
          refine own_st (fun zw zk => XS.iloadN X76.here hx rfl (hb hby d4_71) rfl zk) ?_
          refine own_st (fun zw zk => XS.aloadN X76.here hx rfl (hb hby d4_72) rfl rfl zk) ?_
          obtain ⟨T77, X77, e77, st77⟩ := getF X76 hx hZ hown (host := "") (Or.inl (hw _ (List.mem_of_getElem? (i := 15) rfl))) Via.refl e76 F0_ (g := (mkF m 73 #[.val (.ref d), .val (.ref oo), .val (.int ii), .val (.int jj)] [(.ref d), (.int ii)])) rfl rfl (hb hby d4_73)
          refine own_st (fun zw zk => st77 zw zk) ?_
          refine own_st (fun zw zk => own_len X77 hx hZ e77 F4_ (z := nx) (hlx) (g := (mkF m 76 #[.val (.ref d), .val (.ref oo), .val (.int ii), .val (.int jj)] [(.ref ti), (.int ii)])) rfl rfl (hb hby d4_76) _ zk) ?_
          show own_Go p e below G (T77.setTop (mkF m 77 #[.val (.ref d), .val (.ref oo), .val (.int ii), .val (.int jj)] [(.int nx), (.int ii)]))
          have hc77 : ii = nx := own_eqq hi hnx hni hc10
          refine own_st (fun zw zk => XS.icmpYes X77.here hx rfl (pc0 := 77) (pc' := 95) rfl (hb hby d4_77) rfl (teq hc77).1 (by decide) (by decide) zk) ?_
          obtain ⟨y, hyy, hyd⟩ := own_drop (own_ltn hj hny hc19)
          refine own_st (fun zw zk => XS.aloadN X77.here hx rfl (hb hby d4_95) rfl rfl zk) ?_
          obtain ⟨T78, X78, e78, st78⟩ := getF X77 hx hZ hown (host := "") (Or.inl (hw _ (List.mem_of_getElem? (i := 17) rfl))) Via.refl e77 F3_ (g := (mkF m 96 #[.val (.ref d), .val (.ref oo), .val (.int ii), .val (.int jj)] [(.ref oo)])) rfl rfl (hb hby d4_96)
          refine own_st (fun zw zk => st78 zw zk) ?_
          refine own_st (fun zw zk => XS.iloadN X78.here hx rfl (hb hby d4_99) rfl zk) ?_
          refine own_st (fun zw zk => XS.iinc X78.here hx rfl (hb hby d4_100) rfl rfl zk) ?_
          show own_Go p e below G (T78.setTop (mkF m 103 #[.val (.ref d), .val (.ref oo), .val (.int ii), .val (.int (jj + (1 : Int32)))] [(.int jj), (.ref uv)]))
          refine own_st (fun zw zk => own_jld X78 hx hZ e78 F7_ (j := jj) (v := (.long (y.2))) (i := nj) (own_nn hj) (own_nat hj) (own_pj_at hyy) (g := (mkF m 103 #[.val (.ref d), .val (.ref oo), .val (.int ii), .val (.int (jj + (1 : Int32)))] [(.int jj), (.ref uv)])) rfl rfl (hb hby d4_103) _ zk) ?_
          refine own_st (fun zw zk => XS.lconst X78.here hx rfl (hb hby d4_104) zk) ?_
          refine own_st (fun zw zk => XS.lcmp X78.here hx rfl (hb hby d4_105) rfl zk) ?_
          by_cases hc106 : (0 : Int64) < (y.2)
          · refine own_st (fun zw zk => XS.ifNo X78.here hx rfl (hb hby d4_106) rfl ((if0 _ _).trans (tlt (own_tlg hc106)).2.2.2) zk) ?_
            refine own_st (fun zw zk => XS.iconst X78.here hx rfl (hb hby d4_109) zk) ?_
            subst hG
            obtain ⟨fs, hr, hrun, hended, hW, hsame⟩ := X78.leave (v := some (.int (0 : Int32))) (hlocks := Bd.notSynchronized) (fun h => by rw [Bd.returns] at h; cases h)
            refine ⟨_, retN X78 hx (t := .boolean) Bd.returns (by simp) (hb hby d4_110) hr, _, hrun, hended, _, _, rfl, ?_, ⟨_, rfl⟩, hW, hsame.mono (by decide) (by decide)⟩
            show Q4 Z d oo ti tv ui uv xs ys nx ny h0 n0 _ T78.heap _
            rw [e78]
            exact ⟨by rw [← hinv, List.drop_eq_nil_of_le (own_geq hi hnx hc10), hyd, own_al_ny, if_pos hc106], Nj60, rfl⟩
          · refine own_st (fun zw zk => XS.ifYes X78.here hx rfl (pc0 := 106) (pc' := 4) rfl (hb hby d4_106) rfl ((if0 _ _).trans (flt (own_flg hc106)).2.2.2) (by decide) (by decide) zk) ?_
            show own_Go p e below G (T78.setTop (mkF m 4 #[.val (.ref d), .val (.ref oo), .val (.int ii), .val (.int (jj + (1 : Int32)))] []))
            exact ih ii (jj + (1 : Int32)) (ni) (nj + 1) _ _ X78 e78 Nj60 (hi) (own_up hj (by omega)) (hni) (own_ltn hj hny hc19) (by rw [← hinv, List.drop_eq_nil_of_le (own_geq hi hnx hc10), hyd, own_al_ny, if_neg hc106]) (by have := own_ltn hj hny hc19; omega)
        · refine own_st (fun zw zk => XS.icmpYes X74.here hx rfl (pc0 := 19) (pc' := 135) rfl (hb hby d4_19) rfl (flt hc19).2.1 (by decide) (by decide) zk) ?_
          refine own_st (fun zw zk => XS.iconst X74.here hx rfl (hb hby d4_135) zk) ?_
          subst hG
          obtain ⟨fs, hr, hrun, hended, hW, hsame⟩ := X74.leave (v := some (.int (1 : Int32))) (hlocks := Bd.notSynchronized) (fun h => by rw [Bd.returns] at h; cases h)
          refine ⟨_, retN X74 hx (t := .boolean) Bd.returns (by simp) (hb hby d4_136) hr, _, hrun, hended, _, _, rfl, ?_, ⟨_, rfl⟩, hW, hsame.mono (by decide) (by decide)⟩
          show Q4 Z d oo ti tv ui uv xs ys nx ny h0 n0 _ T74.heap _
          rw [e74]
          exact ⟨by rw [← hinv, List.drop_eq_nil_of_le (own_geq hi hnx hc10), List.drop_eq_nil_of_le (own_geq hj hny hc19), own_al_nn], Nj60, rfl⟩
  show own_Go p e below G (s₁.setTop (mkF m 4 #[.val (.ref d), .val (.ref oo), .val (.int (0 : Int32)), .val (.int (0 : Int32))] []))
  exact loop4_60 _ (0 : Int32) (0 : Int32) (0) (0) _ _ X0 e0 N0 (by decide) (by decide) (Nat.zero_le _) (Nat.zero_le _) (by simp) (Nat.lt_succ_self _)
theorem pd_1 : parseMethodDescriptor "(ZJZJZJ)Lcom/example/netz/netz/net/SparseVector;" = some ⟨[.boolean, .long, .boolean, .long, .boolean, .long], some (.object "com/example/netz/netz/net/SparseVector")⟩ := by decide +kernel
theorem pd_2 : parseMethodDescriptor "(Lcom/example/netz/netz/net/SparseVector;)Z" = some ⟨[(.object "com/example/netz/netz/net/SparseVector")], some .boolean⟩ := by decide +kernel
theorem ef_rm0 (m : MethodId) (p0 : Int32) (q1 : Int64) (q2 : Int64) (q3 : Int64) (q4 : Int64) (q5 : Int64) : entryFrame m #[(.int p0), (.long q1), (.long q2), (.long q3), (.long q4), (.long q5)] maxLocals = mkF m 0 #[.val (.int p0), .val (.long q1), .second, .val (.long q2), .second, .val (.long q3), .second, .val (.long q4), .second, .val (.long q5), .second, .unset, .unset, .unset, .unset, .unset, .unset, .unset, .unset, .unset, .unset, .unset, .unset, .unset, .unset, .unset, .unset, .unset, .unset, .unset, .unset, .unset, .unset, .unset] [] := by first | (simp [entryFrame, mkF, argsToLocals, Value.category, maxLocals]; done) | rfl
def Q0 (Z : State) (p0 : Int32) (q1 : Int64) (q2 : Int64) (q3 : Int64) (q4 : Int64) (q5 : Int64) (h0 : Heap) (n0 : Nat) (rv : Option Value) (hq : Heap) (Lq : List Loc) : Prop := rv = some (.int 1) ∧ Fr n0 Lq
set_option maxRecDepth 65536 in
set_option maxHeartbeats 40000000 in
theorem rm0 (l : Launch) (Z : State) (a0 : Array Value) (hw : ∀ d ∈ tables_1, d.before a0 Z = true) (ws : List Jvm.Cond) (p0 : Int32) (q1 : Int64) (q2 : Int64) (q3 : Int64) (q4 : Int64) (q5 : Int64) (h0 : Heap) (n0 : Nat) (Z0 : n0 ≤ h0.size) :
    MetFree l x (head1 (Jvm.Cond.code x code maxLocals ret :: ws) room_1) (fun za U => za = #[(.int p0), (.long q1), (.long q2), (.long q3), (.long q4), (.long q5)] ∧ Z.Warmed39 U.vm ∧ U.heap = h0) (fun _ _ _ _ _ => True) (fun _ U o U' => ∃ rv Lq, o = .returned rv ∧ Q0 Z p0 q1 q2 q3 q4 q5 h0 n0 rv U'.heap Lq ∧ FrameEnd U o U' Lq room_1.cells room_1.slots) := by
  refine MetFree.of_bodySF (plainFor_of_name pn_1) hisR ?_
  intro p e s m args below meth c s₁ Bd hml0 hP hK
  obtain ⟨rfl, hZ, hh⟩ := hP
  have hx := Bd.exec
  have hby := Bd.bytes
  have hml : c.maxLocals = 34 := hml0
  have hown : s.vm.findClass "com/example/netz/netz/net/SparseVectorIsAtLeastPinLaw" = some m.cls := findClass_of_methodNamed Bd.named
  have hnm := (name_of_methodNamed Bd.named Bd.method).1
  have X0 : Stand p l e room_1 s m #[(.int p0), (.long q1), (.long q2), (.long q3), (.long q4), (.long q5)] below meth c s₁ [] 0 0 := Stand.of_body Bd
  have e0 : s₁.heap = h0 := by rw [← hh, Bd.state]; rfl
  have N0 := Fr.nil n0
  refine own_out (own_nm fun G hG => own_st (fun zt zk => castTop (ef_rm0 m p0 q1 q2 q3 q4 q5) zk) ?_)
  show own_Go p e below G (s₁.setTop (mkF m 0 #[.val (.int p0), .val (.long q1), .second, .val (.long q2), .second, .val (.long q3), .second, .val (.long q4), .second, .val (.long q5), .second, .unset, .unset, .unset, .unset, .unset, .unset, .unset, .unset, .unset, .unset, .unset, .unset, .unset, .unset, .unset, .unset, .unset, .unset, .unset, .unset, .unset, .unset, .unset] []))
  refine own_st (fun zw zk => XS.lload X0.here hx rfl (hb hby at_0) rfl zk) ?_
  refine own_st (fun zw zk => XS.iloadN X0.here hx rfl (hb hby at_2) rfl zk) ?_
  refine own_st (fun zw zk => XS.bipush X0.here hx rfl (hb hby at_3) zk) ?_
  refine own_st (fun zw zk => XS.ishr X0.here hx rfl (hb hby at_5) rfl zk) ?_
  refine own_st (fun zw zk => XS.i2l X0.here hx rfl (hb hby at_6) rfl zk) ?_
  refine own_st (fun zw zk => XS.lsub X0.here hx rfl (hb hby at_7) rfl zk) ?_
  refine own_st (fun zw zk => XS.lstore X0.here hx rfl (hb hby at_8) rfl rfl zk) ?_
  show own_Go p e below G (s₁.setTop (mkF m 10 #[.val (.int p0), .val (.long q1), .second, .val (.long q2), .second, .val (.long q3), .second, .val (.long q4), .second, .val (.long q5), .second, .val (.long (q3 - ((p0 >>> ((6 : Int32) &&& 31)).toInt64))), .second, .unset, .unset, .unset, .unset, .unset, .unset, .unset, .unset, .unset, .unset, .unset, .unset, .unset, .unset, .unset, .unset, .unset, .unset, .unset, .unset, .unset] []))
  generalize hy2 : (q3 - ((p0 >>> ((6 : Int32) &&& 31)).toInt64)) = y2
  have J29_79 : ∀ (f0 : Int32), own_Go p e below G (s₁.setTop (mkF m 29 #[.val (.int p0), .val (.long q1), .second, .val (.long q2), .second, .val (.long q3), .second, .val (.long q4), .second, .val (.long q5), .second, .val (.long y2), .second, .val (.int f0), .unset, .unset, .unset, .unset, .unset, .unset, .unset, .unset, .unset, .unset, .unset, .unset, .unset, .unset, .unset, .unset, .unset, .unset, .unset, .unset] [])) := by
    intro f0
    have J48_80 : ∀ (f1 : Int32), own_Go p e below G (s₁.setTop (mkF m 48 #[.val (.int p0), .val (.long q1), .second, .val (.long q2), .second, .val (.long q3), .second, .val (.long q4), .second, .val (.long q5), .second, .val (.long y2), .second, .val (.int f0), .val (.int f1), .unset, .unset, .unset, .unset, .unset, .unset, .unset, .unset, .unset, .unset, .unset, .unset, .unset, .unset, .unset, .unset, .unset, .unset, .unset] [])) := by
      intro f1
      have J68_81 : ∀ (f2 : Int32), own_Go p e below G (s₁.setTop (mkF m 68 #[.val (.int p0), .val (.long q1), .second, .val (.long q2), .second, .val (.long q3), .second, .val (.long q4), .second, .val (.long q5), .second, .val (.long y2), .second, .val (.int f0), .val (.int f1), .val (.int f2), .unset, .unset, .unset, .unset, .unset, .unset, .unset, .unset, .unset, .unset, .unset, .unset, .unset, .unset, .unset, .unset, .unset, .unset] [])) := by
        intro f2
        have J89_82 : ∀ (g0 : Int32), own_Go p e below G (s₁.setTop (mkF m 89 #[.val (.int p0), .val (.long q1), .second, .val (.long q2), .second, .val (.long q3), .second, .val (.long q4), .second, .val (.long q5), .second, .val (.long y2), .second, .val (.int f0), .val (.int f1), .val (.int f2), .val (.int g0), .unset, .unset, .unset, .unset, .unset, .unset, .unset, .unset, .unset, .unset, .unset, .unset, .unset, .unset, .unset, .unset, .unset] [])) := by
          intro g0
          have J110_83 : ∀ (g1 : Int32), own_Go p e below G (s₁.setTop (mkF m 110 #[.val (.int p0), .val (.long q1), .second, .val (.long q2), .second, .val (.long q3), .second, .val (.long q4), .second, .val (.long q5), .second, .val (.long y2), .second, .val (.int f0), .val (.int f1), .val (.int f2), .val (.int g0), .val (.int g1), .unset, .unset, .unset, .unset, .unset, .unset, .unset, .unset, .unset, .unset, .unset, .unset, .unset, .unset, .unset, .unset] [])) := by
            intro g1
            have J131_84 : ∀ (g2 : Int32), own_Go p e below G (s₁.setTop (mkF m 131 #[.val (.int p0), .val (.long q1), .second, .val (.long q2), .second, .val (.long q3), .second, .val (.long q4), .second, .val (.long q5), .second, .val (.long y2), .second, .val (.int f0), .val (.int f1), .val (.int f2), .val (.int g0), .val (.int g1), .val (.int g2), .unset, .unset, .unset, .unset, .unset, .unset, .unset, .unset, .unset, .unset, .unset, .unset, .unset, .unset, .unset] [])) := by
              intro g2
              refine own_st (fun zw zk => XS.iload X0.here hx rfl (hb hby at_131) rfl zk) ?_
              refine own_st (fun zw zk => XS.lloadN X0.here hx rfl (hb hby at_133) rfl zk) ?_
              refine own_st (fun zw zk => XS.iload X0.here hx rfl (hb hby at_134) rfl zk) ?_
              refine own_st (fun zw zk => XS.lloadN X0.here hx rfl (hb hby at_136) rfl zk) ?_
              refine own_st (fun zw zk => XS.iload X0.here hx rfl (hb hby at_137) rfl zk) ?_
              refine own_st (fun zw zk => XS.lload X0.here hx rfl (hb hby at_139) rfl zk) ?_
              obtain ⟨_, _, ⟨T85, L85, k85, n85⟩, -, X85, ⟨Lc85, hQ85, l85, y85, z85⟩, st85⟩ := Jvm.LawKit.callS X0 hx (y := (⟨"com/example/netz/netz/net/SparseVectorIsAtLeastPinLaw", "build", "(ZJZJZJ)Lcom/example/netz/netz/net/SparseVector;"⟩ : MethodName)) hown (mvT hZ (hw _ (List.mem_of_getElem? (i := 0) rfl))) (mvT hZ (hw _ (List.mem_of_getElem? (i := 1) rfl))) (mvT hZ (hw _ (List.mem_of_getElem? (i := 2) rfl))) (mvT hZ (hw _ (List.mem_of_getElem? (i := 3) rfl))) (by decide) (backOf (W := 0) (rm1 l Z a0 hw [] f0 q1 f1 q2 f2 q3 h0 n0 Z0) hZ (hw _ (List.mem_of_getElem? (i := 3) rfl)) (hw _ (List.mem_of_getElem? (i := 2) rfl)) (by decide) (by decide)) (g := (mkF m 141 #[.val (.int p0), .val (.long q1), .second, .val (.long q2), .second, .val (.long q3), .second, .val (.long q4), .second, .val (.long q5), .second, .val (.long y2), .second, .val (.int f0), .val (.int f1), .val (.int f2), .val (.int g0), .val (.int g1), .val (.int g2), .unset, .unset, .unset, .unset, .unset, .unset, .unset, .unset, .unset, .unset, .unset, .unset, .unset, .unset, .unset] [(.long q3), (.int f2), (.long q2), (.int f1), (.long q1), (.int f0)])) rfl (by rw [hml]; rfl) (argsL := [(.int f0), (.long q1), (.int f1), (.long q2), (.int f2), (.long q3)]) (rest := []) (lenOf pd_1 rfl) rfl (by show 2 * 0 + _ ≤ _; exact Nat.le_of_eq rfl) (hb hby at_141) (fun _ _ => ⟨rfl, e0, (by decide : 0 + 3 ≤ _), (by decide : 0 + 8 ≤ _)⟩)
              dsimp only [Pt.U, Pt.locs, Pt.cells, Pt.slots] at X85 l85 y85 z85 st85 hQ85
              subst l85 y85 z85
              obtain ⟨b85, rfl, N85q, sz85, ti85, tv85, K85, R85_0, R85_1, R85_2, R85_3, R85_4⟩ := hQ85
              have G85 : n0 ≤ b85 := Nat.le_trans Z0 sz85
              have Z85 : n0 ≤ T85.heap.size := Nat.le_trans Z0 K85.1
              have N85 := Fr.app N0 N85q
              refine own_st (fun zw zk => st85 zw zk) ?_
              refine own_st (fun zw zk => XS.astore X85.here hx rfl (hb hby at_144) rfl rfl rfl zk) ?_
              show own_Go p e below G (T85.setTop (mkF m 146 #[.val (.int p0), .val (.long q1), .second, .val (.long q2), .second, .val (.long q3), .second, .val (.long q4), .second, .val (.long q5), .second, .val (.long y2), .second, .val (.int f0), .val (.int f1), .val (.int f2), .val (.int g0), .val (.int g1), .val (.int g2), .val (.ref b85), .unset, .unset, .unset, .unset, .unset, .unset, .unset, .unset, .unset, .unset, .unset, .unset, .unset, .unset] []))
              refine own_st (fun zw zk => XS.iload X85.here hx rfl (hb hby at_146) rfl zk) ?_
              refine own_st (fun zw zk => XS.lload X85.here hx rfl (hb hby at_148) rfl zk) ?_
              refine own_st (fun zw zk => XS.iload X85.here hx rfl (hb hby at_150) rfl zk) ?_
              refine own_st (fun zw zk => XS.lload X85.here hx rfl (hb hby at_152) rfl zk) ?_
              refine own_st (fun zw zk => XS.iload X85.here hx rfl (hb hby at_154) rfl zk) ?_
              refine own_st (fun zw zk => XS.lload X85.here hx rfl (hb hby at_156) rfl zk) ?_
              obtain ⟨_, _, ⟨T86, L86, k86, n86⟩, -, X86, ⟨Lc86, hQ86, l86, y86, z86⟩, st86⟩ := Jvm.LawKit.callS X85 hx (y := (⟨"com/example/netz/netz/net/SparseVectorIsAtLeastPinLaw", "build", "(ZJZJZJ)Lcom/example/netz/netz/net/SparseVector;"⟩ : MethodName)) hown (mvT hZ (hw _ (List.mem_of_getElem? (i := 0) rfl))) (mvT hZ (hw _ (List.mem_of_getElem? (i := 1) rfl))) (mvT hZ (hw _ (List.mem_of_getElem? (i := 2) rfl))) (mvT hZ (hw _ (List.mem_of_getElem? (i := 3) rfl))) (by decide) (backOf (W := 0) (rm1 l Z a0 hw [] g0 q4 g1 q5 g2 y2 T85.heap n0 Z85) hZ (hw _ (List.mem_of_getElem? (i := 3) rfl)) (hw _ (List.mem_of_getElem? (i := 2) rfl)) (by decide) (by decide)) (g := (mkF m 158 #[.val (.int p0), .val (.long q1), .second, .val (.long q2), .second, .val (.long q3), .second, .val (.long q4), .second, .val (.long q5), .second, .val (.long y2), .second, .val (.int f0), .val (.int f1), .val (.int f2), .val (.int g0), .val (.int g1), .val (.int g2), .val (.ref b85), .unset, .unset, .unset, .unset, .unset, .unset, .unset, .unset, .unset, .unset, .unset, .unset, .unset, .unset] [(.long y2), (.int g2), (.long q5), (.int g1), (.long q4), (.int g0)])) rfl (by rw [hml]; rfl) (argsL := [(.int g0), (.long q4), (.int g1), (.long q5), (.int g2), (.long y2)]) (rest := []) (lenOf pd_1 rfl) rfl (by show 2 * 0 + _ ≤ _; exact Nat.le_of_eq rfl) (hb hby at_158) (fun _ _ => ⟨rfl, rfl, (by decide : 3 + 3 ≤ _), (by decide : 8 + 8 ≤ _)⟩)
              dsimp only [Pt.U, Pt.locs, Pt.cells, Pt.slots] at X86 l86 y86 z86 st86 hQ86
              subst l86 y86 z86
              obtain ⟨b86, rfl, N86q, sz86, ti86, tv86, K86, R86_0, R86_1, R86_2, R86_3, R86_4⟩ := hQ86
              have ne_b85_b86 : b85 ≠ b86 := Nat.ne_of_lt (Nat.lt_of_lt_of_le R85_0.lt sz86)
              have ne_ti85_b86 : ti85 ≠ b86 := Nat.ne_of_lt (Nat.lt_of_lt_of_le R85_3.lt sz86)
              have ne_tv85_b86 : tv85 ≠ b86 := Nat.ne_of_lt (Nat.lt_of_lt_of_le R85_4.lt sz86)
              have G86 : n0 ≤ b86 := Nat.le_trans Z85 sz86
              have Rb85b85E_86 := R85_0.keep K86
              have Rb85b85indices_86 := R85_1.keep K86 nin0
              have Rb85b85values_86 := R85_2.keep K86 nin0
              have Rb85ti85L_86 := R85_3.keep K86 nin0
              have Rb85tv85L_86 := R85_4.keep K86 nin0
              have Z86 : n0 ≤ T86.heap.size := Nat.le_trans Z85 K86.1
              have N86 := Fr.app N85 N86q
              refine own_st (fun zw zk => st86 zw zk) ?_
              refine own_st (fun zw zk => XS.astore X86.here hx rfl (hb hby at_161) rfl rfl rfl zk) ?_
              have J175_87 : ∀ (va0 : Int64) (hva0 : va0 = own_sel f0 q1), own_Go p e below G (T86.setTop (mkF m 175 #[.val (.int p0), .val (.long q1), .second, .val (.long q2), .second, .val (.long q3), .second, .val (.long q4), .second, .val (.long q5), .second, .val (.long y2), .second, .val (.int f0), .val (.int f1), .val (.int f2), .val (.int g0), .val (.int g1), .val (.int g2), .val (.ref b85), .val (.ref b86), .val (.long va0), .second, .unset, .unset, .unset, .unset, .unset, .unset, .unset, .unset, .unset, .unset, .unset] [])) := by
                intro va0 hva0
                have J187_88 : ∀ (va1 : Int64) (hva1 : va1 = own_sel f1 q2), own_Go p e below G (T86.setTop (mkF m 187 #[.val (.int p0), .val (.long q1), .second, .val (.long q2), .second, .val (.long q3), .second, .val (.long q4), .second, .val (.long q5), .second, .val (.long y2), .second, .val (.int f0), .val (.int f1), .val (.int f2), .val (.int g0), .val (.int g1), .val (.int g2), .val (.ref b85), .val (.ref b86), .val (.long va0), .second, .val (.long va1), .second, .unset, .unset, .unset, .unset, .unset, .unset, .unset, .unset, .unset] [])) := by
                  intro va1 hva1
                  have J200_89 : ∀ (va2 : Int64) (hva2 : va2 = own_sel f2 q3), own_Go p e below G (T86.setTop (mkF m 200 #[.val (.int p0), .val (.long q1), .second, .val (.long q2), .second, .val (.long q3), .second, .val (.long q4), .second, .val (.long q5), .second, .val (.long y2), .second, .val (.int f0), .val (.int f1), .val (.int f2), .val (.int g0), .val (.int g1), .val (.int g2), .val (.ref b85), .val (.ref b86), .val (.long va0), .second, .val (.long va1), .second, .val (.long va2), .second, .unset, .unset, .unset, .unset, .unset, .unset, .unset] [])) := by
                    intro va2 hva2
                    have J213_90 : ∀ (vb0 : Int64) (hvb0 : vb0 = own_sel g0 q4), own_Go p e below G (T86.setTop (mkF m 213 #[.val (.int p0), .val (.long q1), .second, .val (.long q2), .second, .val (.long q3), .second, .val (.long q4), .second, .val (.long q5), .second, .val (.long y2), .second, .val (.int f0), .val (.int f1), .val (.int f2), .val (.int g0), .val (.int g1), .val (.int g2), .val (.ref b85), .val (.ref b86), .val (.long va0), .second, .val (.long va1), .second, .val (.long va2), .second, .val (.long vb0), .second, .unset, .unset, .unset, .unset, .unset] [])) := by
                      intro vb0 hvb0
                      have J226_91 : ∀ (vb1 : Int64) (hvb1 : vb1 = own_sel g1 q5), own_Go p e below G (T86.setTop (mkF m 226 #[.val (.int p0), .val (.long q1), .second, .val (.long q2), .second, .val (.long q3), .second, .val (.long q4), .second, .val (.long q5), .second, .val (.long y2), .second, .val (.int f0), .val (.int f1), .val (.int f2), .val (.int g0), .val (.int g1), .val (.int g2), .val (.ref b85), .val (.ref b86), .val (.long va0), .second, .val (.long va1), .second, .val (.long va2), .second, .val (.long vb0), .second, .val (.long vb1), .second, .unset, .unset, .unset] [])) := by
                        intro vb1 hvb1
                        have J239_92 : ∀ (vb2 : Int64) (hvb2 : vb2 = own_sel g2 y2), own_Go p e below G (T86.setTop (mkF m 239 #[.val (.int p0), .val (.long q1), .second, .val (.long q2), .second, .val (.long q3), .second, .val (.long q4), .second, .val (.long q5), .second, .val (.long y2), .second, .val (.int f0), .val (.int f1), .val (.int f2), .val (.int g0), .val (.int g1), .val (.int g2), .val (.ref b85), .val (.ref b86), .val (.long va0), .second, .val (.long va1), .second, .val (.long va2), .second, .val (.long vb0), .second, .val (.long vb1), .second, .val (.long vb2), .second, .unset] [])) := by
                          intro vb2 hvb2
                          show own_Go p e below G (T86.setTop (mkF m 239 #[.val (.int p0), .val (.long q1), .second, .val (.long q2), .second, .val (.long q3), .second, .val (.long q4), .second, .val (.long q5), .second, .val (.long y2), .second, .val (.int f0), .val (.int f1), .val (.int f2), .val (.int g0), .val (.int g1), .val (.int g2), .val (.ref b85), .val (.ref b86), .val (.long va0), .second, .val (.long va1), .second, .val (.long va2), .second, .val (.long vb0), .second, .val (.long vb1), .second, .val (.long vb2), .second, .unset] []))
                          refine own_st (fun zw zk => XS.lload X86.here hx rfl (hb hby at_239) rfl zk) ?_
                          refine own_st (fun zw zk => XS.lload X86.here hx rfl (hb hby at_241) rfl zk) ?_
                          refine own_st (fun zw zk => XS.lcmp X86.here hx rfl (hb hby at_243) rfl zk) ?_
                          by_cases hc244 : va0 < vb0
                          · refine own_st (fun zw zk => XS.ifYes X86.here hx rfl (pc0 := 244) (pc' := 267) rfl (hb hby at_244) rfl ((if0 _ _).trans (tlt (own_tll hc244)).1) (by decide) (by decide) zk) ?_
                            refine own_st (fun zw zk => XS.iconst X86.here hx rfl (hb hby at_267) zk) ?_
                            refine own_st (fun zw zk => XS.istore X86.here hx rfl (hb hby at_268) rfl rfl zk) ?_
                            show own_Go p e below G (T86.setTop (mkF m 270 #[.val (.int p0), .val (.long q1), .second, .val (.long q2), .second, .val (.long q3), .second, .val (.long q4), .second, .val (.long q5), .second, .val (.long y2), .second, .val (.int f0), .val (.int f1), .val (.int f2), .val (.int g0), .val (.int g1), .val (.int g2), .val (.ref b85), .val (.ref b86), .val (.long va0), .second, .val (.long va1), .second, .val (.long va2), .second, .val (.long vb0), .second, .val (.long vb1), .second, .val (.long vb2), .second, .val (.int (0 : Int32))] []))
                            refine own_st (fun zw zk => XS.aload X86.here hx rfl (hb hby at_270) rfl rfl zk) ?_
                            refine own_st (fun zw zk => XS.aload X86.here hx rfl (hb hby at_272) rfl rfl zk) ?_
                            obtain ⟨cq93, kq93, q93a, q93b, q93c⟩ := isOf hZ rfl Rb85b85E_86
                            obtain ⟨_, _, ⟨T93, L93, k93, n93⟩, -, X93, ⟨Lc93, hQ93, l93, y93, z93⟩, st93⟩ := X86.virtualBack hx (y := (⟨"com/example/netz/netz/net/SparseVector", "isAtLeast", "(Lcom/example/netz/netz/net/SparseVector;)Z"⟩ : MethodName)) (z := (⟨"com/example/netz/netz/net/SparseVector", "isAtLeast", "(Lcom/example/netz/netz/net/SparseVector;)Z"⟩ : MethodName)) hown (mvT hZ (hw _ (List.mem_of_getElem? (i := 19) rfl))) (mvT hZ (hw _ (List.mem_of_getElem? (i := 20) rfl))) (notFace_of_selects (args := #[]) (mvT hZ (hw _ (List.mem_of_getElem? (i := 22) rfl)))) (mvT hZ (hw _ (List.mem_of_getElem? (i := 22) rfl))) (mvT hZ (hw _ (List.mem_of_getElem? (i := 21) rfl))) (by decide) (backOf (W := 0) (rm4 l Z a0 hw [] b85 b86 ti85 tv85 ti86 tv86 (own_bp f0 q1 f1 q2 f2 q3) (own_bp g0 q4 g1 q5 g2 y2) ((own_bp f0 q1 f1 q2 f2 q3).length.toInt32) ((own_bp g0 q4 g1 q5 g2 y2).length.toInt32) T86.heap n0 Z86 (Rb85b85indices_86) (Rb85b85values_86) (R86_1) (R86_2) (Rb85ti85L_86) (Rb85tv85L_86) (R86_3) (R86_4) (congrArg Nat.toInt32 (own_pi_len _)) (own_toi (own_bp3 _ _ _ _ _ _)) (congrArg Nat.toInt32 (own_pi_len _)) (own_toi (own_bp3 _ _ _ _ _ _)) (own_bp3 _ _ _ _ _ _) (own_bp3 _ _ _ _ _ _)) hZ (hw _ (List.mem_of_getElem? (i := 23) rfl)) (hw _ (List.mem_of_getElem? (i := 8) rfl)) (by decide) (by decide)) q93a q93c (g := (mkF m 274 #[.val (.int p0), .val (.long q1), .second, .val (.long q2), .second, .val (.long q3), .second, .val (.long q4), .second, .val (.long q5), .second, .val (.long y2), .second, .val (.int f0), .val (.int f1), .val (.int f2), .val (.int g0), .val (.int g1), .val (.int g2), .val (.ref b85), .val (.ref b86), .val (.long va0), .second, .val (.long va1), .second, .val (.long va2), .second, .val (.long vb0), .second, .val (.long vb1), .second, .val (.long vb2), .second, .val (.int (0 : Int32))] [(.ref b86), (.ref b85)])) rfl (by rw [hml]; rfl) (Steps.refl _) (argsL := [(.ref b86)]) (rest := []) (lenOf pd_2 rfl) rfl (by show 2 * 0 + _ ≤ _; exact Nat.le_of_eq rfl) (hb hby at_274) (fun _ _ => ⟨rfl, rfl, (by decide : 6 + 0 ≤ _), (by decide : 16 + 0 ≤ _)⟩)
                            dsimp only [Pt.U, Pt.locs, Pt.cells, Pt.slots] at X93 l93 y93 z93 st93 hQ93
                            subst l93 y93 z93
                            obtain ⟨rfl, N93q, e93⟩ := hQ93
                            have N93 := Fr.app N86 N93q
                            refine own_jp st93 ?_
                            refine own_st (fun zw zk => XS.iload X93.here hx rfl (hb hby at_277) rfl zk) ?_
                            have hc279 : (own_al (own_bp f0 q1 f1 q2 f2 q3) (own_bp g0 q4 g1 q5 g2 y2)) = (0 : Int32) := (own_plain _ _ _ _ _ _ _ _ _ _ _ _).trans (by rw [← hva0, ← hva1, ← hva2, ← hvb0, ← hvb1, ← hvb2, if_pos hc244])
                            refine own_st (fun zw zk => XS.icmpNo X93.here hx rfl (hb hby at_279) rfl (teq hc279).2 zk) ?_
                            refine own_st (fun zw zk => XS.iconst X93.here hx rfl (hb hby at_282) zk) ?_
                            refine own_st (fun zw zk => XS.goto X93.here hx rfl (pc0 := 283) (pc' := 287) rfl (hb hby at_283) (by decide) (by decide) zk) ?_
                            show own_Go p e below G (T93.setTop (mkF m 287 #[.val (.int p0), .val (.long q1), .second, .val (.long q2), .second, .val (.long q3), .second, .val (.long q4), .second, .val (.long q5), .second, .val (.long y2), .second, .val (.int f0), .val (.int f1), .val (.int f2), .val (.int g0), .val (.int g1), .val (.int g2), .val (.ref b85), .val (.ref b86), .val (.long va0), .second, .val (.long va1), .second, .val (.long va2), .second, .val (.long vb0), .second, .val (.long vb1), .second, .val (.long vb2), .second, .val (.int (0 : Int32))] [(.int (1 : Int32))]))
                            subst hG
                            obtain ⟨fs, hr, hrun, hended, hW, hsame⟩ := X93.leave (v := some (.int (1 : Int32))) (hlocks := Bd.notSynchronized) (fun h => by rw [Bd.returns] at h; cases h)
                            refine ⟨_, retN X93 hx (t := .boolean) Bd.returns (by simp) (hb hby at_287) hr, _, hrun, hended, _, _, rfl, ?_, ⟨_, rfl⟩, hW, hsame.mono (by decide) (by decide)⟩
                            show Q0 Z p0 q1 q2 q3 q4 q5 h0 n0 _ T93.heap _
                            rw [e93]
                            exact ⟨rfl, N93⟩
                          · refine own_st (fun zw zk => XS.ifNo X86.here hx rfl (hb hby at_244) rfl ((if0 _ _).trans (flt (own_fll hc244)).1) zk) ?_
                            refine own_st (fun zw zk => XS.lload X86.here hx rfl (hb hby at_247) rfl zk) ?_
                            refine own_st (fun zw zk => XS.lload X86.here hx rfl (hb hby at_249) rfl zk) ?_
                            refine own_st (fun zw zk => XS.lcmp X86.here hx rfl (hb hby at_251) rfl zk) ?_
                            by_cases hc252 : va1 < vb1
                            · refine own_st (fun zw zk => XS.ifYes X86.here hx rfl (pc0 := 252) (pc' := 267) rfl (hb hby at_252) rfl ((if0 _ _).trans (tlt (own_tll hc252)).1) (by decide) (by decide) zk) ?_
                              show own_Go p e below G (T86.setTop (mkF m 267 #[.val (.int p0), .val (.long q1), .second, .val (.long q2), .second, .val (.long q3), .second, .val (.long q4), .second, .val (.long q5), .second, .val (.long y2), .second, .val (.int f0), .val (.int f1), .val (.int f2), .val (.int g0), .val (.int g1), .val (.int g2), .val (.ref b85), .val (.ref b86), .val (.long va0), .second, .val (.long va1), .second, .val (.long va2), .second, .val (.long vb0), .second, .val (.long vb1), .second, .val (.long vb2), .second, .unset] []))
                              refine own_st (fun zw zk => XS.iconst X86.here hx rfl (hb hby at_267) zk) ?_
                              refine own_st (fun zw zk => XS.istore X86.here hx rfl (hb hby at_268) rfl rfl zk) ?_
                              show own_Go p e below G (T86.setTop (mkF m 270 #[.val (.int p0), .val (.long q1), .second, .val (.long q2), .second, .val (.long q3), .second, .val (.long q4), .second, .val (.long q5), .second, .val (.long y2), .second, .val (.int f0), .val (.int f1), .val (.int f2), .val (.int g0), .val (.int g1), .val (.int g2), .val (.ref b85), .val (.ref b86), .val (.long va0), .second, .val (.long va1), .second, .val (.long va2), .second, .val (.long vb0), .second, .val (.long vb1), .second, .val (.long vb2), .second, .val (.int (0 : Int32))] []))
                              refine own_st (fun zw zk => XS.aload X86.here hx rfl (hb hby at_270) rfl rfl zk) ?_
                              refine own_st (fun zw zk => XS.aload X86.here hx rfl (hb hby at_272) rfl rfl zk) ?_
                              obtain ⟨cq94, kq94, q94a, q94b, q94c⟩ := isOf hZ rfl Rb85b85E_86
                              obtain ⟨_, _, ⟨T94, L94, k94, n94⟩, -, X94, ⟨Lc94, hQ94, l94, y94, z94⟩, st94⟩ := X86.virtualBack hx (y := (⟨"com/example/netz/netz/net/SparseVector", "isAtLeast", "(Lcom/example/netz/netz/net/SparseVector;)Z"⟩ : MethodName)) (z := (⟨"com/example/netz/netz/net/SparseVector", "isAtLeast", "(Lcom/example/netz/netz/net/SparseVector;)Z"⟩ : MethodName)) hown (mvT hZ (hw _ (List.mem_of_getElem? (i := 19) rfl))) (mvT hZ (hw _ (List.mem_of_getElem? (i := 20) rfl))) (notFace_of_selects (args := #[]) (mvT hZ (hw _ (List.mem_of_getElem? (i := 22) rfl)))) (mvT hZ (hw _ (List.mem_of_getElem? (i := 22) rfl))) (mvT hZ (hw _ (List.mem_of_getElem? (i := 21) rfl))) (by decide) (backOf (W := 0) (rm4 l Z a0 hw [] b85 b86 ti85 tv85 ti86 tv86 (own_bp f0 q1 f1 q2 f2 q3) (own_bp g0 q4 g1 q5 g2 y2) ((own_bp f0 q1 f1 q2 f2 q3).length.toInt32) ((own_bp g0 q4 g1 q5 g2 y2).length.toInt32) T86.heap n0 Z86 (Rb85b85indices_86) (Rb85b85values_86) (R86_1) (R86_2) (Rb85ti85L_86) (Rb85tv85L_86) (R86_3) (R86_4) (congrArg Nat.toInt32 (own_pi_len _)) (own_toi (own_bp3 _ _ _ _ _ _)) (congrArg Nat.toInt32 (own_pi_len _)) (own_toi (own_bp3 _ _ _ _ _ _)) (own_bp3 _ _ _ _ _ _) (own_bp3 _ _ _ _ _ _)) hZ (hw _ (List.mem_of_getElem? (i := 23) rfl)) (hw _ (List.mem_of_getElem? (i := 8) rfl)) (by decide) (by decide)) q94a q94c (g := (mkF m 274 #[.val (.int p0), .val (.long q1), .second, .val (.long q2), .second, .val (.long q3), .second, .val (.long q4), .second, .val (.long q5), .second, .val (.long y2), .second, .val (.int f0), .val (.int f1), .val (.int f2), .val (.int g0), .val (.int g1), .val (.int g2), .val (.ref b85), .val (.ref b86), .val (.long va0), .second, .val (.long va1), .second, .val (.long va2), .second, .val (.long vb0), .second, .val (.long vb1), .second, .val (.long vb2), .second, .val (.int (0 : Int32))] [(.ref b86), (.ref b85)])) rfl (by rw [hml]; rfl) (Steps.refl _) (argsL := [(.ref b86)]) (rest := []) (lenOf pd_2 rfl) rfl (by show 2 * 0 + _ ≤ _; exact Nat.le_of_eq rfl) (hb hby at_274) (fun _ _ => ⟨rfl, rfl, (by decide : 6 + 0 ≤ _), (by decide : 16 + 0 ≤ _)⟩)
                              dsimp only [Pt.U, Pt.locs, Pt.cells, Pt.slots] at X94 l94 y94 z94 st94 hQ94
                              subst l94 y94 z94
                              obtain ⟨rfl, N94q, e94⟩ := hQ94
                              have N94 := Fr.app N86 N94q
                              refine own_jp st94 ?_
                              refine own_st (fun zw zk => XS.iload X94.here hx rfl (hb hby at_277) rfl zk) ?_
                              have hc279 : (own_al (own_bp f0 q1 f1 q2 f2 q3) (own_bp g0 q4 g1 q5 g2 y2)) = (0 : Int32) := (own_plain _ _ _ _ _ _ _ _ _ _ _ _).trans (by rw [← hva0, ← hva1, ← hva2, ← hvb0, ← hvb1, ← hvb2, if_neg hc244, if_pos hc252])
                              refine own_st (fun zw zk => XS.icmpNo X94.here hx rfl (hb hby at_279) rfl (teq hc279).2 zk) ?_
                              refine own_st (fun zw zk => XS.iconst X94.here hx rfl (hb hby at_282) zk) ?_
                              refine own_st (fun zw zk => XS.goto X94.here hx rfl (pc0 := 283) (pc' := 287) rfl (hb hby at_283) (by decide) (by decide) zk) ?_
                              show own_Go p e below G (T94.setTop (mkF m 287 #[.val (.int p0), .val (.long q1), .second, .val (.long q2), .second, .val (.long q3), .second, .val (.long q4), .second, .val (.long q5), .second, .val (.long y2), .second, .val (.int f0), .val (.int f1), .val (.int f2), .val (.int g0), .val (.int g1), .val (.int g2), .val (.ref b85), .val (.ref b86), .val (.long va0), .second, .val (.long va1), .second, .val (.long va2), .second, .val (.long vb0), .second, .val (.long vb1), .second, .val (.long vb2), .second, .val (.int (0 : Int32))] [(.int (1 : Int32))]))
                              subst hG
                              obtain ⟨fs, hr, hrun, hended, hW, hsame⟩ := X94.leave (v := some (.int (1 : Int32))) (hlocks := Bd.notSynchronized) (fun h => by rw [Bd.returns] at h; cases h)
                              refine ⟨_, retN X94 hx (t := .boolean) Bd.returns (by simp) (hb hby at_287) hr, _, hrun, hended, _, _, rfl, ?_, ⟨_, rfl⟩, hW, hsame.mono (by decide) (by decide)⟩
                              show Q0 Z p0 q1 q2 q3 q4 q5 h0 n0 _ T94.heap _
                              rw [e94]
                              exact ⟨rfl, N94⟩
                            · refine own_st (fun zw zk => XS.ifNo X86.here hx rfl (hb hby at_252) rfl ((if0 _ _).trans (flt (own_fll hc252)).1) zk) ?_
                              show own_Go p e below G (T86.setTop (mkF m 255 #[.val (.int p0), .val (.long q1), .second, .val (.long q2), .second, .val (.long q3), .second, .val (.long q4), .second, .val (.long q5), .second, .val (.long y2), .second, .val (.int f0), .val (.int f1), .val (.int f2), .val (.int g0), .val (.int g1), .val (.int g2), .val (.ref b85), .val (.ref b86), .val (.long va0), .second, .val (.long va1), .second, .val (.long va2), .second, .val (.long vb0), .second, .val (.long vb1), .second, .val (.long vb2), .second, .unset] []))
                              refine own_st (fun zw zk => XS.lload X86.here hx rfl (hb hby at_255) rfl zk) ?_
                              refine own_st (fun zw zk => XS.lload X86.here hx rfl (hb hby at_257) rfl zk) ?_
                              refine own_st (fun zw zk => XS.lcmp X86.here hx rfl (hb hby at_259) rfl zk) ?_
                              by_cases hc260 : va2 < vb2
                              · refine own_st (fun zw zk => XS.ifYes X86.here hx rfl (pc0 := 260) (pc' := 267) rfl (hb hby at_260) rfl ((if0 _ _).trans (tlt (own_tll hc260)).1) (by decide) (by decide) zk) ?_
                                refine own_st (fun zw zk => XS.iconst X86.here hx rfl (hb hby at_267) zk) ?_
                                refine own_st (fun zw zk => XS.istore X86.here hx rfl (hb hby at_268) rfl rfl zk) ?_
                                show own_Go p e below G (T86.setTop (mkF m 270 #[.val (.int p0), .val (.long q1), .second, .val (.long q2), .second, .val (.long q3), .second, .val (.long q4), .second, .val (.long q5), .second, .val (.long y2), .second, .val (.int f0), .val (.int f1), .val (.int f2), .val (.int g0), .val (.int g1), .val (.int g2), .val (.ref b85), .val (.ref b86), .val (.long va0), .second, .val (.long va1), .second, .val (.long va2), .second, .val (.long vb0), .second, .val (.long vb1), .second, .val (.long vb2), .second, .val (.int (0 : Int32))] []))
                                refine own_st (fun zw zk => XS.aload X86.here hx rfl (hb hby at_270) rfl rfl zk) ?_
                                refine own_st (fun zw zk => XS.aload X86.here hx rfl (hb hby at_272) rfl rfl zk) ?_
                                obtain ⟨cq95, kq95, q95a, q95b, q95c⟩ := isOf hZ rfl Rb85b85E_86
                                obtain ⟨_, _, ⟨T95, L95, k95, n95⟩, -, X95, ⟨Lc95, hQ95, l95, y95, z95⟩, st95⟩ := X86.virtualBack hx (y := (⟨"com/example/netz/netz/net/SparseVector", "isAtLeast", "(Lcom/example/netz/netz/net/SparseVector;)Z"⟩ : MethodName)) (z := (⟨"com/example/netz/netz/net/SparseVector", "isAtLeast", "(Lcom/example/netz/netz/net/SparseVector;)Z"⟩ : MethodName)) hown (mvT hZ (hw _ (List.mem_of_getElem? (i := 19) rfl))) (mvT hZ (hw _ (List.mem_of_getElem? (i := 20) rfl))) (notFace_of_selects (args := #[]) (mvT hZ (hw _ (List.mem_of_getElem? (i := 22) rfl)))) (mvT hZ (hw _ (List.mem_of_getElem? (i := 22) rfl))) (mvT hZ (hw _ (List.mem_of_getElem? (i := 21) rfl))) (by decide) (backOf (W := 0) (rm4 l Z a0 hw [] b85 b86 ti85 tv85 ti86 tv86 (own_bp f0 q1 f1 q2 f2 q3) (own_bp g0 q4 g1 q5 g2 y2) ((own_bp f0 q1 f1 q2 f2 q3).length.toInt32) ((own_bp g0 q4 g1 q5 g2 y2).length.toInt32) T86.heap n0 Z86 (Rb85b85indices_86) (Rb85b85values_86) (R86_1) (R86_2) (Rb85ti85L_86) (Rb85tv85L_86) (R86_3) (R86_4) (congrArg Nat.toInt32 (own_pi_len _)) (own_toi (own_bp3 _ _ _ _ _ _)) (congrArg Nat.toInt32 (own_pi_len _)) (own_toi (own_bp3 _ _ _ _ _ _)) (own_bp3 _ _ _ _ _ _) (own_bp3 _ _ _ _ _ _)) hZ (hw _ (List.mem_of_getElem? (i := 23) rfl)) (hw _ (List.mem_of_getElem? (i := 8) rfl)) (by decide) (by decide)) q95a q95c (g := (mkF m 274 #[.val (.int p0), .val (.long q1), .second, .val (.long q2), .second, .val (.long q3), .second, .val (.long q4), .second, .val (.long q5), .second, .val (.long y2), .second, .val (.int f0), .val (.int f1), .val (.int f2), .val (.int g0), .val (.int g1), .val (.int g2), .val (.ref b85), .val (.ref b86), .val (.long va0), .second, .val (.long va1), .second, .val (.long va2), .second, .val (.long vb0), .second, .val (.long vb1), .second, .val (.long vb2), .second, .val (.int (0 : Int32))] [(.ref b86), (.ref b85)])) rfl (by rw [hml]; rfl) (Steps.refl _) (argsL := [(.ref b86)]) (rest := []) (lenOf pd_2 rfl) rfl (by show 2 * 0 + _ ≤ _; exact Nat.le_of_eq rfl) (hb hby at_274) (fun _ _ => ⟨rfl, rfl, (by decide : 6 + 0 ≤ _), (by decide : 16 + 0 ≤ _)⟩)
                                dsimp only [Pt.U, Pt.locs, Pt.cells, Pt.slots] at X95 l95 y95 z95 st95 hQ95
                                subst l95 y95 z95
                                obtain ⟨rfl, N95q, e95⟩ := hQ95
                                have N95 := Fr.app N86 N95q
                                refine own_jp st95 ?_
                                refine own_st (fun zw zk => XS.iload X95.here hx rfl (hb hby at_277) rfl zk) ?_
                                have hc279 : (own_al (own_bp f0 q1 f1 q2 f2 q3) (own_bp g0 q4 g1 q5 g2 y2)) = (0 : Int32) := (own_plain _ _ _ _ _ _ _ _ _ _ _ _).trans (by rw [← hva0, ← hva1, ← hva2, ← hvb0, ← hvb1, ← hvb2, if_neg hc244, if_neg hc252, if_pos hc260])
                                refine own_st (fun zw zk => XS.icmpNo X95.here hx rfl (hb hby at_279) rfl (teq hc279).2 zk) ?_
                                refine own_st (fun zw zk => XS.iconst X95.here hx rfl (hb hby at_282) zk) ?_
                                refine own_st (fun zw zk => XS.goto X95.here hx rfl (pc0 := 283) (pc' := 287) rfl (hb hby at_283) (by decide) (by decide) zk) ?_
                                show own_Go p e below G (T95.setTop (mkF m 287 #[.val (.int p0), .val (.long q1), .second, .val (.long q2), .second, .val (.long q3), .second, .val (.long q4), .second, .val (.long q5), .second, .val (.long y2), .second, .val (.int f0), .val (.int f1), .val (.int f2), .val (.int g0), .val (.int g1), .val (.int g2), .val (.ref b85), .val (.ref b86), .val (.long va0), .second, .val (.long va1), .second, .val (.long va2), .second, .val (.long vb0), .second, .val (.long vb1), .second, .val (.long vb2), .second, .val (.int (0 : Int32))] [(.int (1 : Int32))]))
                                subst hG
                                obtain ⟨fs, hr, hrun, hended, hW, hsame⟩ := X95.leave (v := some (.int (1 : Int32))) (hlocks := Bd.notSynchronized) (fun h => by rw [Bd.returns] at h; cases h)
                                refine ⟨_, retN X95 hx (t := .boolean) Bd.returns (by simp) (hb hby at_287) hr, _, hrun, hended, _, _, rfl, ?_, ⟨_, rfl⟩, hW, hsame.mono (by decide) (by decide)⟩
                                show Q0 Z p0 q1 q2 q3 q4 q5 h0 n0 _ T95.heap _
                                rw [e95]
                                exact ⟨rfl, N95⟩
                              · refine own_st (fun zw zk => XS.ifNo X86.here hx rfl (hb hby at_260) rfl ((if0 _ _).trans (flt (own_fll hc260)).1) zk) ?_
                                refine own_st (fun zw zk => XS.iconst X86.here hx rfl (hb hby at_263) zk) ?_
                                refine own_st (fun zw zk => XS.goto X86.here hx rfl (pc0 := 264) (pc' := 268) rfl (hb hby at_264) (by decide) (by decide) zk) ?_
                                show own_Go p e below G (T86.setTop (mkF m 268 #[.val (.int p0), .val (.long q1), .second, .val (.long q2), .second, .val (.long q3), .second, .val (.long q4), .second, .val (.long q5), .second, .val (.long y2), .second, .val (.int f0), .val (.int f1), .val (.int f2), .val (.int g0), .val (.int g1), .val (.int g2), .val (.ref b85), .val (.ref b86), .val (.long va0), .second, .val (.long va1), .second, .val (.long va2), .second, .val (.long vb0), .second, .val (.long vb1), .second, .val (.long vb2), .second, .unset] [(.int (1 : Int32))]))
                                refine own_st (fun zw zk => XS.istore X86.here hx rfl (hb hby at_268) rfl rfl zk) ?_
                                show own_Go p e below G (T86.setTop (mkF m 270 #[.val (.int p0), .val (.long q1), .second, .val (.long q2), .second, .val (.long q3), .second, .val (.long q4), .second, .val (.long q5), .second, .val (.long y2), .second, .val (.int f0), .val (.int f1), .val (.int f2), .val (.int g0), .val (.int g1), .val (.int g2), .val (.ref b85), .val (.ref b86), .val (.long va0), .second, .val (.long va1), .second, .val (.long va2), .second, .val (.long vb0), .second, .val (.long vb1), .second, .val (.long vb2), .second, .val (.int (1 : Int32))] []))
                                refine own_st (fun zw zk => XS.aload X86.here hx rfl (hb hby at_270) rfl rfl zk) ?_
                                refine own_st (fun zw zk => XS.aload X86.here hx rfl (hb hby at_272) rfl rfl zk) ?_
                                obtain ⟨cq96, kq96, q96a, q96b, q96c⟩ := isOf hZ rfl Rb85b85E_86
                                obtain ⟨_, _, ⟨T96, L96, k96, n96⟩, -, X96, ⟨Lc96, hQ96, l96, y96, z96⟩, st96⟩ := X86.virtualBack hx (y := (⟨"com/example/netz/netz/net/SparseVector", "isAtLeast", "(Lcom/example/netz/netz/net/SparseVector;)Z"⟩ : MethodName)) (z := (⟨"com/example/netz/netz/net/SparseVector", "isAtLeast", "(Lcom/example/netz/netz/net/SparseVector;)Z"⟩ : MethodName)) hown (mvT hZ (hw _ (List.mem_of_getElem? (i := 19) rfl))) (mvT hZ (hw _ (List.mem_of_getElem? (i := 20) rfl))) (notFace_of_selects (args := #[]) (mvT hZ (hw _ (List.mem_of_getElem? (i := 22) rfl)))) (mvT hZ (hw _ (List.mem_of_getElem? (i := 22) rfl))) (mvT hZ (hw _ (List.mem_of_getElem? (i := 21) rfl))) (by decide) (backOf (W := 0) (rm4 l Z a0 hw [] b85 b86 ti85 tv85 ti86 tv86 (own_bp f0 q1 f1 q2 f2 q3) (own_bp g0 q4 g1 q5 g2 y2) ((own_bp f0 q1 f1 q2 f2 q3).length.toInt32) ((own_bp g0 q4 g1 q5 g2 y2).length.toInt32) T86.heap n0 Z86 (Rb85b85indices_86) (Rb85b85values_86) (R86_1) (R86_2) (Rb85ti85L_86) (Rb85tv85L_86) (R86_3) (R86_4) (congrArg Nat.toInt32 (own_pi_len _)) (own_toi (own_bp3 _ _ _ _ _ _)) (congrArg Nat.toInt32 (own_pi_len _)) (own_toi (own_bp3 _ _ _ _ _ _)) (own_bp3 _ _ _ _ _ _) (own_bp3 _ _ _ _ _ _)) hZ (hw _ (List.mem_of_getElem? (i := 23) rfl)) (hw _ (List.mem_of_getElem? (i := 8) rfl)) (by decide) (by decide)) q96a q96c (g := (mkF m 274 #[.val (.int p0), .val (.long q1), .second, .val (.long q2), .second, .val (.long q3), .second, .val (.long q4), .second, .val (.long q5), .second, .val (.long y2), .second, .val (.int f0), .val (.int f1), .val (.int f2), .val (.int g0), .val (.int g1), .val (.int g2), .val (.ref b85), .val (.ref b86), .val (.long va0), .second, .val (.long va1), .second, .val (.long va2), .second, .val (.long vb0), .second, .val (.long vb1), .second, .val (.long vb2), .second, .val (.int (1 : Int32))] [(.ref b86), (.ref b85)])) rfl (by rw [hml]; rfl) (Steps.refl _) (argsL := [(.ref b86)]) (rest := []) (lenOf pd_2 rfl) rfl (by show 2 * 0 + _ ≤ _; exact Nat.le_of_eq rfl) (hb hby at_274) (fun _ _ => ⟨rfl, rfl, (by decide : 6 + 0 ≤ _), (by decide : 16 + 0 ≤ _)⟩)
                                dsimp only [Pt.U, Pt.locs, Pt.cells, Pt.slots] at X96 l96 y96 z96 st96 hQ96
                                subst l96 y96 z96
                                obtain ⟨rfl, N96q, e96⟩ := hQ96
                                have N96 := Fr.app N86 N96q
                                refine own_jp st96 ?_
                                refine own_st (fun zw zk => XS.iload X96.here hx rfl (hb hby at_277) rfl zk) ?_
                                have hc279 : (own_al (own_bp f0 q1 f1 q2 f2 q3) (own_bp g0 q4 g1 q5 g2 y2)) = (1 : Int32) := (own_plain _ _ _ _ _ _ _ _ _ _ _ _).trans (by rw [← hva0, ← hva1, ← hva2, ← hvb0, ← hvb1, ← hvb2, if_neg hc244, if_neg hc252, if_neg hc260])
                                refine own_st (fun zw zk => XS.icmpNo X96.here hx rfl (hb hby at_279) rfl (teq hc279).2 zk) ?_
                                refine own_st (fun zw zk => XS.iconst X96.here hx rfl (hb hby at_282) zk) ?_
                                refine own_st (fun zw zk => XS.goto X96.here hx rfl (pc0 := 283) (pc' := 287) rfl (hb hby at_283) (by decide) (by decide) zk) ?_
                                show own_Go p e below G (T96.setTop (mkF m 287 #[.val (.int p0), .val (.long q1), .second, .val (.long q2), .second, .val (.long q3), .second, .val (.long q4), .second, .val (.long q5), .second, .val (.long y2), .second, .val (.int f0), .val (.int f1), .val (.int f2), .val (.int g0), .val (.int g1), .val (.int g2), .val (.ref b85), .val (.ref b86), .val (.long va0), .second, .val (.long va1), .second, .val (.long va2), .second, .val (.long vb0), .second, .val (.long vb1), .second, .val (.long vb2), .second, .val (.int (1 : Int32))] [(.int (1 : Int32))]))
                                subst hG
                                obtain ⟨fs, hr, hrun, hended, hW, hsame⟩ := X96.leave (v := some (.int (1 : Int32))) (hlocks := Bd.notSynchronized) (fun h => by rw [Bd.returns] at h; cases h)
                                refine ⟨_, retN X96 hx (t := .boolean) Bd.returns (by simp) (hb hby at_287) hr, _, hrun, hended, _, _, rfl, ?_, ⟨_, rfl⟩, hW, hsame.mono (by decide) (by decide)⟩
                                show Q0 Z p0 q1 q2 q3 q4 q5 h0 n0 _ T96.heap _
                                rw [e96]
                                exact ⟨rfl, N96⟩
                        show own_Go p e below G (T86.setTop (mkF m 226 #[.val (.int p0), .val (.long q1), .second, .val (.long q2), .second, .val (.long q3), .second, .val (.long q4), .second, .val (.long q5), .second, .val (.long y2), .second, .val (.int f0), .val (.int f1), .val (.int f2), .val (.int g0), .val (.int g1), .val (.int g2), .val (.ref b85), .val (.ref b86), .val (.long va0), .second, .val (.long va1), .second, .val (.long va2), .second, .val (.long vb0), .second, .val (.long vb1), .second, .unset, .unset, .unset] []))
                        refine own_st (fun zw zk => XS.iload X86.here hx rfl (hb hby at_226) rfl zk) ?_
                        by_cases hc228 : g2 = (0 : Int32)
                        · refine own_st (fun zw zk => XS.ifYes X86.here hx rfl (pc0 := 228) (pc' := 236) rfl (hb hby at_228) rfl ((if0 _ _).trans (teq hc228).1) (by decide) (by decide) zk) ?_
                          refine own_st (fun zw zk => XS.lconst X86.here hx rfl (hb hby at_236) zk) ?_
                          refine own_st (fun zw zk => XS.lstore X86.here hx rfl (hb hby at_237) rfl rfl zk) ?_
                          show own_Go p e below G (T86.setTop (mkF m 239 #[.val (.int p0), .val (.long q1), .second, .val (.long q2), .second, .val (.long q3), .second, .val (.long q4), .second, .val (.long q5), .second, .val (.long y2), .second, .val (.int f0), .val (.int f1), .val (.int f2), .val (.int g0), .val (.int g1), .val (.int g2), .val (.ref b85), .val (.ref b86), .val (.long va0), .second, .val (.long va1), .second, .val (.long va2), .second, .val (.long vb0), .second, .val (.long vb1), .second, .val (.long (0 : Int64)), .second, .unset] []))
                          exact J239_92 (0 : Int64) (by unfold own_sel; rw [if_pos hc228])
                        · refine own_st (fun zw zk => XS.ifNo X86.here hx rfl (hb hby at_228) rfl ((if0 _ _).trans (feq hc228).1) zk) ?_
                          refine own_st (fun zw zk => XS.lload X86.here hx rfl (hb hby at_231) rfl zk) ?_
                          refine own_st (fun zw zk => XS.goto X86.here hx rfl (pc0 := 233) (pc' := 237) rfl (hb hby at_233) (by decide) (by decide) zk) ?_
                          show own_Go p e below G (T86.setTop (mkF m 237 #[.val (.int p0), .val (.long q1), .second, .val (.long q2), .second, .val (.long q3), .second, .val (.long q4), .second, .val (.long q5), .second, .val (.long y2), .second, .val (.int f0), .val (.int f1), .val (.int f2), .val (.int g0), .val (.int g1), .val (.int g2), .val (.ref b85), .val (.ref b86), .val (.long va0), .second, .val (.long va1), .second, .val (.long va2), .second, .val (.long vb0), .second, .val (.long vb1), .second, .unset, .unset, .unset] [(.long y2)]))
                          refine own_st (fun zw zk => XS.lstore X86.here hx rfl (hb hby at_237) rfl rfl zk) ?_
                          show own_Go p e below G (T86.setTop (mkF m 239 #[.val (.int p0), .val (.long q1), .second, .val (.long q2), .second, .val (.long q3), .second, .val (.long q4), .second, .val (.long q5), .second, .val (.long y2), .second, .val (.int f0), .val (.int f1), .val (.int f2), .val (.int g0), .val (.int g1), .val (.int g2), .val (.ref b85), .val (.ref b86), .val (.long va0), .second, .val (.long va1), .second, .val (.long va2), .second, .val (.long vb0), .second, .val (.long vb1), .second, .val (.long y2), .second, .unset] []))
                          exact J239_92 y2 (by unfold own_sel; rw [if_neg hc228])
                      show own_Go p e below G (T86.setTop (mkF m 213 #[.val (.int p0), .val (.long q1), .second, .val (.long q2), .second, .val (.long q3), .second, .val (.long q4), .second, .val (.long q5), .second, .val (.long y2), .second, .val (.int f0), .val (.int f1), .val (.int f2), .val (.int g0), .val (.int g1), .val (.int g2), .val (.ref b85), .val (.ref b86), .val (.long va0), .second, .val (.long va1), .second, .val (.long va2), .second, .val (.long vb0), .second, .unset, .unset, .unset, .unset, .unset] []))
                      refine own_st (fun zw zk => XS.iload X86.here hx rfl (hb hby at_213) rfl zk) ?_
                      by_cases hc215 : g1 = (0 : Int32)
                      · refine own_st (fun zw zk => XS.ifYes X86.here hx rfl (pc0 := 215) (pc' := 223) rfl (hb hby at_215) rfl ((if0 _ _).trans (teq hc215).1) (by decide) (by decide) zk) ?_
                        refine own_st (fun zw zk => XS.lconst X86.here hx rfl (hb hby at_223) zk) ?_
                        refine own_st (fun zw zk => XS.lstore X86.here hx rfl (hb hby at_224) rfl rfl zk) ?_
                        show own_Go p e below G (T86.setTop (mkF m 226 #[.val (.int p0), .val (.long q1), .second, .val (.long q2), .second, .val (.long q3), .second, .val (.long q4), .second, .val (.long q5), .second, .val (.long y2), .second, .val (.int f0), .val (.int f1), .val (.int f2), .val (.int g0), .val (.int g1), .val (.int g2), .val (.ref b85), .val (.ref b86), .val (.long va0), .second, .val (.long va1), .second, .val (.long va2), .second, .val (.long vb0), .second, .val (.long (0 : Int64)), .second, .unset, .unset, .unset] []))
                        exact J226_91 (0 : Int64) (by unfold own_sel; rw [if_pos hc215])
                      · refine own_st (fun zw zk => XS.ifNo X86.here hx rfl (hb hby at_215) rfl ((if0 _ _).trans (feq hc215).1) zk) ?_
                        refine own_st (fun zw zk => XS.lload X86.here hx rfl (hb hby at_218) rfl zk) ?_
                        refine own_st (fun zw zk => XS.goto X86.here hx rfl (pc0 := 220) (pc' := 224) rfl (hb hby at_220) (by decide) (by decide) zk) ?_
                        show own_Go p e below G (T86.setTop (mkF m 224 #[.val (.int p0), .val (.long q1), .second, .val (.long q2), .second, .val (.long q3), .second, .val (.long q4), .second, .val (.long q5), .second, .val (.long y2), .second, .val (.int f0), .val (.int f1), .val (.int f2), .val (.int g0), .val (.int g1), .val (.int g2), .val (.ref b85), .val (.ref b86), .val (.long va0), .second, .val (.long va1), .second, .val (.long va2), .second, .val (.long vb0), .second, .unset, .unset, .unset, .unset, .unset] [(.long q5)]))
                        refine own_st (fun zw zk => XS.lstore X86.here hx rfl (hb hby at_224) rfl rfl zk) ?_
                        show own_Go p e below G (T86.setTop (mkF m 226 #[.val (.int p0), .val (.long q1), .second, .val (.long q2), .second, .val (.long q3), .second, .val (.long q4), .second, .val (.long q5), .second, .val (.long y2), .second, .val (.int f0), .val (.int f1), .val (.int f2), .val (.int g0), .val (.int g1), .val (.int g2), .val (.ref b85), .val (.ref b86), .val (.long va0), .second, .val (.long va1), .second, .val (.long va2), .second, .val (.long vb0), .second, .val (.long q5), .second, .unset, .unset, .unset] []))
                        exact J226_91 q5 (by unfold own_sel; rw [if_neg hc215])
                    show own_Go p e below G (T86.setTop (mkF m 200 #[.val (.int p0), .val (.long q1), .second, .val (.long q2), .second, .val (.long q3), .second, .val (.long q4), .second, .val (.long q5), .second, .val (.long y2), .second, .val (.int f0), .val (.int f1), .val (.int f2), .val (.int g0), .val (.int g1), .val (.int g2), .val (.ref b85), .val (.ref b86), .val (.long va0), .second, .val (.long va1), .second, .val (.long va2), .second, .unset, .unset, .unset, .unset, .unset, .unset, .unset] []))
                    refine own_st (fun zw zk => XS.iload X86.here hx rfl (hb hby at_200) rfl zk) ?_
                    by_cases hc202 : g0 = (0 : Int32)
                    · refine own_st (fun zw zk => XS.ifYes X86.here hx rfl (pc0 := 202) (pc' := 210) rfl (hb hby at_202) rfl ((if0 _ _).trans (teq hc202).1) (by decide) (by decide) zk) ?_
                      refine own_st (fun zw zk => XS.lconst X86.here hx rfl (hb hby at_210) zk) ?_
                      refine own_st (fun zw zk => XS.lstore X86.here hx rfl (hb hby at_211) rfl rfl zk) ?_
                      show own_Go p e below G (T86.setTop (mkF m 213 #[.val (.int p0), .val (.long q1), .second, .val (.long q2), .second, .val (.long q3), .second, .val (.long q4), .second, .val (.long q5), .second, .val (.long y2), .second, .val (.int f0), .val (.int f1), .val (.int f2), .val (.int g0), .val (.int g1), .val (.int g2), .val (.ref b85), .val (.ref b86), .val (.long va0), .second, .val (.long va1), .second, .val (.long va2), .second, .val (.long (0 : Int64)), .second, .unset, .unset, .unset, .unset, .unset] []))
                      exact J213_90 (0 : Int64) (by unfold own_sel; rw [if_pos hc202])
                    · refine own_st (fun zw zk => XS.ifNo X86.here hx rfl (hb hby at_202) rfl ((if0 _ _).trans (feq hc202).1) zk) ?_
                      refine own_st (fun zw zk => XS.lload X86.here hx rfl (hb hby at_205) rfl zk) ?_
                      refine own_st (fun zw zk => XS.goto X86.here hx rfl (pc0 := 207) (pc' := 211) rfl (hb hby at_207) (by decide) (by decide) zk) ?_
                      show own_Go p e below G (T86.setTop (mkF m 211 #[.val (.int p0), .val (.long q1), .second, .val (.long q2), .second, .val (.long q3), .second, .val (.long q4), .second, .val (.long q5), .second, .val (.long y2), .second, .val (.int f0), .val (.int f1), .val (.int f2), .val (.int g0), .val (.int g1), .val (.int g2), .val (.ref b85), .val (.ref b86), .val (.long va0), .second, .val (.long va1), .second, .val (.long va2), .second, .unset, .unset, .unset, .unset, .unset, .unset, .unset] [(.long q4)]))
                      refine own_st (fun zw zk => XS.lstore X86.here hx rfl (hb hby at_211) rfl rfl zk) ?_
                      show own_Go p e below G (T86.setTop (mkF m 213 #[.val (.int p0), .val (.long q1), .second, .val (.long q2), .second, .val (.long q3), .second, .val (.long q4), .second, .val (.long q5), .second, .val (.long y2), .second, .val (.int f0), .val (.int f1), .val (.int f2), .val (.int g0), .val (.int g1), .val (.int g2), .val (.ref b85), .val (.ref b86), .val (.long va0), .second, .val (.long va1), .second, .val (.long va2), .second, .val (.long q4), .second, .unset, .unset, .unset, .unset, .unset] []))
                      exact J213_90 q4 (by unfold own_sel; rw [if_neg hc202])
                  show own_Go p e below G (T86.setTop (mkF m 187 #[.val (.int p0), .val (.long q1), .second, .val (.long q2), .second, .val (.long q3), .second, .val (.long q4), .second, .val (.long q5), .second, .val (.long y2), .second, .val (.int f0), .val (.int f1), .val (.int f2), .val (.int g0), .val (.int g1), .val (.int g2), .val (.ref b85), .val (.ref b86), .val (.long va0), .second, .val (.long va1), .second, .unset, .unset, .unset, .unset, .unset, .unset, .unset, .unset, .unset] []))
                  refine own_st (fun zw zk => XS.iload X86.here hx rfl (hb hby at_187) rfl zk) ?_
                  by_cases hc189 : f2 = (0 : Int32)
                  · refine own_st (fun zw zk => XS.ifYes X86.here hx rfl (pc0 := 189) (pc' := 197) rfl (hb hby at_189) rfl ((if0 _ _).trans (teq hc189).1) (by decide) (by decide) zk) ?_
                    refine own_st (fun zw zk => XS.lconst X86.here hx rfl (hb hby at_197) zk) ?_
                    refine own_st (fun zw zk => XS.lstore X86.here hx rfl (hb hby at_198) rfl rfl zk) ?_
                    show own_Go p e below G (T86.setTop (mkF m 200 #[.val (.int p0), .val (.long q1), .second, .val (.long q2), .second, .val (.long q3), .second, .val (.long q4), .second, .val (.long q5), .second, .val (.long y2), .second, .val (.int f0), .val (.int f1), .val (.int f2), .val (.int g0), .val (.int g1), .val (.int g2), .val (.ref b85), .val (.ref b86), .val (.long va0), .second, .val (.long va1), .second, .val (.long (0 : Int64)), .second, .unset, .unset, .unset, .unset, .unset, .unset, .unset] []))
                    exact J200_89 (0 : Int64) (by unfold own_sel; rw [if_pos hc189])
                  · refine own_st (fun zw zk => XS.ifNo X86.here hx rfl (hb hby at_189) rfl ((if0 _ _).trans (feq hc189).1) zk) ?_
                    refine own_st (fun zw zk => XS.lload X86.here hx rfl (hb hby at_192) rfl zk) ?_
                    refine own_st (fun zw zk => XS.goto X86.here hx rfl (pc0 := 194) (pc' := 198) rfl (hb hby at_194) (by decide) (by decide) zk) ?_
                    show own_Go p e below G (T86.setTop (mkF m 198 #[.val (.int p0), .val (.long q1), .second, .val (.long q2), .second, .val (.long q3), .second, .val (.long q4), .second, .val (.long q5), .second, .val (.long y2), .second, .val (.int f0), .val (.int f1), .val (.int f2), .val (.int g0), .val (.int g1), .val (.int g2), .val (.ref b85), .val (.ref b86), .val (.long va0), .second, .val (.long va1), .second, .unset, .unset, .unset, .unset, .unset, .unset, .unset, .unset, .unset] [(.long q3)]))
                    refine own_st (fun zw zk => XS.lstore X86.here hx rfl (hb hby at_198) rfl rfl zk) ?_
                    show own_Go p e below G (T86.setTop (mkF m 200 #[.val (.int p0), .val (.long q1), .second, .val (.long q2), .second, .val (.long q3), .second, .val (.long q4), .second, .val (.long q5), .second, .val (.long y2), .second, .val (.int f0), .val (.int f1), .val (.int f2), .val (.int g0), .val (.int g1), .val (.int g2), .val (.ref b85), .val (.ref b86), .val (.long va0), .second, .val (.long va1), .second, .val (.long q3), .second, .unset, .unset, .unset, .unset, .unset, .unset, .unset] []))
                    exact J200_89 q3 (by unfold own_sel; rw [if_neg hc189])
                show own_Go p e below G (T86.setTop (mkF m 175 #[.val (.int p0), .val (.long q1), .second, .val (.long q2), .second, .val (.long q3), .second, .val (.long q4), .second, .val (.long q5), .second, .val (.long y2), .second, .val (.int f0), .val (.int f1), .val (.int f2), .val (.int g0), .val (.int g1), .val (.int g2), .val (.ref b85), .val (.ref b86), .val (.long va0), .second, .unset, .unset, .unset, .unset, .unset, .unset, .unset, .unset, .unset, .unset, .unset] []))
                refine own_st (fun zw zk => XS.iload X86.here hx rfl (hb hby at_175) rfl zk) ?_
                by_cases hc177 : f1 = (0 : Int32)
                · refine own_st (fun zw zk => XS.ifYes X86.here hx rfl (pc0 := 177) (pc' := 184) rfl (hb hby at_177) rfl ((if0 _ _).trans (teq hc177).1) (by decide) (by decide) zk) ?_
                  refine own_st (fun zw zk => XS.lconst X86.here hx rfl (hb hby at_184) zk) ?_
                  refine own_st (fun zw zk => XS.lstore X86.here hx rfl (hb hby at_185) rfl rfl zk) ?_
                  show own_Go p e below G (T86.setTop (mkF m 187 #[.val (.int p0), .val (.long q1), .second, .val (.long q2), .second, .val (.long q3), .second, .val (.long q4), .second, .val (.long q5), .second, .val (.long y2), .second, .val (.int f0), .val (.int f1), .val (.int f2), .val (.int g0), .val (.int g1), .val (.int g2), .val (.ref b85), .val (.ref b86), .val (.long va0), .second, .val (.long (0 : Int64)), .second, .unset, .unset, .unset, .unset, .unset, .unset, .unset, .unset, .unset] []))
                  exact J187_88 (0 : Int64) (by unfold own_sel; rw [if_pos hc177])
                · refine own_st (fun zw zk => XS.ifNo X86.here hx rfl (hb hby at_177) rfl ((if0 _ _).trans (feq hc177).1) zk) ?_
                  refine own_st (fun zw zk => XS.lloadN X86.here hx rfl (hb hby at_180) rfl zk) ?_
                  refine own_st (fun zw zk => XS.goto X86.here hx rfl (pc0 := 181) (pc' := 185) rfl (hb hby at_181) (by decide) (by decide) zk) ?_
                  show own_Go p e below G (T86.setTop (mkF m 185 #[.val (.int p0), .val (.long q1), .second, .val (.long q2), .second, .val (.long q3), .second, .val (.long q4), .second, .val (.long q5), .second, .val (.long y2), .second, .val (.int f0), .val (.int f1), .val (.int f2), .val (.int g0), .val (.int g1), .val (.int g2), .val (.ref b85), .val (.ref b86), .val (.long va0), .second, .unset, .unset, .unset, .unset, .unset, .unset, .unset, .unset, .unset, .unset, .unset] [(.long q2)]))
                  refine own_st (fun zw zk => XS.lstore X86.here hx rfl (hb hby at_185) rfl rfl zk) ?_
                  show own_Go p e below G (T86.setTop (mkF m 187 #[.val (.int p0), .val (.long q1), .second, .val (.long q2), .second, .val (.long q3), .second, .val (.long q4), .second, .val (.long q5), .second, .val (.long y2), .second, .val (.int f0), .val (.int f1), .val (.int f2), .val (.int g0), .val (.int g1), .val (.int g2), .val (.ref b85), .val (.ref b86), .val (.long va0), .second, .val (.long q2), .second, .unset, .unset, .unset, .unset, .unset, .unset, .unset, .unset, .unset] []))
                  exact J187_88 q2 (by unfold own_sel; rw [if_neg hc177])
              show own_Go p e below G (T86.setTop (mkF m 163 #[.val (.int p0), .val (.long q1), .second, .val (.long q2), .second, .val (.long q3), .second, .val (.long q4), .second, .val (.long q5), .second, .val (.long y2), .second, .val (.int f0), .val (.int f1), .val (.int f2), .val (.int g0), .val (.int g1), .val (.int g2), .val (.ref b85), .val (.ref b86), .unset, .unset, .unset, .unset, .unset, .unset, .unset, .unset, .unset, .unset, .unset, .unset, .unset] []))
              refine own_st (fun zw zk => XS.iload X86.here hx rfl (hb hby at_163) rfl zk) ?_
              by_cases hc165 : f0 = (0 : Int32)
              · refine own_st (fun zw zk => XS.ifYes X86.here hx rfl (pc0 := 165) (pc' := 172) rfl (hb hby at_165) rfl ((if0 _ _).trans (teq hc165).1) (by decide) (by decide) zk) ?_
                refine own_st (fun zw zk => XS.lconst X86.here hx rfl (hb hby at_172) zk) ?_
                refine own_st (fun zw zk => XS.lstore X86.here hx rfl (hb hby at_173) rfl rfl zk) ?_
                show own_Go p e below G (T86.setTop (mkF m 175 #[.val (.int p0), .val (.long q1), .second, .val (.long q2), .second, .val (.long q3), .second, .val (.long q4), .second, .val (.long q5), .second, .val (.long y2), .second, .val (.int f0), .val (.int f1), .val (.int f2), .val (.int g0), .val (.int g1), .val (.int g2), .val (.ref b85), .val (.ref b86), .val (.long (0 : Int64)), .second, .unset, .unset, .unset, .unset, .unset, .unset, .unset, .unset, .unset, .unset, .unset] []))
                exact J175_87 (0 : Int64) (by unfold own_sel; rw [if_pos hc165])
              · refine own_st (fun zw zk => XS.ifNo X86.here hx rfl (hb hby at_165) rfl ((if0 _ _).trans (feq hc165).1) zk) ?_
                refine own_st (fun zw zk => XS.lloadN X86.here hx rfl (hb hby at_168) rfl zk) ?_
                refine own_st (fun zw zk => XS.goto X86.here hx rfl (pc0 := 169) (pc' := 173) rfl (hb hby at_169) (by decide) (by decide) zk) ?_
                show own_Go p e below G (T86.setTop (mkF m 173 #[.val (.int p0), .val (.long q1), .second, .val (.long q2), .second, .val (.long q3), .second, .val (.long q4), .second, .val (.long q5), .second, .val (.long y2), .second, .val (.int f0), .val (.int f1), .val (.int f2), .val (.int g0), .val (.int g1), .val (.int g2), .val (.ref b85), .val (.ref b86), .unset, .unset, .unset, .unset, .unset, .unset, .unset, .unset, .unset, .unset, .unset, .unset, .unset] [(.long q1)]))
                refine own_st (fun zw zk => XS.lstore X86.here hx rfl (hb hby at_173) rfl rfl zk) ?_
                show own_Go p e below G (T86.setTop (mkF m 175 #[.val (.int p0), .val (.long q1), .second, .val (.long q2), .second, .val (.long q3), .second, .val (.long q4), .second, .val (.long q5), .second, .val (.long y2), .second, .val (.int f0), .val (.int f1), .val (.int f2), .val (.int g0), .val (.int g1), .val (.int g2), .val (.ref b85), .val (.ref b86), .val (.long q1), .second, .unset, .unset, .unset, .unset, .unset, .unset, .unset, .unset, .unset, .unset, .unset] []))
                exact J175_87 q1 (by unfold own_sel; rw [if_neg hc165])
            refine own_st (fun zw zk => XS.iloadN X0.here hx rfl (hb hby at_110) rfl zk) ?_
            refine own_st (fun zw zk => XS.bipush X0.here hx rfl (hb hby at_111) zk) ?_
            refine own_st (fun zw zk => XS.iand X0.here hx rfl (hb hby at_113) rfl zk) ?_
            by_cases hc114 : (p0 &&& (32 : Int32)) = (0 : Int32)
            · refine own_st (fun zw zk => XS.ifYes X0.here hx rfl (pc0 := 114) (pc' := 128) rfl (hb hby at_114) rfl ((if0 _ _).trans (teq hc114).1) (by decide) (by decide) zk) ?_
              refine own_st (fun zw zk => XS.iconst X0.here hx rfl (hb hby at_128) zk) ?_
              refine own_st (fun zw zk => XS.istore X0.here hx rfl (hb hby at_129) rfl rfl zk) ?_
              show own_Go p e below G (s₁.setTop (mkF m 131 #[.val (.int p0), .val (.long q1), .second, .val (.long q2), .second, .val (.long q3), .second, .val (.long q4), .second, .val (.long q5), .second, .val (.long y2), .second, .val (.int f0), .val (.int f1), .val (.int f2), .val (.int g0), .val (.int g1), .val (.int (0 : Int32)), .unset, .unset, .unset, .unset, .unset, .unset, .unset, .unset, .unset, .unset, .unset, .unset, .unset, .unset, .unset] []))
              exact J131_84 (0 : Int32)
            · refine own_st (fun zw zk => XS.ifNo X0.here hx rfl (hb hby at_114) rfl ((if0 _ _).trans (feq hc114).1) zk) ?_
              refine own_st (fun zw zk => XS.lload X0.here hx rfl (hb hby at_117) rfl zk) ?_
              refine own_st (fun zw zk => XS.lconst X0.here hx rfl (hb hby at_119) zk) ?_
              refine own_st (fun zw zk => XS.lcmp X0.here hx rfl (hb hby at_120) rfl zk) ?_
              by_cases hc121 : y2 = (0 : Int64)
              · refine own_st (fun zw zk => XS.ifYes X0.here hx rfl (pc0 := 121) (pc' := 128) rfl (hb hby at_121) rfl ((if0 _ _).trans (teq (own_tle hc121)).1) (by decide) (by decide) zk) ?_
                show own_Go p e below G (s₁.setTop (mkF m 128 #[.val (.int p0), .val (.long q1), .second, .val (.long q2), .second, .val (.long q3), .second, .val (.long q4), .second, .val (.long q5), .second, .val (.long y2), .second, .val (.int f0), .val (.int f1), .val (.int f2), .val (.int g0), .val (.int g1), .unset, .unset, .unset, .unset, .unset, .unset, .unset, .unset, .unset, .unset, .unset, .unset, .unset, .unset, .unset, .unset] []))
                refine own_st (fun zw zk => XS.iconst X0.here hx rfl (hb hby at_128) zk) ?_
                refine own_st (fun zw zk => XS.istore X0.here hx rfl (hb hby at_129) rfl rfl zk) ?_
                show own_Go p e below G (s₁.setTop (mkF m 131 #[.val (.int p0), .val (.long q1), .second, .val (.long q2), .second, .val (.long q3), .second, .val (.long q4), .second, .val (.long q5), .second, .val (.long y2), .second, .val (.int f0), .val (.int f1), .val (.int f2), .val (.int g0), .val (.int g1), .val (.int (0 : Int32)), .unset, .unset, .unset, .unset, .unset, .unset, .unset, .unset, .unset, .unset, .unset, .unset, .unset, .unset, .unset] []))
                exact J131_84 (0 : Int32)
              · refine own_st (fun zw zk => XS.ifNo X0.here hx rfl (hb hby at_121) rfl ((if0 _ _).trans (feq (own_fle hc121)).1) zk) ?_
                show own_Go p e below G (s₁.setTop (mkF m 124 #[.val (.int p0), .val (.long q1), .second, .val (.long q2), .second, .val (.long q3), .second, .val (.long q4), .second, .val (.long q5), .second, .val (.long y2), .second, .val (.int f0), .val (.int f1), .val (.int f2), .val (.int g0), .val (.int g1), .unset, .unset, .unset, .unset, .unset, .unset, .unset, .unset, .unset, .unset, .unset, .unset, .unset, .unset, .unset, .unset] []))
                refine own_st (fun zw zk => XS.iconst X0.here hx rfl (hb hby at_124) zk) ?_
                refine own_st (fun zw zk => XS.goto X0.here hx rfl (pc0 := 125) (pc' := 129) rfl (hb hby at_125) (by decide) (by decide) zk) ?_
                show own_Go p e below G (s₁.setTop (mkF m 129 #[.val (.int p0), .val (.long q1), .second, .val (.long q2), .second, .val (.long q3), .second, .val (.long q4), .second, .val (.long q5), .second, .val (.long y2), .second, .val (.int f0), .val (.int f1), .val (.int f2), .val (.int g0), .val (.int g1), .unset, .unset, .unset, .unset, .unset, .unset, .unset, .unset, .unset, .unset, .unset, .unset, .unset, .unset, .unset, .unset] [(.int (1 : Int32))]))
                refine own_st (fun zw zk => XS.istore X0.here hx rfl (hb hby at_129) rfl rfl zk) ?_
                show own_Go p e below G (s₁.setTop (mkF m 131 #[.val (.int p0), .val (.long q1), .second, .val (.long q2), .second, .val (.long q3), .second, .val (.long q4), .second, .val (.long q5), .second, .val (.long y2), .second, .val (.int f0), .val (.int f1), .val (.int f2), .val (.int g0), .val (.int g1), .val (.int (1 : Int32)), .unset, .unset, .unset, .unset, .unset, .unset, .unset, .unset, .unset, .unset, .unset, .unset, .unset, .unset, .unset] []))
                exact J131_84 (1 : Int32)
          refine own_st (fun zw zk => XS.iloadN X0.here hx rfl (hb hby at_89) rfl zk) ?_
          refine own_st (fun zw zk => XS.bipush X0.here hx rfl (hb hby at_90) zk) ?_
          refine own_st (fun zw zk => XS.iand X0.here hx rfl (hb hby at_92) rfl zk) ?_
          by_cases hc93 : (p0 &&& (16 : Int32)) = (0 : Int32)
          · refine own_st (fun zw zk => XS.ifYes X0.here hx rfl (pc0 := 93) (pc' := 107) rfl (hb hby at_93) rfl ((if0 _ _).trans (teq hc93).1) (by decide) (by decide) zk) ?_
            refine own_st (fun zw zk => XS.iconst X0.here hx rfl (hb hby at_107) zk) ?_
            refine own_st (fun zw zk => XS.istore X0.here hx rfl (hb hby at_108) rfl rfl zk) ?_
            show own_Go p e below G (s₁.setTop (mkF m 110 #[.val (.int p0), .val (.long q1), .second, .val (.long q2), .second, .val (.long q3), .second, .val (.long q4), .second, .val (.long q5), .second, .val (.long y2), .second, .val (.int f0), .val (.int f1), .val (.int f2), .val (.int g0), .val (.int (0 : Int32)), .unset, .unset, .unset, .unset, .unset, .unset, .unset, .unset, .unset, .unset, .unset, .unset, .unset, .unset, .unset, .unset] []))
            exact J110_83 (0 : Int32)
          · refine own_st (fun zw zk => XS.ifNo X0.here hx rfl (hb hby at_93) rfl ((if0 _ _).trans (feq hc93).1) zk) ?_
            refine own_st (fun zw zk => XS.lload X0.here hx rfl (hb hby at_96) rfl zk) ?_
            refine own_st (fun zw zk => XS.lconst X0.here hx rfl (hb hby at_98) zk) ?_
            refine own_st (fun zw zk => XS.lcmp X0.here hx rfl (hb hby at_99) rfl zk) ?_
            by_cases hc100 : q5 = (0 : Int64)
            · refine own_st (fun zw zk => XS.ifYes X0.here hx rfl (pc0 := 100) (pc' := 107) rfl (hb hby at_100) rfl ((if0 _ _).trans (teq (own_tle hc100)).1) (by decide) (by decide) zk) ?_
              show own_Go p e below G (s₁.setTop (mkF m 107 #[.val (.int p0), .val (.long q1), .second, .val (.long q2), .second, .val (.long q3), .second, .val (.long q4), .second, .val (.long q5), .second, .val (.long y2), .second, .val (.int f0), .val (.int f1), .val (.int f2), .val (.int g0), .unset, .unset, .unset, .unset, .unset, .unset, .unset, .unset, .unset, .unset, .unset, .unset, .unset, .unset, .unset, .unset, .unset] []))
              refine own_st (fun zw zk => XS.iconst X0.here hx rfl (hb hby at_107) zk) ?_
              refine own_st (fun zw zk => XS.istore X0.here hx rfl (hb hby at_108) rfl rfl zk) ?_
              show own_Go p e below G (s₁.setTop (mkF m 110 #[.val (.int p0), .val (.long q1), .second, .val (.long q2), .second, .val (.long q3), .second, .val (.long q4), .second, .val (.long q5), .second, .val (.long y2), .second, .val (.int f0), .val (.int f1), .val (.int f2), .val (.int g0), .val (.int (0 : Int32)), .unset, .unset, .unset, .unset, .unset, .unset, .unset, .unset, .unset, .unset, .unset, .unset, .unset, .unset, .unset, .unset] []))
              exact J110_83 (0 : Int32)
            · refine own_st (fun zw zk => XS.ifNo X0.here hx rfl (hb hby at_100) rfl ((if0 _ _).trans (feq (own_fle hc100)).1) zk) ?_
              show own_Go p e below G (s₁.setTop (mkF m 103 #[.val (.int p0), .val (.long q1), .second, .val (.long q2), .second, .val (.long q3), .second, .val (.long q4), .second, .val (.long q5), .second, .val (.long y2), .second, .val (.int f0), .val (.int f1), .val (.int f2), .val (.int g0), .unset, .unset, .unset, .unset, .unset, .unset, .unset, .unset, .unset, .unset, .unset, .unset, .unset, .unset, .unset, .unset, .unset] []))
              refine own_st (fun zw zk => XS.iconst X0.here hx rfl (hb hby at_103) zk) ?_
              refine own_st (fun zw zk => XS.goto X0.here hx rfl (pc0 := 104) (pc' := 108) rfl (hb hby at_104) (by decide) (by decide) zk) ?_
              show own_Go p e below G (s₁.setTop (mkF m 108 #[.val (.int p0), .val (.long q1), .second, .val (.long q2), .second, .val (.long q3), .second, .val (.long q4), .second, .val (.long q5), .second, .val (.long y2), .second, .val (.int f0), .val (.int f1), .val (.int f2), .val (.int g0), .unset, .unset, .unset, .unset, .unset, .unset, .unset, .unset, .unset, .unset, .unset, .unset, .unset, .unset, .unset, .unset, .unset] [(.int (1 : Int32))]))
              refine own_st (fun zw zk => XS.istore X0.here hx rfl (hb hby at_108) rfl rfl zk) ?_
              show own_Go p e below G (s₁.setTop (mkF m 110 #[.val (.int p0), .val (.long q1), .second, .val (.long q2), .second, .val (.long q3), .second, .val (.long q4), .second, .val (.long q5), .second, .val (.long y2), .second, .val (.int f0), .val (.int f1), .val (.int f2), .val (.int g0), .val (.int (1 : Int32)), .unset, .unset, .unset, .unset, .unset, .unset, .unset, .unset, .unset, .unset, .unset, .unset, .unset, .unset, .unset, .unset] []))
              exact J110_83 (1 : Int32)
        refine own_st (fun zw zk => XS.iloadN X0.here hx rfl (hb hby at_68) rfl zk) ?_
        refine own_st (fun zw zk => XS.bipush X0.here hx rfl (hb hby at_69) zk) ?_
        refine own_st (fun zw zk => XS.iand X0.here hx rfl (hb hby at_71) rfl zk) ?_
        by_cases hc72 : (p0 &&& (8 : Int32)) = (0 : Int32)
        · refine own_st (fun zw zk => XS.ifYes X0.here hx rfl (pc0 := 72) (pc' := 86) rfl (hb hby at_72) rfl ((if0 _ _).trans (teq hc72).1) (by decide) (by decide) zk) ?_
          refine own_st (fun zw zk => XS.iconst X0.here hx rfl (hb hby at_86) zk) ?_
          refine own_st (fun zw zk => XS.istore X0.here hx rfl (hb hby at_87) rfl rfl zk) ?_
          show own_Go p e below G (s₁.setTop (mkF m 89 #[.val (.int p0), .val (.long q1), .second, .val (.long q2), .second, .val (.long q3), .second, .val (.long q4), .second, .val (.long q5), .second, .val (.long y2), .second, .val (.int f0), .val (.int f1), .val (.int f2), .val (.int (0 : Int32)), .unset, .unset, .unset, .unset, .unset, .unset, .unset, .unset, .unset, .unset, .unset, .unset, .unset, .unset, .unset, .unset, .unset] []))
          exact J89_82 (0 : Int32)
        · refine own_st (fun zw zk => XS.ifNo X0.here hx rfl (hb hby at_72) rfl ((if0 _ _).trans (feq hc72).1) zk) ?_
          refine own_st (fun zw zk => XS.lload X0.here hx rfl (hb hby at_75) rfl zk) ?_
          refine own_st (fun zw zk => XS.lconst X0.here hx rfl (hb hby at_77) zk) ?_
          refine own_st (fun zw zk => XS.lcmp X0.here hx rfl (hb hby at_78) rfl zk) ?_
          by_cases hc79 : q4 = (0 : Int64)
          · refine own_st (fun zw zk => XS.ifYes X0.here hx rfl (pc0 := 79) (pc' := 86) rfl (hb hby at_79) rfl ((if0 _ _).trans (teq (own_tle hc79)).1) (by decide) (by decide) zk) ?_
            show own_Go p e below G (s₁.setTop (mkF m 86 #[.val (.int p0), .val (.long q1), .second, .val (.long q2), .second, .val (.long q3), .second, .val (.long q4), .second, .val (.long q5), .second, .val (.long y2), .second, .val (.int f0), .val (.int f1), .val (.int f2), .unset, .unset, .unset, .unset, .unset, .unset, .unset, .unset, .unset, .unset, .unset, .unset, .unset, .unset, .unset, .unset, .unset, .unset] []))
            refine own_st (fun zw zk => XS.iconst X0.here hx rfl (hb hby at_86) zk) ?_
            refine own_st (fun zw zk => XS.istore X0.here hx rfl (hb hby at_87) rfl rfl zk) ?_
            show own_Go p e below G (s₁.setTop (mkF m 89 #[.val (.int p0), .val (.long q1), .second, .val (.long q2), .second, .val (.long q3), .second, .val (.long q4), .second, .val (.long q5), .second, .val (.long y2), .second, .val (.int f0), .val (.int f1), .val (.int f2), .val (.int (0 : Int32)), .unset, .unset, .unset, .unset, .unset, .unset, .unset, .unset, .unset, .unset, .unset, .unset, .unset, .unset, .unset, .unset, .unset] []))
            exact J89_82 (0 : Int32)
          · refine own_st (fun zw zk => XS.ifNo X0.here hx rfl (hb hby at_79) rfl ((if0 _ _).trans (feq (own_fle hc79)).1) zk) ?_
            show own_Go p e below G (s₁.setTop (mkF m 82 #[.val (.int p0), .val (.long q1), .second, .val (.long q2), .second, .val (.long q3), .second, .val (.long q4), .second, .val (.long q5), .second, .val (.long y2), .second, .val (.int f0), .val (.int f1), .val (.int f2), .unset, .unset, .unset, .unset, .unset, .unset, .unset, .unset, .unset, .unset, .unset, .unset, .unset, .unset, .unset, .unset, .unset, .unset] []))
            refine own_st (fun zw zk => XS.iconst X0.here hx rfl (hb hby at_82) zk) ?_
            refine own_st (fun zw zk => XS.goto X0.here hx rfl (pc0 := 83) (pc' := 87) rfl (hb hby at_83) (by decide) (by decide) zk) ?_
            show own_Go p e below G (s₁.setTop (mkF m 87 #[.val (.int p0), .val (.long q1), .second, .val (.long q2), .second, .val (.long q3), .second, .val (.long q4), .second, .val (.long q5), .second, .val (.long y2), .second, .val (.int f0), .val (.int f1), .val (.int f2), .unset, .unset, .unset, .unset, .unset, .unset, .unset, .unset, .unset, .unset, .unset, .unset, .unset, .unset, .unset, .unset, .unset, .unset] [(.int (1 : Int32))]))
            refine own_st (fun zw zk => XS.istore X0.here hx rfl (hb hby at_87) rfl rfl zk) ?_
            show own_Go p e below G (s₁.setTop (mkF m 89 #[.val (.int p0), .val (.long q1), .second, .val (.long q2), .second, .val (.long q3), .second, .val (.long q4), .second, .val (.long q5), .second, .val (.long y2), .second, .val (.int f0), .val (.int f1), .val (.int f2), .val (.int (1 : Int32)), .unset, .unset, .unset, .unset, .unset, .unset, .unset, .unset, .unset, .unset, .unset, .unset, .unset, .unset, .unset, .unset, .unset] []))
            exact J89_82 (1 : Int32)
      refine own_st (fun zw zk => XS.iloadN X0.here hx rfl (hb hby at_48) rfl zk) ?_
      refine own_st (fun zw zk => XS.iconst X0.here hx rfl (hb hby at_49) zk) ?_
      refine own_st (fun zw zk => XS.iand X0.here hx rfl (hb hby at_50) rfl zk) ?_
      by_cases hc51 : (p0 &&& (4 : Int32)) = (0 : Int32)
      · refine own_st (fun zw zk => XS.ifYes X0.here hx rfl (pc0 := 51) (pc' := 65) rfl (hb hby at_51) rfl ((if0 _ _).trans (teq hc51).1) (by decide) (by decide) zk) ?_
        refine own_st (fun zw zk => XS.iconst X0.here hx rfl (hb hby at_65) zk) ?_
        refine own_st (fun zw zk => XS.istore X0.here hx rfl (hb hby at_66) rfl rfl zk) ?_
        show own_Go p e below G (s₁.setTop (mkF m 68 #[.val (.int p0), .val (.long q1), .second, .val (.long q2), .second, .val (.long q3), .second, .val (.long q4), .second, .val (.long q5), .second, .val (.long y2), .second, .val (.int f0), .val (.int f1), .val (.int (0 : Int32)), .unset, .unset, .unset, .unset, .unset, .unset, .unset, .unset, .unset, .unset, .unset, .unset, .unset, .unset, .unset, .unset, .unset, .unset] []))
        exact J68_81 (0 : Int32)
      · refine own_st (fun zw zk => XS.ifNo X0.here hx rfl (hb hby at_51) rfl ((if0 _ _).trans (feq hc51).1) zk) ?_
        refine own_st (fun zw zk => XS.lload X0.here hx rfl (hb hby at_54) rfl zk) ?_
        refine own_st (fun zw zk => XS.lconst X0.here hx rfl (hb hby at_56) zk) ?_
        refine own_st (fun zw zk => XS.lcmp X0.here hx rfl (hb hby at_57) rfl zk) ?_
        by_cases hc58 : q3 = (0 : Int64)
        · refine own_st (fun zw zk => XS.ifYes X0.here hx rfl (pc0 := 58) (pc' := 65) rfl (hb hby at_58) rfl ((if0 _ _).trans (teq (own_tle hc58)).1) (by decide) (by decide) zk) ?_
          show own_Go p e below G (s₁.setTop (mkF m 65 #[.val (.int p0), .val (.long q1), .second, .val (.long q2), .second, .val (.long q3), .second, .val (.long q4), .second, .val (.long q5), .second, .val (.long y2), .second, .val (.int f0), .val (.int f1), .unset, .unset, .unset, .unset, .unset, .unset, .unset, .unset, .unset, .unset, .unset, .unset, .unset, .unset, .unset, .unset, .unset, .unset, .unset] []))
          refine own_st (fun zw zk => XS.iconst X0.here hx rfl (hb hby at_65) zk) ?_
          refine own_st (fun zw zk => XS.istore X0.here hx rfl (hb hby at_66) rfl rfl zk) ?_
          show own_Go p e below G (s₁.setTop (mkF m 68 #[.val (.int p0), .val (.long q1), .second, .val (.long q2), .second, .val (.long q3), .second, .val (.long q4), .second, .val (.long q5), .second, .val (.long y2), .second, .val (.int f0), .val (.int f1), .val (.int (0 : Int32)), .unset, .unset, .unset, .unset, .unset, .unset, .unset, .unset, .unset, .unset, .unset, .unset, .unset, .unset, .unset, .unset, .unset, .unset] []))
          exact J68_81 (0 : Int32)
        · refine own_st (fun zw zk => XS.ifNo X0.here hx rfl (hb hby at_58) rfl ((if0 _ _).trans (feq (own_fle hc58)).1) zk) ?_
          show own_Go p e below G (s₁.setTop (mkF m 61 #[.val (.int p0), .val (.long q1), .second, .val (.long q2), .second, .val (.long q3), .second, .val (.long q4), .second, .val (.long q5), .second, .val (.long y2), .second, .val (.int f0), .val (.int f1), .unset, .unset, .unset, .unset, .unset, .unset, .unset, .unset, .unset, .unset, .unset, .unset, .unset, .unset, .unset, .unset, .unset, .unset, .unset] []))
          refine own_st (fun zw zk => XS.iconst X0.here hx rfl (hb hby at_61) zk) ?_
          refine own_st (fun zw zk => XS.goto X0.here hx rfl (pc0 := 62) (pc' := 66) rfl (hb hby at_62) (by decide) (by decide) zk) ?_
          show own_Go p e below G (s₁.setTop (mkF m 66 #[.val (.int p0), .val (.long q1), .second, .val (.long q2), .second, .val (.long q3), .second, .val (.long q4), .second, .val (.long q5), .second, .val (.long y2), .second, .val (.int f0), .val (.int f1), .unset, .unset, .unset, .unset, .unset, .unset, .unset, .unset, .unset, .unset, .unset, .unset, .unset, .unset, .unset, .unset, .unset, .unset, .unset] [(.int (1 : Int32))]))
          refine own_st (fun zw zk => XS.istore X0.here hx rfl (hb hby at_66) rfl rfl zk) ?_
          show own_Go p e below G (s₁.setTop (mkF m 68 #[.val (.int p0), .val (.long q1), .second, .val (.long q2), .second, .val (.long q3), .second, .val (.long q4), .second, .val (.long q5), .second, .val (.long y2), .second, .val (.int f0), .val (.int f1), .val (.int (1 : Int32)), .unset, .unset, .unset, .unset, .unset, .unset, .unset, .unset, .unset, .unset, .unset, .unset, .unset, .unset, .unset, .unset, .unset, .unset] []))
          exact J68_81 (1 : Int32)
    refine own_st (fun zw zk => XS.iloadN X0.here hx rfl (hb hby at_29) rfl zk) ?_
    refine own_st (fun zw zk => XS.iconst X0.here hx rfl (hb hby at_30) zk) ?_
    refine own_st (fun zw zk => XS.iand X0.here hx rfl (hb hby at_31) rfl zk) ?_
    by_cases hc32 : (p0 &&& (2 : Int32)) = (0 : Int32)
    · refine own_st (fun zw zk => XS.ifYes X0.here hx rfl (pc0 := 32) (pc' := 45) rfl (hb hby at_32) rfl ((if0 _ _).trans (teq hc32).1) (by decide) (by decide) zk) ?_
      refine own_st (fun zw zk => XS.iconst X0.here hx rfl (hb hby at_45) zk) ?_
      refine own_st (fun zw zk => XS.istore X0.here hx rfl (hb hby at_46) rfl rfl zk) ?_
      show own_Go p e below G (s₁.setTop (mkF m 48 #[.val (.int p0), .val (.long q1), .second, .val (.long q2), .second, .val (.long q3), .second, .val (.long q4), .second, .val (.long q5), .second, .val (.long y2), .second, .val (.int f0), .val (.int (0 : Int32)), .unset, .unset, .unset, .unset, .unset, .unset, .unset, .unset, .unset, .unset, .unset, .unset, .unset, .unset, .unset, .unset, .unset, .unset, .unset] []))
      exact J48_80 (0 : Int32)
    · refine own_st (fun zw zk => XS.ifNo X0.here hx rfl (hb hby at_32) rfl ((if0 _ _).trans (feq hc32).1) zk) ?_
      refine own_st (fun zw zk => XS.lloadN X0.here hx rfl (hb hby at_35) rfl zk) ?_
      refine own_st (fun zw zk => XS.lconst X0.here hx rfl (hb hby at_36) zk) ?_
      refine own_st (fun zw zk => XS.lcmp X0.here hx rfl (hb hby at_37) rfl zk) ?_
      by_cases hc38 : q2 = (0 : Int64)
      · refine own_st (fun zw zk => XS.ifYes X0.here hx rfl (pc0 := 38) (pc' := 45) rfl (hb hby at_38) rfl ((if0 _ _).trans (teq (own_tle hc38)).1) (by decide) (by decide) zk) ?_
        show own_Go p e below G (s₁.setTop (mkF m 45 #[.val (.int p0), .val (.long q1), .second, .val (.long q2), .second, .val (.long q3), .second, .val (.long q4), .second, .val (.long q5), .second, .val (.long y2), .second, .val (.int f0), .unset, .unset, .unset, .unset, .unset, .unset, .unset, .unset, .unset, .unset, .unset, .unset, .unset, .unset, .unset, .unset, .unset, .unset, .unset, .unset] []))
        refine own_st (fun zw zk => XS.iconst X0.here hx rfl (hb hby at_45) zk) ?_
        refine own_st (fun zw zk => XS.istore X0.here hx rfl (hb hby at_46) rfl rfl zk) ?_
        show own_Go p e below G (s₁.setTop (mkF m 48 #[.val (.int p0), .val (.long q1), .second, .val (.long q2), .second, .val (.long q3), .second, .val (.long q4), .second, .val (.long q5), .second, .val (.long y2), .second, .val (.int f0), .val (.int (0 : Int32)), .unset, .unset, .unset, .unset, .unset, .unset, .unset, .unset, .unset, .unset, .unset, .unset, .unset, .unset, .unset, .unset, .unset, .unset, .unset] []))
        exact J48_80 (0 : Int32)
      · refine own_st (fun zw zk => XS.ifNo X0.here hx rfl (hb hby at_38) rfl ((if0 _ _).trans (feq (own_fle hc38)).1) zk) ?_
        show own_Go p e below G (s₁.setTop (mkF m 41 #[.val (.int p0), .val (.long q1), .second, .val (.long q2), .second, .val (.long q3), .second, .val (.long q4), .second, .val (.long q5), .second, .val (.long y2), .second, .val (.int f0), .unset, .unset, .unset, .unset, .unset, .unset, .unset, .unset, .unset, .unset, .unset, .unset, .unset, .unset, .unset, .unset, .unset, .unset, .unset, .unset] []))
        refine own_st (fun zw zk => XS.iconst X0.here hx rfl (hb hby at_41) zk) ?_
        refine own_st (fun zw zk => XS.goto X0.here hx rfl (pc0 := 42) (pc' := 46) rfl (hb hby at_42) (by decide) (by decide) zk) ?_
        show own_Go p e below G (s₁.setTop (mkF m 46 #[.val (.int p0), .val (.long q1), .second, .val (.long q2), .second, .val (.long q3), .second, .val (.long q4), .second, .val (.long q5), .second, .val (.long y2), .second, .val (.int f0), .unset, .unset, .unset, .unset, .unset, .unset, .unset, .unset, .unset, .unset, .unset, .unset, .unset, .unset, .unset, .unset, .unset, .unset, .unset, .unset] [(.int (1 : Int32))]))
        refine own_st (fun zw zk => XS.istore X0.here hx rfl (hb hby at_46) rfl rfl zk) ?_
        show own_Go p e below G (s₁.setTop (mkF m 48 #[.val (.int p0), .val (.long q1), .second, .val (.long q2), .second, .val (.long q3), .second, .val (.long q4), .second, .val (.long q5), .second, .val (.long y2), .second, .val (.int f0), .val (.int (1 : Int32)), .unset, .unset, .unset, .unset, .unset, .unset, .unset, .unset, .unset, .unset, .unset, .unset, .unset, .unset, .unset, .unset, .unset, .unset, .unset] []))
        exact J48_80 (1 : Int32)
  refine own_st (fun zw zk => XS.iloadN X0.here hx rfl (hb hby at_10) rfl zk) ?_
  refine own_st (fun zw zk => XS.iconst X0.here hx rfl (hb hby at_11) zk) ?_
  refine own_st (fun zw zk => XS.iand X0.here hx rfl (hb hby at_12) rfl zk) ?_
  by_cases hc13 : (p0 &&& (1 : Int32)) = (0 : Int32)
  · refine own_st (fun zw zk => XS.ifYes X0.here hx rfl (pc0 := 13) (pc' := 26) rfl (hb hby at_13) rfl ((if0 _ _).trans (teq hc13).1) (by decide) (by decide) zk) ?_
    refine own_st (fun zw zk => XS.iconst X0.here hx rfl (hb hby at_26) zk) ?_
    refine own_st (fun zw zk => XS.istore X0.here hx rfl (hb hby at_27) rfl rfl zk) ?_
    show own_Go p e below G (s₁.setTop (mkF m 29 #[.val (.int p0), .val (.long q1), .second, .val (.long q2), .second, .val (.long q3), .second, .val (.long q4), .second, .val (.long q5), .second, .val (.long y2), .second, .val (.int (0 : Int32)), .unset, .unset, .unset, .unset, .unset, .unset, .unset, .unset, .unset, .unset, .unset, .unset, .unset, .unset, .unset, .unset, .unset, .unset, .unset, .unset] []))
    exact J29_79 (0 : Int32)
  · refine own_st (fun zw zk => XS.ifNo X0.here hx rfl (hb hby at_13) rfl ((if0 _ _).trans (feq hc13).1) zk) ?_
    refine own_st (fun zw zk => XS.lloadN X0.here hx rfl (hb hby at_16) rfl zk) ?_
    refine own_st (fun zw zk => XS.lconst X0.here hx rfl (hb hby at_17) zk) ?_
    refine own_st (fun zw zk => XS.lcmp X0.here hx rfl (hb hby at_18) rfl zk) ?_
    by_cases hc19 : q1 = (0 : Int64)
    · refine own_st (fun zw zk => XS.ifYes X0.here hx rfl (pc0 := 19) (pc' := 26) rfl (hb hby at_19) rfl ((if0 _ _).trans (teq (own_tle hc19)).1) (by decide) (by decide) zk) ?_
      show own_Go p e below G (s₁.setTop (mkF m 26 #[.val (.int p0), .val (.long q1), .second, .val (.long q2), .second, .val (.long q3), .second, .val (.long q4), .second, .val (.long q5), .second, .val (.long y2), .second, .unset, .unset, .unset, .unset, .unset, .unset, .unset, .unset, .unset, .unset, .unset, .unset, .unset, .unset, .unset, .unset, .unset, .unset, .unset, .unset, .unset] []))
      refine own_st (fun zw zk => XS.iconst X0.here hx rfl (hb hby at_26) zk) ?_
      refine own_st (fun zw zk => XS.istore X0.here hx rfl (hb hby at_27) rfl rfl zk) ?_
      show own_Go p e below G (s₁.setTop (mkF m 29 #[.val (.int p0), .val (.long q1), .second, .val (.long q2), .second, .val (.long q3), .second, .val (.long q4), .second, .val (.long q5), .second, .val (.long y2), .second, .val (.int (0 : Int32)), .unset, .unset, .unset, .unset, .unset, .unset, .unset, .unset, .unset, .unset, .unset, .unset, .unset, .unset, .unset, .unset, .unset, .unset, .unset, .unset] []))
      exact J29_79 (0 : Int32)
    · refine own_st (fun zw zk => XS.ifNo X0.here hx rfl (hb hby at_19) rfl ((if0 _ _).trans (feq (own_fle hc19)).1) zk) ?_
      show own_Go p e below G (s₁.setTop (mkF m 22 #[.val (.int p0), .val (.long q1), .second, .val (.long q2), .second, .val (.long q3), .second, .val (.long q4), .second, .val (.long q5), .second, .val (.long y2), .second, .unset, .unset, .unset, .unset, .unset, .unset, .unset, .unset, .unset, .unset, .unset, .unset, .unset, .unset, .unset, .unset, .unset, .unset, .unset, .unset, .unset] []))
      refine own_st (fun zw zk => XS.iconst X0.here hx rfl (hb hby at_22) zk) ?_
      refine own_st (fun zw zk => XS.goto X0.here hx rfl (pc0 := 23) (pc' := 27) rfl (hb hby at_23) (by decide) (by decide) zk) ?_
      show own_Go p e below G (s₁.setTop (mkF m 27 #[.val (.int p0), .val (.long q1), .second, .val (.long q2), .second, .val (.long q3), .second, .val (.long q4), .second, .val (.long q5), .second, .val (.long y2), .second, .unset, .unset, .unset, .unset, .unset, .unset, .unset, .unset, .unset, .unset, .unset, .unset, .unset, .unset, .unset, .unset, .unset, .unset, .unset, .unset, .unset] [(.int (1 : Int32))]))
      refine own_st (fun zw zk => XS.istore X0.here hx rfl (hb hby at_27) rfl rfl zk) ?_
      show own_Go p e below G (s₁.setTop (mkF m 29 #[.val (.int p0), .val (.long q1), .second, .val (.long q2), .second, .val (.long q3), .second, .val (.long q4), .second, .val (.long q5), .second, .val (.long y2), .second, .val (.int (1 : Int32)), .unset, .unset, .unset, .unset, .unset, .unset, .unset, .unset, .unset, .unset, .unset, .unset, .unset, .unset, .unset, .unset, .unset, .unset, .unset, .unset] []))
      exact J29_79 (1 : Int32)
set_option maxRecDepth 65536 in
set_option maxHeartbeats 40000000 in
theorem comes_1 {Post : Tables → Env → Array Value → State → Outcome → State → Prop} (hpost : ∀ tb e args s v u, (limb_1_1.after args s (.returned v) u = true ∧ limb_1_2.after args s (.returned v) u = true ∧ True) → FrameEnd s (.returned v) u (Jvm.fieldLocs frame_1_writes args s ++ Jvm.arrayLocs frame_1_arrays args s ++ Jvm.staticLocs frame_1_statics s) 24 128 → Post tb e args s (.returned v) u) :
    ArmFor flags0 classFile x code maxLocals ret World_1 tables_1 room_1 Calls_1 rest_1 Pre_1 Post := by
  intro l hfl _ _ p e ha hc hk s m args below hf hA hF happ hP
  obtain ⟨hcalls, hrest, hpre⟩ := hP
  obtain ⟨-, -, -, hnamed, -, -, -, hat⟩ := (Spec.applies_iff hf).mp happ
  obtain ⟨hg, hn⟩ := and_e (Cond.before_iff.mp (show (Jvm.Cond.and given_1 narrow_1).before args s = true from hpre))
  obtain ⟨g1, g2⟩ := and_e hg
  obtain ⟨g3, g4⟩ := and_e g2
  obtain ⟨g5, g6⟩ := and_e g4
  obtain ⟨g7, g8⟩ := and_e g6
  obtain ⟨g9, g10⟩ := and_e g8
  obtain ⟨g11, g12⟩ := and_e g10
  obtain ⟨w0, w1, w2, w3, w4, w5, rfl⟩ : ∃ w0 w1 w2 w3 w4 w5 : Value, args = #[w0, w1, w2, w3, w4, w5] := by
    have hs : args.size = 6 := by simpa [Cond.value, given_1] using g1
    obtain ⟨L⟩ := args
    match L, hs with
    | [w0, w1, w2, w3, w4, w5], _ => exact ⟨w0, w1, w2, w3, w4, w5, rfl⟩
  have hw := fun d (hd : d ∈ tables_1) => atoms_spec (ws := Jvm.Cond.code x code maxLocals ret :: tables_1) hat d (List.mem_cons_of_mem _ hd)
  obtain ⟨i0, ei0⟩ := is_v g3
  obtain rfl : w0 = (.int i0) := Option.some.inj ei0
  obtain ⟨i1, ei1⟩ := isL_v g5
  obtain rfl : w1 = (.long i1) := Option.some.inj ei1
  obtain ⟨i2, ei2⟩ := isL_v g7
  obtain rfl : w2 = (.long i2) := Option.some.inj ei2
  obtain ⟨i3, ei3⟩ := isL_v g9
  obtain rfl : w3 = (.long i3) := Option.some.inj ei3
  obtain ⟨i4, ei4⟩ := isL_v g11
  obtain rfl : w4 = (.long i4) := Option.some.inj ei4
  obtain ⟨i5, ei5⟩ := isL_v g12
  obtain rfl : w5 = (.long i5) := Option.some.inj ei5
  obtain ⟨n, o, h1, h2, h3, _, L, rfl, ⟨rfl, N⟩, hq⟩ := rm0 l s _ hw tables_1 i0 i1 i2 i3 i4 i5 s.heap s.heap.size (Nat.le_refl _) p e ha hc hk s m _ below hf ((Spec.applies_iff_loose hf).mp happ).1 ⟨rfl, State.Warmed39.refl s, rfl⟩ trivial
  refine ⟨n, _, h1, h2, h3, hpost _ _ _ _ _ _ ⟨Cond.after_iff.mpr rfl, Cond.after_iff.mpr (eq_i res_at (Term.int_eval (1)) rfl), trivial⟩ ⟨hq.1, hq.2.1, (hq.2.2.sift fun y hy => Or.inr (N y hy)).mono (by decide) (by decide)⟩⟩
theorem main_1_1 : Claimed_1_1 := comes_1 fun _ _ _ _ _ _ h hF => ⟨h.1, hF⟩
theorem main_1_2 : Claimed_1_2 := comes_1 fun _ _ _ _ _ _ h hF => ⟨h.2.1, hF⟩
end Jvm.Pilot.@@N@@
namespace Jvm.Pilot.@@N@@
open Jvm Jvm.ClassFile Sem Op Lib Jvm.Free Jvm.Stand Jvm.Pilot.@@N@@.Jvm.D
/-! MADE BY PROGRAM (witnessworld.py) out of the Statement's table words and the real class files: 11 classes; the members and pool entries that the words name. The judged class is class 1, her method 2. -/
namespace start1
open Jvm.ClassFile
def u (s : String) : CpInfo := .utf8 (stringToUtf16 s)
/-- a pool by its gaps: so many unusable entries, then the entry; so many at the end -/
def gap : Nat → List CpInfo → List CpInfo
  | 0, r => r
  | n + 1, r => .unusable :: gap n r
def poolList (es : List (Nat × CpInfo)) (last : Nat) : List CpInfo := es.foldr (fun e r => gap e.1 (e.2 :: r)) (gap last [])
def pool (es : List (Nat × CpInfo)) (last : Nat) : Array CpInfo := ⟨poolList es last⟩
def fileOf (pool : Array CpInfo) (this : Nat) (attrs : Array Attribute := #[]) (ms : Array MethodInfo := #[]) (fl : Nat := 33) (sup : Nat := 0) (ifs : Array Nat := #[]) (fds : Array FieldInfo := #[]) : ClassFile where
  minorVersion := 0
  majorVersion := 65
  constantPool := pool
  accessFlags := fl
  thisClass := this
  superClass := sup
  interfaces := ifs
  fields := fds
  methods := ms
  attributes := attrs
def plain (name : String) (sup : Option ClassId) : Class where
  name := name
  kind := .ordinary
  loader := none
  accessFlags := 33
  super := sup
  interfaces := #[]
  cf := none
  fields := #[]
  methods := #[]
  instanceTypes := #[]
  staticTypes := #[]
  resolved := #[]
  callSites := []
  init := .initialized
  statics := none
  mirror := none

def pool0 : Array CpInfo := pool [(5, u "<init>"), (0, u "()V"), (1, .class_ 10), (1, u "java/lang/Object")] 113

def k0c0 : Code := { maxStack := 0, maxLocals := 1, code := object_method_1_code, exceptionTable := #[], attributes := #[] }
def k0m0 : Method := { name := "<init>", desc := "()V", sig := { parameters := [], returnType := none }, accessFlags := 1, code := some k0c0 }
/-- java/lang/Object -/
def k0 : Class := { plain "java/lang/Object" none with
  accessFlags := 33
  interfaces := #[]
  cf := some (fileOf pool0 8 #[] #[{ accessFlags := 1, nameIndex := 5, descriptorIndex := 6, attributes := #[] }] 33 0 #[] #[])
  fields := #[]
  methods := #[k0m0]
  instanceTypes := #[]
  staticTypes := #[]
  resolved := Array.replicate 124 none
  statics := none }

def pool1 : Array CpInfo := pool [(2, .class_ 4), (1, u "java/lang/Object"), (0, u "<init>"), (0, u "()V"), (2, .integer 2147483648), (0, .integer 2147483647), (0, .class_ 12), (0, u "com/example/netz/netz/net/SparseVector"), (0, .methodref 11 14), (0, .nameAndType 5 15), (0, u "([I[J)V"), (0, .methodref 17 18), (0, .class_ 19), (0, .nameAndType 20 21), (0, u "com/example/netz/netz/net/SparseVectorIsAtLeastPinLaw"), (0, u "build"), (0, u "(ZJZJZJ)Lcom/example/netz/netz/net/SparseVector;"), (0, .methodref 11 23), (0, .nameAndType 24 25), (0, u "isAtLeast"), (0, u "(Lcom/example/netz/netz/net/SparseVector;)Z"), (7, u "law"), (0, u "(IJJJJJ)Z")] 2

def k1m0 : Method := { name := "<init>", desc := "()V", sig := { parameters := [], returnType := none }, accessFlags := 2, code := none }
def k1c1 : Code := { maxStack := 4, maxLocals := 13, code := method_2_code, exceptionTable := #[], attributes := #[] }
def k1m1 : Method := { name := "build", desc := "(ZJZJZJ)Lcom/example/netz/netz/net/SparseVector;", sig := { parameters := [.boolean, .long, .boolean, .long, .boolean, .long], returnType := some (.object "com/example/netz/netz/net/SparseVector") }, accessFlags := 10, code := some k1c1 }
def k1c2 : Code := { maxStack := 9, maxLocals := 34, code := code, exceptionTable := #[], attributes := #[] }
def k1m2 : Method := { name := "law", desc := "(IJJJJJ)Z", sig := { parameters := [.int, .long, .long, .long, .long, .long], returnType := some .boolean }, accessFlags := 9, code := some k1c2 }
/-- com/example/netz/netz/net/SparseVectorIsAtLeastPinLaw -/
def k1 : Class := { plain "com/example/netz/netz/net/SparseVectorIsAtLeastPinLaw" (some 0) with
  accessFlags := 49
  interfaces := #[]
  cf := some (fileOf pool1 17 #[] #[{ accessFlags := 2, nameIndex := 5, descriptorIndex := 6, attributes := #[] }, { accessFlags := 10, nameIndex := 20, descriptorIndex := 21, attributes := #[] }, { accessFlags := 9, nameIndex := 33, descriptorIndex := 34, attributes := #[] }] 49 2 #[] #[])
  fields := #[]
  methods := #[k1m0, k1m1, k1m2]
  instanceTypes := #[]
  staticTypes := #[]
  resolved := Array.replicate 37 none
  statics := none }

def pool2 : Array CpInfo := pool [(1, .methodref 2 3), (0, .class_ 4), (0, .nameAndType 5 6), (0, u "java/lang/Object"), (0, u "<init>"), (0, u "()V"), (0, .fieldref 8 9), (0, .class_ 10), (0, .nameAndType 11 12), (0, u "com/example/netz/netz/net/SparseVector"), (0, u "indices"), (0, u "[I"), (0, .fieldref 8 14), (0, .nameAndType 15 16), (0, u "values"), (0, u "[J"), (8, u "([I[J)V"), (103, u "(Lcom/example/netz/netz/net/SparseVector;)Z"), (1, u "isAtLeast")] 15

def k2c0 : Code := { maxStack := 2, maxLocals := 3, code := prog_42_method_1_code, exceptionTable := #[], attributes := #[] }
def k2m0 : Method := { name := "<init>", desc := "([I[J)V", sig := { parameters := [(.array .int), (.array .long)], returnType := none }, accessFlags := 1, code := some k2c0 }
def k2c1 : Code := { maxStack := 4, maxLocals := 4, code := prog_42_method_12_code, exceptionTable := #[], attributes := #[] }
def k2m1 : Method := { name := "isAtLeast", desc := "(Lcom/example/netz/netz/net/SparseVector;)Z", sig := { parameters := [(.object "com/example/netz/netz/net/SparseVector")], returnType := some .boolean }, accessFlags := 1, code := some k2c1 }
/-- com/example/netz/netz/net/SparseVector -/
def k2 : Class := { plain "com/example/netz/netz/net/SparseVector" (some 0) with
  accessFlags := 33
  interfaces := #[]
  cf := some (fileOf pool2 8 #[] #[{ accessFlags := 1, nameIndex := 5, descriptorIndex := 25, attributes := #[] }, { accessFlags := 1, nameIndex := 131, descriptorIndex := 129, attributes := #[] }] 33 2 #[] #[{ accessFlags := 18, nameIndex := 11, descriptorIndex := 12, attributes := #[] }, { accessFlags := 18, nameIndex := 15, descriptorIndex := 16, attributes := #[] }])
  fields := #[{ name := "indices", type := (.array .int), accessFlags := 18, slot := 0, constantValue := 0 }, { name := "values", type := (.array .long), accessFlags := 18, slot := 1, constantValue := 0 }]
  methods := #[k2m0, k2m1]
  instanceTypes := #[(.array .int), (.array .long)]
  staticTypes := #[]
  resolved := Array.replicate 147 none
  statics := none }

def pool3 : Array CpInfo := pool [(1, u "java/lang/Cloneable"), (0, .class_ 1), (0, u "java/lang/Object"), (0, .class_ 3)] 3

/-- java/lang/Cloneable -/
def k3 : Class := { plain "java/lang/Cloneable" (some 0) with
  accessFlags := 1537
  interfaces := #[]
  cf := some (fileOf pool3 2 #[] #[] 1537 4 #[] #[])
  fields := #[]
  methods := #[]
  instanceTypes := #[]
  staticTypes := #[]
  resolved := Array.replicate 8 none
  statics := none }

def pool4 : Array CpInfo := pool [(1, u "java/io/Serializable"), (0, .class_ 1), (0, u "java/lang/Object"), (0, .class_ 3)] 3

/-- java/io/Serializable -/
def k4 : Class := { plain "java/io/Serializable" (some 0) with
  accessFlags := 1537
  interfaces := #[]
  cf := some (fileOf pool4 2 #[] #[] 1537 4 #[] #[])
  fields := #[]
  methods := #[]
  instanceTypes := #[]
  staticTypes := #[]
  resolved := Array.replicate 8 none
  statics := none }

/-- the primitive byte -/
def k5 : Class := { plain "byte" none with kind := .primitive 'B', accessFlags := 0x411 }
/-- [B -/
def k6 : Class := { plain "[B" (some 0) with kind := .array 5 .byte, interfaces := #[3, 4], accessFlags := 1041 }

/-- the primitive int -/
def k7 : Class := { plain "int" none with kind := .primitive 'I', accessFlags := 0x411 }
/-- [I -/
def k8 : Class := { plain "[I" (some 0) with kind := .array 7 .int, interfaces := #[3, 4], accessFlags := 1041 }

/-- the primitive long -/
def k9 : Class := { plain "long" none with kind := .primitive 'J', accessFlags := 0x411 }
/-- [J -/
def k10 : Class := { plain "[J" (some 0) with kind := .array 9 .long, interfaces := #[3, 4], accessFlags := 1041 }

def heap : Heap := #[]
def classes : Array Class := #[k0, k1, k2, k3, k4, k5, k6, k7, k8, k9, k10]
def interned : List (Array UInt16 × Addr) := []
def slotsUsed : Nat := 0
def theMethod : MethodId := ⟨1, 2⟩
def args0 : Array Value := #[.int 2, .long 5, .long 6, .long 7, .long 8, .long 9]
def aboutOver (below : List Frame) : State where
  vm := { classes := classes, interned := interned.toArray }
  heap := heap
  slotsUsed := slotsUsed
  threads := #[{ frames := .invoking theMethod args0 :: below }]
def below0 : List Frame := [.native { method := ⟨0, 0⟩, args := #[] }]
def about1 : State := aboutOver below0
def p0 : Program := .bare "" "" ""
def e0 : Env := launch0.env 0 0 0
theorem w_frames : about1.frames = Frame.invoking theMethod args0 :: below0 := rfl
set_option maxRecDepth 65536 in
theorem w_args : argsFit about1.vm theMethod args0 = true := by decide +kernel
set_option maxRecDepth 65536 in
theorem w_heap : heapFits about1 = true := by decide +kernel
set_option maxRecDepth 65536 in
theorem w_runnable : about1.curStatus? = some .runnable := by decide +kernel
set_option maxRecDepth 65536 in
theorem w_alone : about1.alone = true := by decide +kernel
set_option maxRecDepth 65536 in
theorem w_named : about1.methodNamed? x = some theMethod := by decide +kernel
set_option maxRecDepth 65536 in
theorem w_hears : about1.hears theMethod below0 = true := by decide +kernel
set_option maxRecDepth 65536 in
theorem w_ripe : about1.ripe theMethod args0 below0 = true := by decide +kernel
theorem w_running : about1.status = .running := rfl
set_option maxRecDepth 65536 in
theorem w_room : about1.hasRoom e0.platform room_1 = true :=
  launch0.hasRoom_least _ room_1 (by decide +kernel) (by decide +kernel) (by decide +kernel) (by decide +kernel) (by decide +kernel) (by decide +kernel)
theorem allAtoms_all (ts : List Jvm.Cond) (a : Array Jvm.Value) (st : Jvm.State) : (allAtoms ts).before a st = ts.all (fun c => c.before a st) := by
  induction ts with
  | nil => rfl
  | cons c t ih =>
    show (Jvm.Cond.and c (allAtoms t)).before a st = _
    rw [Jvm.Cond.before_and, ih, List.all_cons]
def words1 : List Jvm.Cond := Jvm.Cond.code x code maxLocals ret :: tables_1
/-- a 'code' word, met by the world's own term for the bytes: nothing is compared byte by byte -/
theorem code_word {y : MethodName} {bytes : ByteArray} {mx : Nat} {rt : Option FieldType} {a : Array Value} {s : State} {m : MethodId} {meth : Method} {c : Code} (h1 : s.methodNamed? y = some m) (h2 : s.vm.method? m = some meth) (h3 : meth.code = some c) (h4 : c.code = bytes)
    (h5 : (c.maxLocals == mx && c.exceptionTable.isEmpty && decide (c.maxStack ≤ mostOperands) && decide (meth.sig.returnType = rt) && !meth.locks && decide (parseMethodDescriptor y.desc = some meth.sig)) = true) : (Jvm.Cond.code y bytes mx rt).before a s = true := by
  simp only [Bool.and_eq_true, beq_iff_eq, Bool.not_eq_true', decide_eq_true_eq] at h5
  obtain ⟨⟨⟨⟨⟨g1, g2⟩, g3⟩, g4⟩, g5⟩, g6⟩ := h5
  simp [Cond.before, Cond.holds, Cond.value, h1, h2, h3, h4, g1, g2, g3, g4, g5, g6]
def isCode : Jvm.Cond → Bool
  | .code _ _ _ _ => true
  | _ => false
theorem all_split {L : List Jvm.Cond} {P : Jvm.Cond → Bool} (h1 : L.all (fun c => isCode c || P c) = true) (h2 : ∀ c ∈ L.filter isCode, P c = true) : L.all P = true := by
  refine List.all_eq_true.mpr fun c hc => ?_
  have h := List.all_eq_true.mp h1 c hc
  rcases Bool.eq_false_or_eq_true (isCode c) with hi | hi
  · exact h2 c (List.mem_filter.mpr ⟨hc, hi⟩)
  · simpa [hi] using h
set_option maxRecDepth 65536 in
theorem w_c0 : (Jvm.Cond.code x code maxLocals ret).before args0 about1 = true := code_word (m := ⟨1, 2⟩) (meth := k1m2) (c := k1c2) (by decide +kernel) rfl rfl rfl (by decide +kernel)
set_option maxRecDepth 65536 in
theorem w_c1 : (Jvm.Cond.code ({ cls := "com/example/netz/netz/net/SparseVectorIsAtLeastPinLaw", name := "build", desc := "(ZJZJZJ)Lcom/example/netz/netz/net/SparseVector;" } : Jvm.MethodName) method_2_code (13 : Nat) (Option.some (Jvm.ClassFile.FieldType.object "com/example/netz/netz/net/SparseVector"))).before args0 about1 = true := code_word (m := ⟨1, 1⟩) (meth := k1m1) (c := k1c1) (by decide +kernel) rfl rfl rfl (by decide +kernel)
set_option maxRecDepth 65536 in
theorem w_c2 : (Jvm.Cond.code ({ cls := "com/example/netz/netz/net/SparseVector", name := "<init>", desc := "([I[J)V" } : Jvm.MethodName) prog_42_method_1_code (3 : Nat) (Option.none : Option Jvm.ClassFile.FieldType)).before args0 about1 = true := code_word (m := ⟨2, 0⟩) (meth := k2m0) (c := k2c0) (by decide +kernel) rfl rfl rfl (by decide +kernel)
set_option maxRecDepth 65536 in
theorem w_c3 : (Jvm.Cond.code ({ cls := "java/lang/Object", name := "<init>", desc := "()V" } : Jvm.MethodName) object_method_1_code (1 : Nat) (Option.none : Option Jvm.ClassFile.FieldType)).before args0 about1 = true := code_word (m := ⟨0, 0⟩) (meth := k0m0) (c := k0c0) (by decide +kernel) rfl rfl rfl (by decide +kernel)
set_option maxRecDepth 65536 in
theorem w_c4 : (Jvm.Cond.code ({ cls := "com/example/netz/netz/net/SparseVector", name := "isAtLeast", desc := "(Lcom/example/netz/netz/net/SparseVector;)Z" } : Jvm.MethodName) prog_42_method_12_code (4 : Nat) (Option.some Jvm.ClassFile.FieldType.boolean)).before args0 about1 = true := code_word (m := ⟨2, 1⟩) (meth := k2m1) (c := k2c1) (by decide +kernel) rfl rfl rfl (by decide +kernel)
def codes1 : List Jvm.Cond := [Jvm.Cond.code x code maxLocals ret, Jvm.Cond.code ({ cls := "com/example/netz/netz/net/SparseVectorIsAtLeastPinLaw", name := "build", desc := "(ZJZJZJ)Lcom/example/netz/netz/net/SparseVector;" } : Jvm.MethodName) method_2_code (13 : Nat) (Option.some (Jvm.ClassFile.FieldType.object "com/example/netz/netz/net/SparseVector")), Jvm.Cond.code ({ cls := "com/example/netz/netz/net/SparseVector", name := "<init>", desc := "([I[J)V" } : Jvm.MethodName) prog_42_method_1_code (3 : Nat) (Option.none : Option Jvm.ClassFile.FieldType), Jvm.Cond.code ({ cls := "java/lang/Object", name := "<init>", desc := "()V" } : Jvm.MethodName) object_method_1_code (1 : Nat) (Option.none : Option Jvm.ClassFile.FieldType), Jvm.Cond.code ({ cls := "com/example/netz/netz/net/SparseVector", name := "isAtLeast", desc := "(Lcom/example/netz/netz/net/SparseVector;)Z" } : Jvm.MethodName) prog_42_method_12_code (4 : Nat) (Option.some Jvm.ClassFile.FieldType.boolean)]
set_option maxRecDepth 65536 in
theorem codes_eq : words1.filter isCode = codes1 := rfl
theorem w_codes : ∀ c ∈ words1.filter isCode, c.before args0 about1 = true := by
  rw [codes_eq]
  intro c hc
  simp only [codes1, List.mem_cons, List.not_mem_nil, or_false] at hc
  rcases hc with rfl | rfl | rfl | rfl | rfl
  · exact w_c0
  · exact w_c1
  · exact w_c2
  · exact w_c3
  · exact w_c4
set_option maxRecDepth 65536 in
theorem w_t1 : (words1.take 24).all (fun c => isCode c || c.before args0 about1) = true := by decide +kernel
set_option maxRecDepth 65536 in
theorem w_t2 : (words1.drop 24).all (fun c => isCode c || c.before args0 about1) = true := by decide +kernel
theorem w_tables : (allAtoms (Jvm.Cond.code x code maxLocals ret :: tables_1)).before args0 about1 = true := by
  rw [allAtoms_all]
  show words1.all (fun c => c.before args0 about1) = true
  refine all_split ?_ w_codes
  rw [← List.take_append_drop 24 words1, List.all_append, w_t1, w_t2]
  rfl
set_option maxRecDepth 65536 in
theorem w_case : (Jvm.Cond.and given_1 narrow_1).before args0 about1 = true := by decide +kernel
theorem w_applies : (headSpec (Jvm.Cond.code x code maxLocals ret :: tables_1) room_1).applies x e0.platform about1 = true :=
  (Spec.applies_iff w_frames).mpr ⟨w_running, w_runnable, w_alone, w_named, w_hears, w_ripe, w_room, w_tables⟩
theorem atStart : AtStart classFile x code maxLocals ret World_1 tables_1 room_1 Calls_1 rest_1 Pre_1 launch0 p0 e0 about1 theMethod args0 below0 :=
  ⟨lists_1, trivial, launch0.admits_env _ _ _, launch0.least_env, fairChoices_fair.cas, fairChoices_fair.clock, w_frames, w_args, w_heap, w_applies, trivial, trivial, w_case⟩
end start1
theorem witness_1 : WitnessClaimed_1 := ⟨start1.p0, start1.e0, start1.about1, start1.theMethod, start1.args0, start1.below0, start1.atStart⟩
end Jvm.Pilot.@@N@@
