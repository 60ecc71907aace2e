import JvmDerived
import JvmDerived.Pilot.@@N@@Statement
import JvmDerived.Pilot.@@N@@Code
set_option linter.unusedVariables false
set_option linter.unusedSimpArgs false
namespace Jvm.Pilot.@@N@@
open Jvm Jvm.ClassFile Sem Op Lib Jvm.Free Jvm.Stand Jvm.LawKit Jvm.RoadKit Bundle Jvm.Pilot.@@N@@.Jvm.D
section Own
variable {p : Program} {l : Launch} {e : Env} {R : Room} {s : State} {m : MethodId} {args : Array Value} {below : List Frame} {meth : Method} {c : Code} {T : State} {locs : List Loc} {cells slots : Nat} {Z : State} {h h' : Heap} {a b : Addr} {k k' : ClassId} {ty : FieldType} {n : Int32}
/-- from the state S the run ends, and G holds of the end -/
def own_Go (tb : Tables) (e : Env) (below : List Frame) (G : State → Outcome → Prop) (S : State) : Prop := ∃ s₂ o, Steps tb e below S s₂ ∧ s₂.status = .running ∧ Ended s₂ below o ∧ G s₂ o
theorem own_of {tb : Tables} {G : State → Outcome → Prop} {S S' : State} (f : ∀ t, Steps tb e below S' t → Steps tb e below S t) (g : own_Go tb e below G S') : own_Go tb e below G S := by
  obtain ⟨x, y, h1, h2⟩ := g
  exact ⟨x, y, f x h1, h2⟩
theorem own_out {tb : Tables} {Q : State → Outcome → Prop} {S : State} (f : ∀ G : State → Outcome → Prop, (∀ s₂ o, Q s₂ o → G s₂ o) → own_Go tb e below G S) : ∃ s₂ o, Steps tb e below S s₂ ∧ s₂.status = .running ∧ Ended s₂ below o ∧ Q s₂ o := f Q fun _ _ q => q
theorem own_retI (X : Stand p l e R s m args below meth c T locs cells slots) (hx : p.tables.exec = Jvm.exec) {pc : Nat} {Ls : Array Slot} {z : Int32} {rest : List Value} (hret : meth.sig.returnType = some .int) (hd : decode c.code pc = .ok (.ireturn, 1)) {fs : List Frame}
    (hl : ∀ (f : JFrame) (acts : List Action), f.method = m → f.locked = none → f.entered = [] → (doReturn e (T.setTop f) acts (some (.int z))).1 = T.setFrames fs) : Steps p.tables e below (T.setTop (mkF m pc Ls (.int z :: rest))) (T.setFrames fs) :=
  retOut X hx hret rfl (Or.inl ⟨rfl, Or.inl rfl, z, rfl⟩) hd hl
theorem own_retL (X : Stand p l e R s m args below meth c T locs cells slots) (hx : p.tables.exec = Jvm.exec) {pc : Nat} {Ls : Array Slot} {z : Int64} {rest : List Value} (hret : meth.sig.returnType = some .long) (hd : decode c.code pc = .ok (.lreturn, 1)) {fs : List Frame}
    (hl : ∀ (f : JFrame) (acts : List Action), f.method = m → f.locked = none → f.entered = [] → (doReturn e (T.setTop f) acts (some (.long z))).1 = T.setFrames fs) : Steps p.tables e below (T.setTop (mkF m pc Ls (.long z :: rest))) (T.setFrames fs) :=
  retOut X hx hret rfl (Or.inr (Or.inl ⟨rfl, rfl, z, rfl⟩)) hd hl
theorem own_retA (X : Stand p l e R s m args below meth c T locs cells slots) (hx : p.tables.exec = Jvm.exec) {pc : Nat} {Ls : Array Slot} {z : Addr} {C : String} {rest : List Value} (hret : meth.sig.returnType = some (.object C)) (hd : decode c.code pc = .ok (.areturn, 1)) {fs : List Frame}
    (hl : ∀ (f : JFrame) (acts : List Action), f.method = m → f.locked = none → f.entered = [] → (doReturn e (T.setTop f) acts (some (.ref z))).1 = T.setFrames fs) : Steps p.tables e below (T.setTop (mkF m pc Ls (.ref z :: rest))) (T.setFrames fs) :=
  retOut X hx hret rfl (Or.inr (Or.inr (Or.inr (Or.inr ⟨rfl, rfl, rfl⟩)))) hd hl
/-- an array of ints (or bytes) at a, whole: its class, element type, length and values -/
def own_AI (Z : State) (h : Heap) (a : Addr) (k : ClassId) (ty : FieldType) (n : Int32) (xs : List Int32) : Prop := Arv Z h a k ty n (xs.map Value.int) (.int 0) ∧ xs.length = n.toNatClampNeg
theorem own_AI.ext {xs : List Int32} (F : own_AI Z h a k ty n xs) (E : Ext h h') : own_AI Z h' a k ty n xs := ⟨F.1.ext E, F.2⟩
theorem own_AI.other {xs : List Int32} {sl : Nat} {v : Value} (F : own_AI Z h b k ty n xs) (W : Wr h h' a sl v) (q : b ≠ a) : own_AI Z h' b k ty n xs := ⟨F.1.other W q, F.2⟩
theorem own_AI.keep {xs : List Int32} {ws : List Addr} (F : own_AI Z h a k ty n xs) (K : Keep h h' ws) (q : a ∉ ws) : own_AI Z h' a k ty n xs := ⟨F.1.keep K q, F.2⟩
theorem own_AI.lt {xs : List Int32} (F : own_AI Z h a k ty n xs) : a < h.size := F.1.lt
def own_AJ (Z : State) (h : Heap) (a : Addr) (k : ClassId) (n : Int32) (xs : List Int64) : Prop := Arv Z h a k .long n (xs.map Value.long) (.long 0) ∧ xs.length = n.toNatClampNeg
theorem own_AJ.ext {xs : List Int64} (F : own_AJ Z h a k n xs) (E : Ext h h') : own_AJ Z h' a k n xs := ⟨F.1.ext E, F.2⟩
theorem own_AJ.other {xs : List Int64} {sl : Nat} {v : Value} (F : own_AJ Z h b k n xs) (W : Wr h h' a sl v) (q : b ≠ a) : own_AJ Z h' b k n xs := ⟨F.1.other W q, F.2⟩
theorem own_AJ.keep {xs : List Int64} {ws : List Addr} (F : own_AJ Z h a k n xs) (K : Keep h h' ws) (q : a ∉ ws) : own_AJ Z h' a k n xs := ⟨F.1.keep K q, F.2⟩
theorem own_AJ.lt {xs : List Int64} (F : own_AJ Z h a k n xs) : a < h.size := F.1.lt
theorem own_ltn {j n : Int32} (q : ¬ j < 0 ∧ j < n) : j.toNatClampNeg < n.toNatClampNeg := by
  obtain ⟨q1, q2⟩ := q
  rw [Int32.lt_iff_toInt_lt] at q1 q2
  have e0 : (0 : Int32).toInt = 0 := rfl
  simp only [Int32.toNatClampNeg]; omega
theorem own_newI (A : Arr Z h a (newA k ty n) ty) (q : ¬ n < 0) (cnt : Nat) (hc : n.toNatClampNeg = cnt) (hd : defaultValue ty = .int 0) : own_AI Z h a k ty n (List.replicate cnt 0) := by
  have F := Arv.new A q
  rw [hd] at F
  exact ⟨by rw [List.map_replicate]; exact F.pad (pad_rep [] (.int 0) cnt), by rw [List.length_replicate, hc]⟩
theorem own_newJ (A : Arr Z h a (newA k .long n) .long) (q : ¬ n < 0) (cnt : Nat) (hc : n.toNatClampNeg = cnt) : own_AJ Z h a k n (List.replicate cnt 0) := by
  have F := Arv.new A q
  exact ⟨by rw [List.map_replicate]; exact F.pad (pad_rep [] (.long 0) cnt), by rw [List.length_replicate, hc]⟩
theorem own_stI (X : Stand p l e R s m args below meth c T locs cells slots) (hx : p.tables.exec = Jvm.exec) (hZ : Z.Warmed39 s.vm) (eT : T.heap = h) {xs : List Int32} (F : own_AI Z h a k .int n xs) {j x : Int32} (q : ¬ j < 0 ∧ j < n) {g : JFrame} (hg : g.method = m) {rest : List Value} (hs : g.stack = .int x :: .int j :: .ref a :: rest) (hd : decode c.code g.pc = .ok (.iastore, 1)) :
    ∃ T' h', Stand p l e R s m args below meth c T' (locs ++ [⟨a, j.toNatClampNeg⟩]) cells slots ∧ T'.heap = h' ∧ Wr h h' a j.toNatClampNeg (.int x) ∧ own_AI Z h' a k .int n (xs.set j.toNatClampNeg x) ∧ ∀ target, Steps p.tables e below (T'.setTop { g with pc := g.pc + 1, stack := rest }) target → Steps p.tables e below (T.setTop g) target := by
  obtain ⟨⟨cl, A, q1, S, q3, H, G⟩, hl⟩ := F
  obtain ⟨T', h', X', e', W, st⟩ := stI X hx hZ eT A (inb_of S q) hg hs hd
  refine ⟨T', h', X', e', W, ⟨?_, by rw [List.length_set]; exact hl⟩, st⟩
  rw [List.map_set]
  exact Arv.set A q1 S q3 H G rfl W _ rfl (by rw [List.length_map, hl]; exact own_ltn q)
theorem own_stB (X : Stand p l e R s m args below meth c T locs cells slots) (hx : p.tables.exec = Jvm.exec) (hZ : Z.Warmed39 s.vm) (eT : T.heap = h) {xs : List Int32} (F : own_AI Z h a k .byte n xs) {j x : Int32} (q : ¬ j < 0 ∧ j < n) {g : JFrame} (hg : g.method = m) {rest : List Value} (hs : g.stack = .int x :: .int j :: .ref a :: rest) (hd : decode c.code g.pc = .ok (.bastore, 1)) :
    ∃ T' h', Stand p l e R s m args below meth c T' (locs ++ [⟨a, j.toNatClampNeg⟩]) cells slots ∧ T'.heap = h' ∧ Wr h h' a j.toNatClampNeg (.int x.toInt8.toInt32) ∧ own_AI Z h' a k .byte n (xs.set j.toNatClampNeg x.toInt8.toInt32) ∧ ∀ target, Steps p.tables e below (T'.setTop { g with pc := g.pc + 1, stack := rest }) target → Steps p.tables e below (T.setTop g) target := by
  obtain ⟨⟨cl, A, q1, S, q3, H, G⟩, hl⟩ := F
  obtain ⟨T', h', X', e', W, st⟩ := stB X hx hZ eT A (inb_of S q) hg hs hd
  refine ⟨T', h', X', e', W, ⟨?_, by rw [List.length_set]; exact hl⟩, st⟩
  rw [List.map_set]
  exact Arv.set A q1 S q3 H G (fits_nar_byte _) W _ rfl (by rw [List.length_map, hl]; exact own_ltn q)
theorem own_stJ (X : Stand p l e R s m args below meth c T locs cells slots) (hx : p.tables.exec = Jvm.exec) (hZ : Z.Warmed39 s.vm) (eT : T.heap = h) {xs : List Int64} (F : own_AJ Z h a k n xs) {j : Int32} {x : Int64} (q : ¬ j < 0 ∧ j < n) {g : JFrame} (hg : g.method = m) {rest : List Value} (hs : g.stack = .long x :: .int j :: .ref a :: rest) (hd : decode c.code g.pc = .ok (.lastore, 1)) :
    ∃ T' h', Stand p l e R s m args below meth c T' (locs ++ [⟨a, j.toNatClampNeg⟩]) cells slots ∧ T'.heap = h' ∧ Wr h h' a j.toNatClampNeg (.long x) ∧ own_AJ Z h' a k n (xs.set j.toNatClampNeg x) ∧ ∀ target, Steps p.tables e below (T'.setTop { g with pc := g.pc + 1, stack := rest }) target → Steps p.tables e below (T.setTop g) target := by
  obtain ⟨⟨cl, A, q1, S, q3, H, G⟩, hl⟩ := F
  obtain ⟨T', h', X', e', W, st⟩ := stJ X hx hZ eT A (inb_of S q) hg hs hd
  refine ⟨T', h', X', e', W, ⟨?_, by rw [List.length_set]; exact hl⟩, st⟩
  rw [List.map_set]
  exact Arv.set A q1 S q3 H G rfl W _ rfl (by rw [List.length_map, hl]; exact own_ltn q)
theorem own_getI (xs : List Int32) (i : Nat) : (xs.map Value.int).getD i (.int 0) = .int (xs.getD i 0) := by
  simp only [List.getD_eq_getElem?_getD, List.getElem?_map]
  cases xs[i]? <;> rfl
theorem own_getJ (xs : List Int64) (i : Nat) : (xs.map Value.long).getD i (.long 0) = .long (xs.getD i 0) := by
  simp only [List.getD_eq_getElem?_getD, List.getElem?_map]
  cases xs[i]? <;> rfl
theorem own_ldI (X : Stand p l e R s m args below meth c T locs cells slots) (hx : p.tables.exec = Jvm.exec) (hZ : Z.Warmed39 s.vm) (eT : T.heap = h) {xs : List Int32} (F : own_AI Z h a k .int n xs) {j : Int32} (q : ¬ j < 0 ∧ j < n) {g : JFrame} (hg : g.method = m) {rest : List Value} (hs : g.stack = .int j :: .ref a :: rest) (hd : decode c.code g.pc = .ok (.iaload, 1)) :
    ∀ target, Steps p.tables e below (T.setTop { g with pc := g.pc + 1, stack := .int (xs.getD j.toNatClampNeg 0) :: rest }) target → Steps p.tables e below (T.setTop g) target := by
  obtain ⟨⟨cl, A, q1, S, q3, H, G⟩, hl⟩ := F
  intro target hr
  exact X.iaload hx (by rw [eT]; exact A.1) (State.isArrayOf_alike hZ.alike A.2.1) A.2.2 (inb_of S q) (H.at (inb_of S q) (own_getI xs _)) hg hs hd target hr
theorem own_ldB (X : Stand p l e R s m args below meth c T locs cells slots) (hx : p.tables.exec = Jvm.exec) (hZ : Z.Warmed39 s.vm) (eT : T.heap = h) {xs : List Int32} (F : own_AI Z h a k .byte n xs) {j : Int32} (q : ¬ j < 0 ∧ j < n) {g : JFrame} (hg : g.method = m) {rest : List Value} (hs : g.stack = .int j :: .ref a :: rest) (hd : decode c.code g.pc = .ok (.baload, 1)) :
    ∀ target, Steps p.tables e below (T.setTop { g with pc := g.pc + 1, stack := .int (xs.getD j.toNatClampNeg 0) :: rest }) target → Steps p.tables e below (T.setTop g) target := by
  obtain ⟨⟨cl, A, q1, S, q3, H, G⟩, hl⟩ := F
  intro target hr
  exact X.baloadBytes hx (by rw [eT]; exact A.1) (State.isArrayOf_alike hZ.alike A.2.1) A.2.2 (inb_of S q) (H.at (inb_of S q) (own_getI xs _)) hg hs hd target hr
theorem own_ldJ (X : Stand p l e R s m args below meth c T locs cells slots) (hx : p.tables.exec = Jvm.exec) (hZ : Z.Warmed39 s.vm) (eT : T.heap = h) {xs : List Int64} (F : own_AJ Z h a k n xs) {j : Int32} (q : ¬ j < 0 ∧ j < n) {g : JFrame} (hg : g.method = m) {rest : List Value} (hs : g.stack = .int j :: .ref a :: rest) (hd : decode c.code g.pc = .ok (.laload, 1)) :
    ∀ target, Steps p.tables e below (T.setTop { g with pc := g.pc + 1, stack := .long (xs.getD j.toNatClampNeg 0) :: rest }) target → Steps p.tables e below (T.setTop g) target := by
  obtain ⟨⟨cl, A, q1, S, q3, H, G⟩, hl⟩ := F
  intro target hr
  exact X.laload hx (by rw [eT]; exact A.1) (State.isArrayOf_alike hZ.alike A.2.1) A.2.2 (inb_of S q) (H.at (inb_of S q) (own_getJ xs _)) hg hs hd target hr
theorem own_lenJ (X : Stand p l e R s m args below meth c T locs cells slots) (hx : p.tables.exec = Jvm.exec) (hZ : Z.Warmed39 s.vm) (eT : T.heap = h) {xs : List Int64} (F : own_AJ Z h a k n xs) {g : JFrame} (hg : g.method = m) {rest : List Value} (hs : g.stack = .ref a :: rest) (hd : decode c.code g.pc = .ok (.arraylength, 1)) :
    ∀ target, Steps p.tables e below (T.setTop { g with pc := g.pc + 1, stack := .int n :: rest }) target → Steps p.tables e below (T.setTop g) target := by
  obtain ⟨⟨cl, A, q1, S, q3, H, G⟩, hl⟩ := F
  intro target hr
  refine X.arraylength hx (by rw [eT]; exact A.1) (State.isArrayOf_alike hZ.alike A.2.1) hg hs hd target ?_
  rw [len_of S q3]; exact hr
theorem own_rng {α : Type} (d : α) (xs : List α) (n : Nat) (hn : xs.length = n) : (List.range n).map (fun i => xs.getD (0 + i) d) = xs := by
  subst hn
  apply List.ext_getElem?
  intro i
  simp only [List.getElem?_map, List.getD_eq_getElem?_getD, Nat.zero_add]
  by_cases q : i < xs.length
  · simp [List.getElem?_range q, List.getElem?_eq_getElem q]
  · have q' : xs.length ≤ i := Nat.le_of_not_lt q
    rw [List.getElem?_eq_none (by simpa using q'), List.getElem?_eq_none q']; rfl
theorem own_cpJ (X : Stand p l e R s m args below meth c T locs cells slots) (hx : p.tables.exec = Jvm.exec) (hZ : Z.Warmed39 s.vm) {a0 : Array Value} {own : String} {index : Nat} (hown : s.vm.findClass own = some m.cls)
    (w1 : (Cond.methodLink own index Jvm.Stand.acN).before a0 Z = true) (w2 : (Cond.native Jvm.Stand.acN).before a0 Z = true) (w3 : (Cond.static Jvm.Stand.acN).before a0 Z = true) (w4 : (Cond.initialized "java/lang/System").before a0 Z = true) (eT : T.heap = h)
    {xs ys : List Int64} (A : own_AJ Z h a k n xs) (B : own_AJ Z h b k' n ys) (h3 : ¬ n < 0) (h4 : (0 : Int32).toNatClampNeg = 0) {n0 : Nat} (N : Fr n0 locs) (ge : n0 ≤ b)
    {g : JFrame} (hg : g.method = m) (hsize : g.locals.size = c.maxLocals) {rest : List Value} (hs : g.stack = .int n :: .int 0 :: .ref b :: .int 0 :: .ref a :: rest) (hd : decode c.code g.pc = .ok (.invokestatic index, 3))
    (hf : 1 ≤ R.frames) {W : Nat} (hW : 2 * g.monitorRoom + (rest.map fun v => v.category).sum ≤ W) (hlo : W + (nativeFrameWords "java/lang/System" "arraycopy" 5 + 11) ≤ R.locals) :
    ∃ T' h' L, Stand p l e R s m args below meth c T' L cells slots ∧ T'.heap = h' ∧ Fr n0 L ∧ Keep h h' [b] ∧ own_AJ Z h' b k' n xs ∧
      ∀ target, Steps p.tables e below (T'.setTop { g with pc := g.pc + 3, stack := rest }) target → Steps p.tables e below (T.setTop g) target := by
  obtain ⟨A, la⟩ := A
  obtain ⟨B, lb⟩ := B
  obtain ⟨T', h', L, X', e', N', K', V', st⟩ := cpA X hx hZ hown w1 w2 w3 w4 eT A B (Or.inl ⟨rfl, rfl⟩) (sp := 0) (dp := 0) (nn := n) (by decide) (by decide) h3 (by rw [h4]; omega) (by rw [h4]; omega) rfl (by rw [h4, List.length_map, lb]; omega) N ge hg hsize hs hd hf hW hlo
  refine ⟨T', h', L, X', e', N', K', ⟨?_, la⟩, st⟩
  rw [h4] at V'
  rw [own_rng (.long 0) (xs.map Value.long) _ (by rw [List.length_map, la])] at V'
  have q : List.drop (0 + n.toNatClampNeg) (ys.map Value.long) = [] := by rw [List.drop_eq_nil_iff, List.length_map, lb]; omega
  rw [q] at V'
  simpa using V'
end Own

def own_min (u v : Int64) : Int64 := if v < u then v else u
def own_max (u v : Int64) : Int64 := if u < v then v else u
def own_dec (sz : Int32) (le mo : Int64) (ev he ga : Int32) : Int32 :=
  if sz - ev = 0 then 1 else if mo < he.toInt64 then 1 else if (he + (sz - ev)).toInt64 < le then 1 else if ga = 0 then (if he.toInt64 < le then 0 else if mo < (he + (sz - ev)).toInt64 then 0 else 1) else 0
theorem own_msk {u x : Int32} (h : (u &&& (2147483647 : Int32)) = x) : 0 ≤ x.toInt := by
  have q : (u &&& (2147483647 : Int32)).toInt = u.toInt % (2 ^ 31 : Nat) := c_mask u 2147483647 31 (by decide) (by decide)
  rw [← h, q]; omega
theorem own_i64 (x : Int32) : x.toInt64.toInt = x.toInt := c_i2l x
theorem own_suc {x : Int32} (h : 0 ≤ x.toInt) : (x.toInt64 + (1 : Int64)).toInt = x.toInt + 1 := by
  have q := c_ladd x.toInt64 (1 : Int64)
  have e1 : (1 : Int64).toInt = 1 := rfl
  rw [own_i64, e1] at q
  have r := rng32 x
  have r2 := rng64 (x.toInt64 + (1 : Int64))
  omega
theorem own_nz {x : Int32} (h : 0 ≤ x.toInt) : x.toInt64 + (1 : Int64) ≠ (0 : Int64) := fun q => by
  have s := own_suc h
  rw [q] at s
  have e0 : (0 : Int64).toInt = 0 := rfl
  omega
theorem own_rem {u x : Int32} (h : 0 ≤ x.toInt) : 0 ≤ (((u.toInt64 &&& (2147483647 : Int64)) % (x.toInt64 + (1 : Int64))).toInt32).toInt ∧ (((u.toInt64 &&& (2147483647 : Int64)) % (x.toInt64 + (1 : Int64))).toInt32).toInt ≤ x.toInt := by
  have s := own_suc h
  have m1 : (u.toInt64 &&& (2147483647 : Int64)).toInt = u.toInt64.toInt % (2 ^ 31 : Nat) := c_maskL _ 2147483647 31 (by decide) (by decide)
  have m2 : 0 ≤ (u.toInt64 &&& (2147483647 : Int64)).toInt := by rw [m1]; omega
  have t1 : ((u.toInt64 &&& (2147483647 : Int64)) % (x.toInt64 + (1 : Int64))).toInt = (u.toInt64 &&& (2147483647 : Int64)).toInt % (x.toInt + 1) := by
    rw [Int64.toInt_mod, s]; exact (tr _ _).1 m2
  have t2 := Int.emod_nonneg (u.toInt64 &&& (2147483647 : Int64)).toInt (b := x.toInt + 1) (by omega)
  have t3 := Int.emod_lt_of_pos (u.toInt64 &&& (2147483647 : Int64)).toInt (b := x.toInt + 1) (by omega)
  have c := c_l2i ((u.toInt64 &&& (2147483647 : Int64)) % (x.toInt64 + (1 : Int64)))
  rw [t1] at c
  have r := rng32 x
  have r2 := rng32 ((u.toInt64 &&& (2147483647 : Int64)) % (x.toInt64 + (1 : Int64))).toInt32
  omega
theorem own_evb {u f x y : Int32} (h : 0 ≤ x.toInt) (q : y = if (f &&& (2 : Int32)) = (0 : Int32) then (((u.toInt64) &&& (2147483647 : Int64)) % ((x.toInt64) + (1 : Int64))).toInt32 else x) : 0 ≤ y.toInt ∧ y.toInt ≤ x.toInt := by
  subst q; split
  · exact own_rem h
  · omega
theorem own_heb {u x y : Int32} (h : 0 ≤ x.toInt) (q : (((u.toInt64) &&& (2147483647 : Int64)) % ((x.toInt64) + (1 : Int64))).toInt32 = y) : 0 ≤ y.toInt ∧ y.toInt ≤ x.toInt := by
  subst q; exact own_rem h
theorem own_mn (u v : Int64) : ((own_min u v).toInt = u.toInt ∧ u.toInt ≤ v.toInt) ∨ ((own_min u v).toInt = v.toInt ∧ v.toInt < u.toInt) := by
  unfold own_min; split
  · rename_i h; rw [Int64.lt_iff_toInt_lt] at h; omega
  · rename_i h; rw [Int64.lt_iff_toInt_lt] at h; omega
theorem own_mxx (u v : Int64) : ((own_max u v).toInt = u.toInt ∧ v.toInt ≤ u.toInt) ∨ ((own_max u v).toInt = v.toInt ∧ u.toInt < v.toInt) := by
  unfold own_max; split
  · rename_i h; rw [Int64.lt_iff_toInt_lt] at h; omega
  · rename_i h; rw [Int64.lt_iff_toInt_lt] at h; omega
theorem own_key0 {sz ev he ga : Int32} {le mo : Int64} (hlm : le.toInt ≤ mo.toInt) (h1 : 0 ≤ ev.toInt ∧ ev.toInt ≤ sz.toInt) (h2 : 0 ≤ he.toInt ∧ he.toInt ≤ ev.toInt) :
    own_dec sz le mo ev he ga = (if he.toInt64 = he.toInt64 + (sz - ev).toInt64 then (1 : Int32) else (if (if own_min (he.toInt64 + (sz - ev).toInt64) mo < own_max he.toInt64 le then (0 : Int32) else (1 : Int32)) = (0 : Int32) then (1 : Int32) else (if ga = (0 : Int32) then (if (if he.toInt64 < le then (1 : Int32) else (if mo < he.toInt64 + (sz - ev).toInt64 then (1 : Int32) else (0 : Int32))) = (0 : Int32) then (1 : Int32) else (0 : Int32)) else (0 : Int32)))) := by
  have r1 := rng32 sz
  have r2 := rng32 ev
  have r3 := rng32 he
  have s1 := c_isub sz ev
  have r4 := rng32 (sz - ev)
  have s1' : (sz - ev).toInt = sz.toInt - ev.toInt := by omega
  have s2 := c_iadd he (sz - ev)
  have r5 := rng32 (he + (sz - ev))
  have s2' : (he + (sz - ev)).toInt = he.toInt + (sz.toInt - ev.toInt) := by omega
  have s3 := c_ladd he.toInt64 (sz - ev).toInt64
  rw [own_i64, own_i64] at s3
  have r6 := rng64 (he.toInt64 + (sz - ev).toInt64)
  have s3' : (he.toInt64 + (sz - ev).toInt64).toInt = he.toInt + (sz.toInt - ev.toInt) := by omega
  have hhi : (he + (sz - ev)).toInt64 = he.toInt64 + (sz - ev).toInt64 := Int64.toInt_inj.mp (by rw [own_i64, s2', s3'])
  have hlo : he.toInt64.toInt = he.toInt := own_i64 he
  have e0 : (0 : Int32).toInt = 0 := rfl
  unfold own_dec
  rw [hhi]
  generalize he.toInt64 + (sz - ev).toInt64 = hi at *
  generalize he.toInt64 = lo at *
  by_cases hA : sz - ev = 0
  · have q : lo = hi := Int64.toInt_inj.mp (by rw [hA, e0] at s1'; omega)
    rw [if_pos hA, if_pos q]
  · have q : ¬ lo = hi := fun q => hA (Int32.toInt_inj.mp (by rw [q] at hlo; omega))
    rw [if_neg hA, if_neg q]
    have m1 := own_mn hi mo
    have m2 := own_mxx lo le
    by_cases hB : mo < lo
    · have q2 : own_min hi mo < own_max lo le := by rw [Int64.lt_iff_toInt_lt] at *; omega
      simp [hB, q2]
    · by_cases hC : hi < le
      · have q2 : own_min hi mo < own_max lo le := by rw [Int64.lt_iff_toInt_lt] at *; omega
        simp [hB, hC, q2]
      · have q2 : ¬ own_min hi mo < own_max lo le := by rw [Int64.lt_iff_toInt_lt] at *; omega
        by_cases hD : ga = 0 <;> by_cases hE : lo < le <;> by_cases hF : mo < hi <;> simp [hB, hC, q2, hD, hE, hF]
theorem own_key {sz ev he ga : Int32} {u v : Int64} (h1 : 0 ≤ ev.toInt ∧ ev.toInt ≤ sz.toInt) (h2 : 0 ≤ he.toInt ∧ he.toInt ≤ ev.toInt) :
    own_dec sz (own_min u v) (own_max u v) ev he ga = (if he.toInt64 = he.toInt64 + (sz - ev).toInt64 then (1 : Int32) else (if (if own_min (he.toInt64 + (sz - ev).toInt64) (own_max u v) < own_max he.toInt64 (own_min u v) then (0 : Int32) else (1 : Int32)) = (0 : Int32) then (1 : Int32) else (if ga = (0 : Int32) then (if (if he.toInt64 < own_min u v then (1 : Int32) else (if own_max u v < he.toInt64 + (sz - ev).toInt64 then (1 : Int32) else (0 : Int32))) = (0 : Int32) then (1 : Int32) else (0 : Int32)) else (0 : Int32)))) :=
  own_key0 (by have m1 := own_mn u v; have m2 := own_mxx u v; omega) h1 h2
theorem own_pd0 : parseMethodDescriptor "(JJ)J" = some ⟨[.long, .long], some .long⟩ := by decide +kernel
theorem own_pd1 : parseMethodDescriptor "(IJJIIZ)Z" = some ⟨[.int, .long, .long, .int, .int, .boolean], some .boolean⟩ := by decide +kernel
theorem own_d1_0 : decode jdk_29_method_70_code 0 = .ok (.lload_n 0, 1) := by decide +kernel
theorem own_d1_1 : decode jdk_29_method_70_code 1 = .ok (.lload_n 2, 1) := by decide +kernel
theorem own_d1_2 : decode jdk_29_method_70_code 2 = .ok (.lcmp, 1) := by decide +kernel
theorem own_d1_3 : decode jdk_29_method_70_code 3 = .ok (.ifCond .gt 7, 3) := by decide +kernel
theorem own_d1_6 : decode jdk_29_method_70_code 6 = .ok (.lload_n 0, 1) := by decide +kernel
theorem own_d1_7 : decode jdk_29_method_70_code 7 = .ok (.goto 4, 3) := by decide +kernel
theorem own_d1_10 : decode jdk_29_method_70_code 10 = .ok (.lload_n 2, 1) := by decide +kernel
theorem own_d1_11 : decode jdk_29_method_70_code 11 = .ok (.lreturn, 1) := by decide +kernel
abbrev own_room1 : Room := { frames := 0, cells := 0, slots := 0, locals := 0 }
theorem own_ef1 (m : MethodId) (ai : Int64) (aj : Int64) : entryFrame m #[(.long ai), (.long aj)] 4 = mkF m 0 #[.val (.long ai), .second, .val (.long aj), .second] [] := by first | (simp [entryFrame, mkF, argsToLocals, Value.category]; done) | rfl
def own_Q1 (Z : State) (ai : Int64) (aj : Int64) (h0 : Heap) (n0 : Nat) (v : Option Value) (h : Heap) (L : List Loc) : Prop := v = some (.long (own_min ai aj)) ∧ Fr n0 L ∧ h = h0
set_option maxRecDepth 65536 in
set_option maxHeartbeats 40000000 in
theorem own_rm1 (l : Launch) (Z : State) (a0 : Array Value) (hw : ∀ d ∈ tables_1, d.before a0 Z = true) (ws : List Jvm.Cond) (ai : Int64) (aj : Int64) (h0 : Heap) (n0 : Nat)  :
    MetFree l (⟨"java/lang/Math", "min", "(JJ)J"⟩ : MethodName) (head1 (Jvm.Cond.code (⟨"java/lang/Math", "min", "(JJ)J"⟩ : MethodName) jdk_29_method_70_code 4 (some .long) :: ws) (own_room1 : Room)) (fun a U => a = #[(.long ai), (.long aj)] ∧ Z.Warmed39 U.vm ∧ U.heap = h0) (fun _ _ _ _ _ => True) (fun _ U o U' => ∃ v L, o = .returned v ∧ own_Q1 Z ai aj h0 n0 v U'.heap L ∧ FrameEnd U o U' L (own_room1 : Room).cells (own_room1 : Room).slots) := by
  refine MetFree.of_bodySF (Jvm.Free.JP.mathPlain rfl (by decide +kernel)) hisR ?_
  intro p e s m args below meth c s₁ Bd hml0 hP hK
  obtain ⟨rfl, hZ, hh⟩ := hP
  have hx := Bd.exec
  have hby := Bd.bytes
  have hml : c.maxLocals = 4 := hml0
  have hown : s.vm.findClass "java/lang/Math" = some m.cls := findClass_of_methodNamed Bd.named
  have hnm := (name_of_methodNamed Bd.named Bd.method).1
  have X0 : Stand p l e (own_room1 : Room) s m #[(.long ai), (.long aj)] below meth c s₁ [] 0 0 := Stand.of_body Bd
  have e0 : s₁.heap = h0 := by rw [← hh, Bd.state]; rfl
  have N0 := Fr.nil n0
  refine own_out fun G hG => ?_
  rw [own_ef1 m ai aj]
  show own_Go p.tables e below G (s₁.setTop (mkF m 0 #[.val (.long ai), .second, .val (.long aj), .second] []))
  refine own_of (S' := s₁.setTop (mkF m 1 #[.val (.long ai), .second, .val (.long aj), .second] [(.long ai)])) (fun t k => XS.lloadN X0.here hx rfl (hb hby own_d1_0) rfl k) ?_
  refine own_of (S' := s₁.setTop (mkF m 2 #[.val (.long ai), .second, .val (.long aj), .second] [(.long aj), (.long ai)])) (fun t k => XS.lloadN X0.here hx rfl (hb hby own_d1_1) rfl k) ?_
  refine own_of (S' := s₁.setTop (mkF m 3 #[.val (.long ai), .second, .val (.long aj), .second] [(.int (lcmpW ai aj))])) (fun t k => XS.lcmp X0.here hx rfl (hb hby own_d1_2) rfl k) ?_
  by_cases hc3 : aj < ai
  · refine own_of (S' := s₁.setTop (mkF m 10 #[.val (.long ai), .second, .val (.long aj), .second] [])) (fun t k => XS.ifYes X0.here hx rfl (pc0 := 3) (pc' := 10) rfl (hb hby own_d1_3) rfl ((if0 _ _).trans (tlt ((lw_gt ai aj).mpr hc3)).2.2.1) (by decide) (by decide) k) ?_
    refine own_of (S' := s₁.setTop (mkF m 11 #[.val (.long ai), .second, .val (.long aj), .second] [(.long aj)])) (fun t k => XS.lloadN X0.here hx rfl (hb hby own_d1_10) rfl k) ?_
    obtain ⟨fs, hr, hrun, hended, hW, hsame⟩ := X0.leave (v := some (.long aj)) (fun h => by rw [Bd.returns] at h; cases h)
    refine ⟨_, _, own_retL X0 hx Bd.returns (hb hby own_d1_11) hr, hrun, hended, hG _ _ ⟨_, _, rfl, ?_, ⟨_, rfl⟩, hW, hsame.mono (by decide) (by decide)⟩⟩
    show own_Q1 Z ai aj h0 n0 _ s₁.heap _
    rw [e0]
    have hl : aj = (own_min ai aj) := by simp [own_min, *]
    exact ⟨congrArg (fun w => some (Value.long w)) hl, N0, rfl⟩
  · refine own_of (S' := s₁.setTop (mkF m 6 #[.val (.long ai), .second, .val (.long aj), .second] [])) (fun t k => XS.ifNo X0.here hx rfl (hb hby own_d1_3) rfl ((if0 _ _).trans (flt (fun q => hc3 ((lw_gt ai aj).mp q))).2.2.1) k) ?_
    refine own_of (S' := s₁.setTop (mkF m 7 #[.val (.long ai), .second, .val (.long aj), .second] [(.long ai)])) (fun t k => XS.lloadN X0.here hx rfl (hb hby own_d1_6) rfl k) ?_
    refine own_of (S' := s₁.setTop (mkF m 11 #[.val (.long ai), .second, .val (.long aj), .second] [(.long ai)])) (fun t k => XS.goto X0.here hx rfl (pc0 := 7) (pc' := 11) rfl (hb hby own_d1_7) (by decide) (by decide) k) ?_
    obtain ⟨fs, hr, hrun, hended, hW, hsame⟩ := X0.leave (v := some (.long ai)) (fun h => by rw [Bd.returns] at h; cases h)
    refine ⟨_, _, own_retL X0 hx Bd.returns (hb hby own_d1_11) hr, hrun, hended, hG _ _ ⟨_, _, rfl, ?_, ⟨_, rfl⟩, hW, hsame.mono (by decide) (by decide)⟩⟩
    show own_Q1 Z ai aj h0 n0 _ s₁.heap _
    rw [e0]
    have hl : ai = (own_min ai aj) := by simp [own_min, *]
    exact ⟨congrArg (fun w => some (Value.long w)) hl, N0, rfl⟩
theorem own_d2_0 : decode jdk_29_method_66_code 0 = .ok (.lload_n 0, 1) := by decide +kernel
theorem own_d2_1 : decode jdk_29_method_66_code 1 = .ok (.lload_n 2, 1) := by decide +kernel
theorem own_d2_2 : decode jdk_29_method_66_code 2 = .ok (.lcmp, 1) := by decide +kernel
theorem own_d2_3 : decode jdk_29_method_66_code 3 = .ok (.ifCond .lt 7, 3) := by decide +kernel
theorem own_d2_6 : decode jdk_29_method_66_code 6 = .ok (.lload_n 0, 1) := by decide +kernel
theorem own_d2_7 : decode jdk_29_method_66_code 7 = .ok (.goto 4, 3) := by decide +kernel
theorem own_d2_10 : decode jdk_29_method_66_code 10 = .ok (.lload_n 2, 1) := by decide +kernel
theorem own_d2_11 : decode jdk_29_method_66_code 11 = .ok (.lreturn, 1) := by decide +kernel
abbrev own_room2 : Room := { frames := 0, cells := 0, slots := 0, locals := 0 }
theorem own_ef2 (m : MethodId) (ai : Int64) (aj : Int64) : entryFrame m #[(.long ai), (.long aj)] 4 = mkF m 0 #[.val (.long ai), .second, .val (.long aj), .second] [] := by first | (simp [entryFrame, mkF, argsToLocals, Value.category]; done) | rfl
def own_Q2 (Z : State) (ai : Int64) (aj : Int64) (h0 : Heap) (n0 : Nat) (v : Option Value) (h : Heap) (L : List Loc) : Prop := v = some (.long (own_max ai aj)) ∧ Fr n0 L ∧ h = h0
set_option maxRecDepth 65536 in
set_option maxHeartbeats 40000000 in
theorem own_rm2 (l : Launch) (Z : State) (a0 : Array Value) (hw : ∀ d ∈ tables_1, d.before a0 Z = true) (ws : List Jvm.Cond) (ai : Int64) (aj : Int64) (h0 : Heap) (n0 : Nat)  :
    MetFree l (⟨"java/lang/Math", "max", "(JJ)J"⟩ : MethodName) (head1 (Jvm.Cond.code (⟨"java/lang/Math", "max", "(JJ)J"⟩ : MethodName) jdk_29_method_66_code 4 (some .long) :: ws) (own_room2 : Room)) (fun a U => a = #[(.long ai), (.long aj)] ∧ Z.Warmed39 U.vm ∧ U.heap = h0) (fun _ _ _ _ _ => True) (fun _ U o U' => ∃ v L, o = .returned v ∧ own_Q2 Z ai aj h0 n0 v U'.heap L ∧ FrameEnd U o U' L (own_room2 : Room).cells (own_room2 : Room).slots) := by
  refine MetFree.of_bodySF (Jvm.Free.JP.mathPlain rfl (by decide +kernel)) hisR ?_
  intro p e s m args below meth c s₁ Bd hml0 hP hK
  obtain ⟨rfl, hZ, hh⟩ := hP
  have hx := Bd.exec
  have hby := Bd.bytes
  have hml : c.maxLocals = 4 := hml0
  have hown : s.vm.findClass "java/lang/Math" = some m.cls := findClass_of_methodNamed Bd.named
  have hnm := (name_of_methodNamed Bd.named Bd.method).1
  have X0 : Stand p l e (own_room2 : Room) s m #[(.long ai), (.long aj)] below meth c s₁ [] 0 0 := Stand.of_body Bd
  have e0 : s₁.heap = h0 := by rw [← hh, Bd.state]; rfl
  have N0 := Fr.nil n0
  refine own_out fun G hG => ?_
  rw [own_ef2 m ai aj]
  show own_Go p.tables e below G (s₁.setTop (mkF m 0 #[.val (.long ai), .second, .val (.long aj), .second] []))
  refine own_of (S' := s₁.setTop (mkF m 1 #[.val (.long ai), .second, .val (.long aj), .second] [(.long ai)])) (fun t k => XS.lloadN X0.here hx rfl (hb hby own_d2_0) rfl k) ?_
  refine own_of (S' := s₁.setTop (mkF m 2 #[.val (.long ai), .second, .val (.long aj), .second] [(.long aj), (.long ai)])) (fun t k => XS.lloadN X0.here hx rfl (hb hby own_d2_1) rfl k) ?_
  refine own_of (S' := s₁.setTop (mkF m 3 #[.val (.long ai), .second, .val (.long aj), .second] [(.int (lcmpW ai aj))])) (fun t k => XS.lcmp X0.here hx rfl (hb hby own_d2_2) rfl k) ?_
  by_cases hc3 : ai < aj
  · refine own_of (S' := s₁.setTop (mkF m 10 #[.val (.long ai), .second, .val (.long aj), .second] [])) (fun t k => XS.ifYes X0.here hx rfl (pc0 := 3) (pc' := 10) rfl (hb hby own_d2_3) rfl ((if0 _ _).trans (tlt ((lw_lt ai aj).mpr hc3)).1) (by decide) (by decide) k) ?_
    refine own_of (S' := s₁.setTop (mkF m 11 #[.val (.long ai), .second, .val (.long aj), .second] [(.long aj)])) (fun t k => XS.lloadN X0.here hx rfl (hb hby own_d2_10) rfl k) ?_
    obtain ⟨fs, hr, hrun, hended, hW, hsame⟩ := X0.leave (v := some (.long aj)) (fun h => by rw [Bd.returns] at h; cases h)
    refine ⟨_, _, own_retL X0 hx Bd.returns (hb hby own_d2_11) hr, hrun, hended, hG _ _ ⟨_, _, rfl, ?_, ⟨_, rfl⟩, hW, hsame.mono (by decide) (by decide)⟩⟩
    show own_Q2 Z ai aj h0 n0 _ s₁.heap _
    rw [e0]
    have hl : aj = (own_max ai aj) := by simp [own_max, *]
    exact ⟨congrArg (fun w => some (Value.long w)) hl, N0, rfl⟩
  · refine own_of (S' := s₁.setTop (mkF m 6 #[.val (.long ai), .second, .val (.long aj), .second] [])) (fun t k => XS.ifNo X0.here hx rfl (hb hby own_d2_3) rfl ((if0 _ _).trans (flt (fun q => hc3 ((lw_lt ai aj).mp q))).1) k) ?_
    refine own_of (S' := s₁.setTop (mkF m 7 #[.val (.long ai), .second, .val (.long aj), .second] [(.long ai)])) (fun t k => XS.lloadN X0.here hx rfl (hb hby own_d2_6) rfl k) ?_
    refine own_of (S' := s₁.setTop (mkF m 11 #[.val (.long ai), .second, .val (.long aj), .second] [(.long ai)])) (fun t k => XS.goto X0.here hx rfl (pc0 := 7) (pc' := 11) rfl (hb hby own_d2_7) (by decide) (by decide) k) ?_
    obtain ⟨fs, hr, hrun, hended, hW, hsame⟩ := X0.leave (v := some (.long ai)) (fun h => by rw [Bd.returns] at h; cases h)
    refine ⟨_, _, own_retL X0 hx Bd.returns (hb hby own_d2_11) hr, hrun, hended, hG _ _ ⟨_, _, rfl, ?_, ⟨_, rfl⟩, hW, hsame.mono (by decide) (by decide)⟩⟩
    show own_Q2 Z ai aj h0 n0 _ s₁.heap _
    rw [e0]
    have hl : ai = (own_max ai aj) := by simp [own_max, *]
    exact ⟨congrArg (fun w => some (Value.long w)) hl, N0, rfl⟩
theorem own_d3_0 : decode prog_100_method_6_code 0 = .ok (.iload_n 0, 1) := by decide +kernel
theorem own_d3_1 : decode prog_100_method_6_code 1 = .ok (.iload 5, 2) := by decide +kernel
theorem own_d3_3 : decode prog_100_method_6_code 3 = .ok (.isub, 1) := by decide +kernel
theorem own_d3_4 : decode prog_100_method_6_code 4 = .ok (.istore 8, 2) := by decide +kernel
theorem own_d3_6 : decode prog_100_method_6_code 6 = .ok (.iload 8, 2) := by decide +kernel
theorem own_d3_8 : decode prog_100_method_6_code 8 = .ok (.ifCond .eq 46, 3) := by decide +kernel
theorem own_d3_11 : decode prog_100_method_6_code 11 = .ok (.iload 6, 2) := by decide +kernel
theorem own_d3_13 : decode prog_100_method_6_code 13 = .ok (.i2l, 1) := by decide +kernel
theorem own_d3_14 : decode prog_100_method_6_code 14 = .ok (.lload_n 3, 1) := by decide +kernel
theorem own_d3_15 : decode prog_100_method_6_code 15 = .ok (.lcmp, 1) := by decide +kernel
theorem own_d3_16 : decode prog_100_method_6_code 16 = .ok (.ifCond .gt 38, 3) := by decide +kernel
theorem own_d3_19 : decode prog_100_method_6_code 19 = .ok (.iload 6, 2) := by decide +kernel
theorem own_d3_21 : decode prog_100_method_6_code 21 = .ok (.iload 8, 2) := by decide +kernel
theorem own_d3_23 : decode prog_100_method_6_code 23 = .ok (.iadd, 1) := by decide +kernel
theorem own_d3_24 : decode prog_100_method_6_code 24 = .ok (.i2l, 1) := by decide +kernel
theorem own_d3_25 : decode prog_100_method_6_code 25 = .ok (.lload_n 1, 1) := by decide +kernel
theorem own_d3_26 : decode prog_100_method_6_code 26 = .ok (.lcmp, 1) := by decide +kernel
theorem own_d3_27 : decode prog_100_method_6_code 27 = .ok (.ifCond .lt 27, 3) := by decide +kernel
theorem own_d3_30 : decode prog_100_method_6_code 30 = .ok (.iload 7, 2) := by decide +kernel
theorem own_d3_32 : decode prog_100_method_6_code 32 = .ok (.ifCond .ne 26, 3) := by decide +kernel
theorem own_d3_35 : decode prog_100_method_6_code 35 = .ok (.iload 6, 2) := by decide +kernel
theorem own_d3_37 : decode prog_100_method_6_code 37 = .ok (.i2l, 1) := by decide +kernel
theorem own_d3_38 : decode prog_100_method_6_code 38 = .ok (.lload_n 1, 1) := by decide +kernel
theorem own_d3_39 : decode prog_100_method_6_code 39 = .ok (.lcmp, 1) := by decide +kernel
theorem own_d3_40 : decode prog_100_method_6_code 40 = .ok (.ifCond .lt 18, 3) := by decide +kernel
theorem own_d3_43 : decode prog_100_method_6_code 43 = .ok (.iload 6, 2) := by decide +kernel
theorem own_d3_45 : decode prog_100_method_6_code 45 = .ok (.iload 8, 2) := by decide +kernel
theorem own_d3_47 : decode prog_100_method_6_code 47 = .ok (.iadd, 1) := by decide +kernel
theorem own_d3_48 : decode prog_100_method_6_code 48 = .ok (.i2l, 1) := by decide +kernel
theorem own_d3_49 : decode prog_100_method_6_code 49 = .ok (.lload_n 3, 1) := by decide +kernel
theorem own_d3_50 : decode prog_100_method_6_code 50 = .ok (.lcmp, 1) := by decide +kernel
theorem own_d3_51 : decode prog_100_method_6_code 51 = .ok (.ifCond .gt 7, 3) := by decide +kernel
theorem own_d3_54 : decode prog_100_method_6_code 54 = .ok (.iconst 1, 1) := by decide +kernel
theorem own_d3_55 : decode prog_100_method_6_code 55 = .ok (.goto 4, 3) := by decide +kernel
theorem own_d3_58 : decode prog_100_method_6_code 58 = .ok (.iconst 0, 1) := by decide +kernel
theorem own_d3_59 : decode prog_100_method_6_code 59 = .ok (.ireturn, 1) := by decide +kernel
abbrev own_room3 : Room := { frames := 0, cells := 0, slots := 0, locals := 0 }
theorem own_pn3 : plainName "com/example/libjtree/libjtree/schema/BranchApplicator" = true := by first | (simp [plainName, overriddenIn]; done) | decide +kernel
theorem own_ef3 (m : MethodId) (sz : Int32) (le : Int64) (mo : Int64) (ev : Int32) (he : Int32) (ga : Int32) : entryFrame m #[(.int sz), (.long le), (.long mo), (.int ev), (.int he), (.int ga)] 9 = mkF m 0 #[.val (.int sz), .val (.long le), .second, .val (.long mo), .second, .val (.int ev), .val (.int he), .val (.int ga), .unset] [] := by first | (simp [entryFrame, mkF, argsToLocals, Value.category]; done) | rfl
def own_Q3 (Z : State) (sz : Int32) (le : Int64) (mo : Int64) (ev : Int32) (he : Int32) (ga : Int32) (h0 : Heap) (n0 : Nat) (v : Option Value) (h : Heap) (L : List Loc) : Prop := v = some (.int (own_dec sz le mo ev he ga)) ∧ Fr n0 L ∧ h = h0
set_option maxRecDepth 65536 in
set_option maxHeartbeats 40000000 in
theorem own_rm3 (l : Launch) (Z : State) (a0 : Array Value) (hw : ∀ d ∈ tables_1, d.before a0 Z = true) (ws : List Jvm.Cond) (sz : Int32) (le : Int64) (mo : Int64) (ev : Int32) (he : Int32) (ga : Int32) (h0 : Heap) (n0 : Nat)  :
    MetFree l (⟨"com/example/libjtree/libjtree/schema/BranchApplicator", "decides", "(IJJIIZ)Z"⟩ : MethodName) (head1 (Jvm.Cond.code (⟨"com/example/libjtree/libjtree/schema/BranchApplicator", "decides", "(IJJIIZ)Z"⟩ : MethodName) prog_100_method_6_code 9 (some .boolean) :: ws) (own_room3 : Room)) (fun a U => a = #[(.int sz), (.long le), (.long mo), (.int ev), (.int he), (.int ga)] ∧ Z.Warmed39 U.vm ∧ U.heap = h0) (fun _ _ _ _ _ => True) (fun _ U o U' => ∃ v L, o = .returned v ∧ own_Q3 Z sz le mo ev he ga h0 n0 v U'.heap L ∧ FrameEnd U o U' L (own_room3 : Room).cells (own_room3 : Room).slots) := by
  refine MetFree.of_bodySF (plainFor_of_name own_pn3) hisR ?_
  intro p e s m args below meth c s₁ Bd hml0 hP hK
  obtain ⟨rfl, hZ, hh⟩ := hP
  have hx := Bd.exec
  have hby := Bd.bytes
  have hml : c.maxLocals = 9 := hml0
  have hown : s.vm.findClass "com/example/libjtree/libjtree/schema/BranchApplicator" = some m.cls := findClass_of_methodNamed Bd.named
  have hnm := (name_of_methodNamed Bd.named Bd.method).1
  have X0 : Stand p l e (own_room3 : Room) s m #[(.int sz), (.long le), (.long mo), (.int ev), (.int he), (.int ga)] below meth c s₁ [] 0 0 := Stand.of_body Bd
  have e0 : s₁.heap = h0 := by rw [← hh, Bd.state]; rfl
  have N0 := Fr.nil n0
  refine own_out fun G hG => ?_
  rw [own_ef3 m sz le mo ev he ga]
  show own_Go p.tables e below G (s₁.setTop (mkF m 0 #[.val (.int sz), .val (.long le), .second, .val (.long mo), .second, .val (.int ev), .val (.int he), .val (.int ga), .unset] []))
  refine own_of (S' := s₁.setTop (mkF m 1 #[.val (.int sz), .val (.long le), .second, .val (.long mo), .second, .val (.int ev), .val (.int he), .val (.int ga), .unset] [(.int sz)])) (fun t k => XS.iloadN X0.here hx rfl (hb hby own_d3_0) rfl k) ?_
  refine own_of (S' := s₁.setTop (mkF m 3 #[.val (.int sz), .val (.long le), .second, .val (.long mo), .second, .val (.int ev), .val (.int he), .val (.int ga), .unset] [(.int ev), (.int sz)])) (fun t k => XS.iload X0.here hx rfl (hb hby own_d3_1) rfl k) ?_
  refine own_of (S' := s₁.setTop (mkF m 4 #[.val (.int sz), .val (.long le), .second, .val (.long mo), .second, .val (.int ev), .val (.int he), .val (.int ga), .unset] [(.int (sz - ev))])) (fun t k => XS.isub X0.here hx rfl (hb hby own_d3_3) rfl k) ?_
  generalize q4 : (sz - ev) = x4
  refine own_of (S' := s₁.setTop (mkF m 6 #[.val (.int sz), .val (.long le), .second, .val (.long mo), .second, .val (.int ev), .val (.int he), .val (.int ga), .val (.int x4)] [])) (fun t k => XS.istore X0.here hx rfl (hb hby own_d3_4) rfl (l' := #[.val (.int sz), .val (.long le), .second, .val (.long mo), .second, .val (.int ev), .val (.int he), .val (.int ga), .val (.int x4)]) rfl k) ?_
  refine own_of (S' := s₁.setTop (mkF m 8 #[.val (.int sz), .val (.long le), .second, .val (.long mo), .second, .val (.int ev), .val (.int he), .val (.int ga), .val (.int x4)] [(.int x4)])) (fun t k => XS.iload X0.here hx rfl (hb hby own_d3_6) rfl k) ?_
  by_cases hc8 : x4 = (0 : Int32)
  · refine own_of (S' := s₁.setTop (mkF m 54 #[.val (.int sz), .val (.long le), .second, .val (.long mo), .second, .val (.int ev), .val (.int he), .val (.int ga), .val (.int x4)] [])) (fun t k => XS.ifYes X0.here hx rfl (pc0 := 8) (pc' := 54) rfl (hb hby own_d3_8) rfl ((if0 _ _).trans (teq hc8).1) (by decide) (by decide) k) ?_
    refine own_of (S' := s₁.setTop (mkF m 55 #[.val (.int sz), .val (.long le), .second, .val (.long mo), .second, .val (.int ev), .val (.int he), .val (.int ga), .val (.int x4)] [(.int (1 : Int32))])) (fun t k => XS.iconst X0.here hx rfl (hb hby own_d3_54) k) ?_
    refine own_of (S' := s₁.setTop (mkF m 59 #[.val (.int sz), .val (.long le), .second, .val (.long mo), .second, .val (.int ev), .val (.int he), .val (.int ga), .val (.int x4)] [(.int (1 : Int32))])) (fun t k => XS.goto X0.here hx rfl (pc0 := 55) (pc' := 59) rfl (hb hby own_d3_55) (by decide) (by decide) k) ?_
    obtain ⟨fs, hr, hrun, hended, hW, hsame⟩ := X0.leave (v := some (.int (nar .boolean (1 : Int32)))) (fun h => by rw [Bd.returns] at h; cases h)
    refine ⟨_, _, retN X0 hx (t := .boolean) Bd.returns (by simp) (hb hby own_d3_59) hr, hrun, hended, hG _ _ ⟨_, _, rfl, ?_, ⟨_, rfl⟩, hW, hsame.mono (by decide) (by decide)⟩⟩
    show own_Q3 Z sz le mo ev he ga h0 n0 _ s₁.heap _
    rw [e0]
    have hl : nar .boolean (1 : Int32) = (own_dec sz le mo ev he ga) := by subst_vars; simp [own_dec, nar, *]
    exact ⟨congrArg (fun w => some (Value.int w)) hl, N0, rfl⟩
  · refine own_of (S' := s₁.setTop (mkF m 11 #[.val (.int sz), .val (.long le), .second, .val (.long mo), .second, .val (.int ev), .val (.int he), .val (.int ga), .val (.int x4)] [])) (fun t k => XS.ifNo X0.here hx rfl (hb hby own_d3_8) rfl ((if0 _ _).trans (feq hc8).1) k) ?_
    refine own_of (S' := s₁.setTop (mkF m 13 #[.val (.int sz), .val (.long le), .second, .val (.long mo), .second, .val (.int ev), .val (.int he), .val (.int ga), .val (.int x4)] [(.int he)])) (fun t k => XS.iload X0.here hx rfl (hb hby own_d3_11) rfl k) ?_
    refine own_of (S' := s₁.setTop (mkF m 14 #[.val (.int sz), .val (.long le), .second, .val (.long mo), .second, .val (.int ev), .val (.int he), .val (.int ga), .val (.int x4)] [(.long (he.toInt64))])) (fun t k => XS.i2l X0.here hx rfl (hb hby own_d3_13) rfl k) ?_
    refine own_of (S' := s₁.setTop (mkF m 15 #[.val (.int sz), .val (.long le), .second, .val (.long mo), .second, .val (.int ev), .val (.int he), .val (.int ga), .val (.int x4)] [(.long mo), (.long (he.toInt64))])) (fun t k => XS.lloadN X0.here hx rfl (hb hby own_d3_14) rfl k) ?_
    refine own_of (S' := s₁.setTop (mkF m 16 #[.val (.int sz), .val (.long le), .second, .val (.long mo), .second, .val (.int ev), .val (.int he), .val (.int ga), .val (.int x4)] [(.int (lcmpW (he.toInt64) mo))])) (fun t k => XS.lcmp X0.here hx rfl (hb hby own_d3_15) rfl k) ?_
    by_cases hc16 : mo < (he.toInt64)
    · refine own_of (S' := s₁.setTop (mkF m 54 #[.val (.int sz), .val (.long le), .second, .val (.long mo), .second, .val (.int ev), .val (.int he), .val (.int ga), .val (.int x4)] [])) (fun t k => XS.ifYes X0.here hx rfl (pc0 := 16) (pc' := 54) rfl (hb hby own_d3_16) rfl ((if0 _ _).trans (tlt ((lw_gt (he.toInt64) mo).mpr hc16)).2.2.1) (by decide) (by decide) k) ?_
      refine own_of (S' := s₁.setTop (mkF m 55 #[.val (.int sz), .val (.long le), .second, .val (.long mo), .second, .val (.int ev), .val (.int he), .val (.int ga), .val (.int x4)] [(.int (1 : Int32))])) (fun t k => XS.iconst X0.here hx rfl (hb hby own_d3_54) k) ?_
      refine own_of (S' := s₁.setTop (mkF m 59 #[.val (.int sz), .val (.long le), .second, .val (.long mo), .second, .val (.int ev), .val (.int he), .val (.int ga), .val (.int x4)] [(.int (1 : Int32))])) (fun t k => XS.goto X0.here hx rfl (pc0 := 55) (pc' := 59) rfl (hb hby own_d3_55) (by decide) (by decide) k) ?_
      obtain ⟨fs, hr, hrun, hended, hW, hsame⟩ := X0.leave (v := some (.int (nar .boolean (1 : Int32)))) (fun h => by rw [Bd.returns] at h; cases h)
      refine ⟨_, _, retN X0 hx (t := .boolean) Bd.returns (by simp) (hb hby own_d3_59) hr, hrun, hended, hG _ _ ⟨_, _, rfl, ?_, ⟨_, rfl⟩, hW, hsame.mono (by decide) (by decide)⟩⟩
      show own_Q3 Z sz le mo ev he ga h0 n0 _ s₁.heap _
      rw [e0]
      have hl : nar .boolean (1 : Int32) = (own_dec sz le mo ev he ga) := by subst_vars; simp [own_dec, nar, *]
      exact ⟨congrArg (fun w => some (Value.int w)) hl, N0, rfl⟩
    · refine own_of (S' := s₁.setTop (mkF m 19 #[.val (.int sz), .val (.long le), .second, .val (.long mo), .second, .val (.int ev), .val (.int he), .val (.int ga), .val (.int x4)] [])) (fun t k => XS.ifNo X0.here hx rfl (hb hby own_d3_16) rfl ((if0 _ _).trans (flt (fun q => hc16 ((lw_gt (he.toInt64) mo).mp q))).2.2.1) k) ?_
      refine own_of (S' := s₁.setTop (mkF m 21 #[.val (.int sz), .val (.long le), .second, .val (.long mo), .second, .val (.int ev), .val (.int he), .val (.int ga), .val (.int x4)] [(.int he)])) (fun t k => XS.iload X0.here hx rfl (hb hby own_d3_19) rfl k) ?_
      refine own_of (S' := s₁.setTop (mkF m 23 #[.val (.int sz), .val (.long le), .second, .val (.long mo), .second, .val (.int ev), .val (.int he), .val (.int ga), .val (.int x4)] [(.int x4), (.int he)])) (fun t k => XS.iload X0.here hx rfl (hb hby own_d3_21) rfl k) ?_
      refine own_of (S' := s₁.setTop (mkF m 24 #[.val (.int sz), .val (.long le), .second, .val (.long mo), .second, .val (.int ev), .val (.int he), .val (.int ga), .val (.int x4)] [(.int (he + x4))])) (fun t k => XS.iadd X0.here hx rfl (hb hby own_d3_23) rfl k) ?_
      refine own_of (S' := s₁.setTop (mkF m 25 #[.val (.int sz), .val (.long le), .second, .val (.long mo), .second, .val (.int ev), .val (.int he), .val (.int ga), .val (.int x4)] [(.long ((he + x4).toInt64))])) (fun t k => XS.i2l X0.here hx rfl (hb hby own_d3_24) rfl k) ?_
      refine own_of (S' := s₁.setTop (mkF m 26 #[.val (.int sz), .val (.long le), .second, .val (.long mo), .second, .val (.int ev), .val (.int he), .val (.int ga), .val (.int x4)] [(.long le), (.long ((he + x4).toInt64))])) (fun t k => XS.lloadN X0.here hx rfl (hb hby own_d3_25) rfl k) ?_
      refine own_of (S' := s₁.setTop (mkF m 27 #[.val (.int sz), .val (.long le), .second, .val (.long mo), .second, .val (.int ev), .val (.int he), .val (.int ga), .val (.int x4)] [(.int (lcmpW ((he + x4).toInt64) le))])) (fun t k => XS.lcmp X0.here hx rfl (hb hby own_d3_26) rfl k) ?_
      by_cases hc27 : ((he + x4).toInt64) < le
      · refine own_of (S' := s₁.setTop (mkF m 54 #[.val (.int sz), .val (.long le), .second, .val (.long mo), .second, .val (.int ev), .val (.int he), .val (.int ga), .val (.int x4)] [])) (fun t k => XS.ifYes X0.here hx rfl (pc0 := 27) (pc' := 54) rfl (hb hby own_d3_27) rfl ((if0 _ _).trans (tlt ((lw_lt ((he + x4).toInt64) le).mpr hc27)).1) (by decide) (by decide) k) ?_
        refine own_of (S' := s₁.setTop (mkF m 55 #[.val (.int sz), .val (.long le), .second, .val (.long mo), .second, .val (.int ev), .val (.int he), .val (.int ga), .val (.int x4)] [(.int (1 : Int32))])) (fun t k => XS.iconst X0.here hx rfl (hb hby own_d3_54) k) ?_
        refine own_of (S' := s₁.setTop (mkF m 59 #[.val (.int sz), .val (.long le), .second, .val (.long mo), .second, .val (.int ev), .val (.int he), .val (.int ga), .val (.int x4)] [(.int (1 : Int32))])) (fun t k => XS.goto X0.here hx rfl (pc0 := 55) (pc' := 59) rfl (hb hby own_d3_55) (by decide) (by decide) k) ?_
        obtain ⟨fs, hr, hrun, hended, hW, hsame⟩ := X0.leave (v := some (.int (nar .boolean (1 : Int32)))) (fun h => by rw [Bd.returns] at h; cases h)
        refine ⟨_, _, retN X0 hx (t := .boolean) Bd.returns (by simp) (hb hby own_d3_59) hr, hrun, hended, hG _ _ ⟨_, _, rfl, ?_, ⟨_, rfl⟩, hW, hsame.mono (by decide) (by decide)⟩⟩
        show own_Q3 Z sz le mo ev he ga h0 n0 _ s₁.heap _
        rw [e0]
        have hl : nar .boolean (1 : Int32) = (own_dec sz le mo ev he ga) := by subst_vars; simp [own_dec, nar, *]
        exact ⟨congrArg (fun w => some (Value.int w)) hl, N0, rfl⟩
      · refine own_of (S' := s₁.setTop (mkF m 30 #[.val (.int sz), .val (.long le), .second, .val (.long mo), .second, .val (.int ev), .val (.int he), .val (.int ga), .val (.int x4)] [])) (fun t k => XS.ifNo X0.here hx rfl (hb hby own_d3_27) rfl ((if0 _ _).trans (flt (fun q => hc27 ((lw_lt ((he + x4).toInt64) le).mp q))).1) k) ?_
        refine own_of (S' := s₁.setTop (mkF m 32 #[.val (.int sz), .val (.long le), .second, .val (.long mo), .second, .val (.int ev), .val (.int he), .val (.int ga), .val (.int x4)] [(.int ga)])) (fun t k => XS.iload X0.here hx rfl (hb hby own_d3_30) rfl k) ?_
        by_cases hc32 : ga = (0 : Int32)
        · refine own_of (S' := s₁.setTop (mkF m 35 #[.val (.int sz), .val (.long le), .second, .val (.long mo), .second, .val (.int ev), .val (.int he), .val (.int ga), .val (.int x4)] [])) (fun t k => XS.ifNo X0.here hx rfl (hb hby own_d3_32) rfl ((if0 _ _).trans (teq hc32).2) k) ?_
          refine own_of (S' := s₁.setTop (mkF m 37 #[.val (.int sz), .val (.long le), .second, .val (.long mo), .second, .val (.int ev), .val (.int he), .val (.int ga), .val (.int x4)] [(.int he)])) (fun t k => XS.iload X0.here hx rfl (hb hby own_d3_35) rfl k) ?_
          refine own_of (S' := s₁.setTop (mkF m 38 #[.val (.int sz), .val (.long le), .second, .val (.long mo), .second, .val (.int ev), .val (.int he), .val (.int ga), .val (.int x4)] [(.long (he.toInt64))])) (fun t k => XS.i2l X0.here hx rfl (hb hby own_d3_37) rfl k) ?_
          refine own_of (S' := s₁.setTop (mkF m 39 #[.val (.int sz), .val (.long le), .second, .val (.long mo), .second, .val (.int ev), .val (.int he), .val (.int ga), .val (.int x4)] [(.long le), (.long (he.toInt64))])) (fun t k => XS.lloadN X0.here hx rfl (hb hby own_d3_38) rfl k) ?_
          refine own_of (S' := s₁.setTop (mkF m 40 #[.val (.int sz), .val (.long le), .second, .val (.long mo), .second, .val (.int ev), .val (.int he), .val (.int ga), .val (.int x4)] [(.int (lcmpW (he.toInt64) le))])) (fun t k => XS.lcmp X0.here hx rfl (hb hby own_d3_39) rfl k) ?_
          by_cases hc40 : (he.toInt64) < le
          · refine own_of (S' := s₁.setTop (mkF m 58 #[.val (.int sz), .val (.long le), .second, .val (.long mo), .second, .val (.int ev), .val (.int he), .val (.int ga), .val (.int x4)] [])) (fun t k => XS.ifYes X0.here hx rfl (pc0 := 40) (pc' := 58) rfl (hb hby own_d3_40) rfl ((if0 _ _).trans (tlt ((lw_lt (he.toInt64) le).mpr hc40)).1) (by decide) (by decide) k) ?_
            refine own_of (S' := s₁.setTop (mkF m 59 #[.val (.int sz), .val (.long le), .second, .val (.long mo), .second, .val (.int ev), .val (.int he), .val (.int ga), .val (.int x4)] [(.int (0 : Int32))])) (fun t k => XS.iconst X0.here hx rfl (hb hby own_d3_58) k) ?_
            obtain ⟨fs, hr, hrun, hended, hW, hsame⟩ := X0.leave (v := some (.int (nar .boolean (0 : Int32)))) (fun h => by rw [Bd.returns] at h; cases h)
            refine ⟨_, _, retN X0 hx (t := .boolean) Bd.returns (by simp) (hb hby own_d3_59) hr, hrun, hended, hG _ _ ⟨_, _, rfl, ?_, ⟨_, rfl⟩, hW, hsame.mono (by decide) (by decide)⟩⟩
            show own_Q3 Z sz le mo ev he ga h0 n0 _ s₁.heap _
            rw [e0]
            have hl : nar .boolean (0 : Int32) = (own_dec sz le mo ev he ga) := by subst_vars; simp [own_dec, nar, *]
            exact ⟨congrArg (fun w => some (Value.int w)) hl, N0, rfl⟩
          · refine own_of (S' := s₁.setTop (mkF m 43 #[.val (.int sz), .val (.long le), .second, .val (.long mo), .second, .val (.int ev), .val (.int he), .val (.int ga), .val (.int x4)] [])) (fun t k => XS.ifNo X0.here hx rfl (hb hby own_d3_40) rfl ((if0 _ _).trans (flt (fun q => hc40 ((lw_lt (he.toInt64) le).mp q))).1) k) ?_
            refine own_of (S' := s₁.setTop (mkF m 45 #[.val (.int sz), .val (.long le), .second, .val (.long mo), .second, .val (.int ev), .val (.int he), .val (.int ga), .val (.int x4)] [(.int he)])) (fun t k => XS.iload X0.here hx rfl (hb hby own_d3_43) rfl k) ?_
            refine own_of (S' := s₁.setTop (mkF m 47 #[.val (.int sz), .val (.long le), .second, .val (.long mo), .second, .val (.int ev), .val (.int he), .val (.int ga), .val (.int x4)] [(.int x4), (.int he)])) (fun t k => XS.iload X0.here hx rfl (hb hby own_d3_45) rfl k) ?_
            refine own_of (S' := s₁.setTop (mkF m 48 #[.val (.int sz), .val (.long le), .second, .val (.long mo), .second, .val (.int ev), .val (.int he), .val (.int ga), .val (.int x4)] [(.int (he + x4))])) (fun t k => XS.iadd X0.here hx rfl (hb hby own_d3_47) rfl k) ?_
            refine own_of (S' := s₁.setTop (mkF m 49 #[.val (.int sz), .val (.long le), .second, .val (.long mo), .second, .val (.int ev), .val (.int he), .val (.int ga), .val (.int x4)] [(.long ((he + x4).toInt64))])) (fun t k => XS.i2l X0.here hx rfl (hb hby own_d3_48) rfl k) ?_
            refine own_of (S' := s₁.setTop (mkF m 50 #[.val (.int sz), .val (.long le), .second, .val (.long mo), .second, .val (.int ev), .val (.int he), .val (.int ga), .val (.int x4)] [(.long mo), (.long ((he + x4).toInt64))])) (fun t k => XS.lloadN X0.here hx rfl (hb hby own_d3_49) rfl k) ?_
            refine own_of (S' := s₁.setTop (mkF m 51 #[.val (.int sz), .val (.long le), .second, .val (.long mo), .second, .val (.int ev), .val (.int he), .val (.int ga), .val (.int x4)] [(.int (lcmpW ((he + x4).toInt64) mo))])) (fun t k => XS.lcmp X0.here hx rfl (hb hby own_d3_50) rfl k) ?_
            by_cases hc51 : mo < ((he + x4).toInt64)
            · refine own_of (S' := s₁.setTop (mkF m 58 #[.val (.int sz), .val (.long le), .second, .val (.long mo), .second, .val (.int ev), .val (.int he), .val (.int ga), .val (.int x4)] [])) (fun t k => XS.ifYes X0.here hx rfl (pc0 := 51) (pc' := 58) rfl (hb hby own_d3_51) rfl ((if0 _ _).trans (tlt ((lw_gt ((he + x4).toInt64) mo).mpr hc51)).2.2.1) (by decide) (by decide) k) ?_
              refine own_of (S' := s₁.setTop (mkF m 59 #[.val (.int sz), .val (.long le), .second, .val (.long mo), .second, .val (.int ev), .val (.int he), .val (.int ga), .val (.int x4)] [(.int (0 : Int32))])) (fun t k => XS.iconst X0.here hx rfl (hb hby own_d3_58) k) ?_
              obtain ⟨fs, hr, hrun, hended, hW, hsame⟩ := X0.leave (v := some (.int (nar .boolean (0 : Int32)))) (fun h => by rw [Bd.returns] at h; cases h)
              refine ⟨_, _, retN X0 hx (t := .boolean) Bd.returns (by simp) (hb hby own_d3_59) hr, hrun, hended, hG _ _ ⟨_, _, rfl, ?_, ⟨_, rfl⟩, hW, hsame.mono (by decide) (by decide)⟩⟩
              show own_Q3 Z sz le mo ev he ga h0 n0 _ s₁.heap _
              rw [e0]
              have hl : nar .boolean (0 : Int32) = (own_dec sz le mo ev he ga) := by subst_vars; simp [own_dec, nar, *]
              exact ⟨congrArg (fun w => some (Value.int w)) hl, N0, rfl⟩
            · refine own_of (S' := s₁.setTop (mkF m 54 #[.val (.int sz), .val (.long le), .second, .val (.long mo), .second, .val (.int ev), .val (.int he), .val (.int ga), .val (.int x4)] [])) (fun t k => XS.ifNo X0.here hx rfl (hb hby own_d3_51) rfl ((if0 _ _).trans (flt (fun q => hc51 ((lw_gt ((he + x4).toInt64) mo).mp q))).2.2.1) k) ?_
              refine own_of (S' := s₁.setTop (mkF m 55 #[.val (.int sz), .val (.long le), .second, .val (.long mo), .second, .val (.int ev), .val (.int he), .val (.int ga), .val (.int x4)] [(.int (1 : Int32))])) (fun t k => XS.iconst X0.here hx rfl (hb hby own_d3_54) k) ?_
              refine own_of (S' := s₁.setTop (mkF m 59 #[.val (.int sz), .val (.long le), .second, .val (.long mo), .second, .val (.int ev), .val (.int he), .val (.int ga), .val (.int x4)] [(.int (1 : Int32))])) (fun t k => XS.goto X0.here hx rfl (pc0 := 55) (pc' := 59) rfl (hb hby own_d3_55) (by decide) (by decide) k) ?_
              obtain ⟨fs, hr, hrun, hended, hW, hsame⟩ := X0.leave (v := some (.int (nar .boolean (1 : Int32)))) (fun h => by rw [Bd.returns] at h; cases h)
              refine ⟨_, _, retN X0 hx (t := .boolean) Bd.returns (by simp) (hb hby own_d3_59) hr, hrun, hended, hG _ _ ⟨_, _, rfl, ?_, ⟨_, rfl⟩, hW, hsame.mono (by decide) (by decide)⟩⟩
              show own_Q3 Z sz le mo ev he ga h0 n0 _ s₁.heap _
              rw [e0]
              have hl : nar .boolean (1 : Int32) = (own_dec sz le mo ev he ga) := by subst_vars; simp [own_dec, nar, *]
              exact ⟨congrArg (fun w => some (Value.int w)) hl, N0, rfl⟩
        · refine own_of (S' := s₁.setTop (mkF m 58 #[.val (.int sz), .val (.long le), .second, .val (.long mo), .second, .val (.int ev), .val (.int he), .val (.int ga), .val (.int x4)] [])) (fun t k => XS.ifYes X0.here hx rfl (pc0 := 32) (pc' := 58) rfl (hb hby own_d3_32) rfl ((if0 _ _).trans (feq hc32).2) (by decide) (by decide) k) ?_
          refine own_of (S' := s₁.setTop (mkF m 59 #[.val (.int sz), .val (.long le), .second, .val (.long mo), .second, .val (.int ev), .val (.int he), .val (.int ga), .val (.int x4)] [(.int (0 : Int32))])) (fun t k => XS.iconst X0.here hx rfl (hb hby own_d3_58) k) ?_
          obtain ⟨fs, hr, hrun, hended, hW, hsame⟩ := X0.leave (v := some (.int (nar .boolean (0 : Int32)))) (fun h => by rw [Bd.returns] at h; cases h)
          refine ⟨_, _, retN X0 hx (t := .boolean) Bd.returns (by simp) (hb hby own_d3_59) hr, hrun, hended, hG _ _ ⟨_, _, rfl, ?_, ⟨_, rfl⟩, hW, hsame.mono (by decide) (by decide)⟩⟩
          show own_Q3 Z sz le mo ev he ga h0 n0 _ s₁.heap _
          rw [e0]
          have hl : nar .boolean (0 : Int32) = (own_dec sz le mo ev he ga) := by subst_vars; simp [own_dec, nar, *]
          exact ⟨congrArg (fun w => some (Value.int w)) hl, N0, rfl⟩
theorem own_pn0 : plainName "com/example/libjtree/libjtree/schema/BranchApplicatorDecidesPinLaw" = true := by first | (simp [plainName, overriddenIn]; done) | decide +kernel
theorem own_ef0 (m : MethodId) (asz : Int32) (ae : Int32) (ah : Int32) (aa : Int64) (ab : Int64) (af : Int32) : entryFrame m #[(.int asz), (.int ae), (.int ah), (.long aa), (.long ab), (.int af)] maxLocals = mkF m 0 #[.val (.int asz), .val (.int ae), .val (.int ah), .val (.long aa), .second, .val (.long ab), .second, .val (.int af), .unset, .unset, .unset, .unset, .unset, .unset, .unset, .unset, .unset, .unset, .unset, .unset, .unset, .unset, .unset, .unset, .unset, .unset, .unset] [] := by first | (simp [entryFrame, mkF, argsToLocals, Value.category, maxLocals]; done) | rfl
def own_Q0 (Z : State) (asz : Int32) (ae : Int32) (ah : Int32) (aa : Int64) (ab : Int64) (af : Int32) (h0 : Heap) (n0 : Nat) (v : Option Value) (h : Heap) (L : List Loc) : Prop := v = some (.int 1) ∧ Fr n0 L
set_option maxRecDepth 65536 in
set_option maxHeartbeats 40000000 in
theorem own_rm0 (l : Launch) (Z : State) (a0 : Array Value) (hw : ∀ d ∈ tables_1, d.before a0 Z = true) (ws : List Jvm.Cond) (asz : Int32) (ae : Int32) (ah : Int32) (aa : Int64) (ab : Int64) (af : Int32) (h0 : Heap) (n0 : Nat) (Z0 : n0 ≤ h0.size) :
    MetFree l x (head1 (Jvm.Cond.code x code maxLocals ret :: ws) room_1) (fun a U => a = #[(.int asz), (.int ae), (.int ah), (.long aa), (.long ab), (.int af)] ∧ Z.Warmed39 U.vm ∧ U.heap = h0) (fun _ _ _ _ _ => True) (fun _ U o U' => ∃ v L, o = .returned v ∧ own_Q0 Z asz ae ah aa ab af h0 n0 v U'.heap L ∧ FrameEnd U o U' L 0 0) := by
  refine MetFree.of_bodySF (plainFor_of_name own_pn0) hisR ?_
  intro p e s m args below meth c s₁ Bd hml0 hP hK
  obtain ⟨rfl, hZ, hh⟩ := hP
  have hx := Bd.exec
  have hby := Bd.bytes
  have hml : c.maxLocals = 27 := hml0
  have hown : s.vm.findClass "com/example/libjtree/libjtree/schema/BranchApplicatorDecidesPinLaw" = some m.cls := findClass_of_methodNamed Bd.named
  have hnm := (name_of_methodNamed Bd.named Bd.method).1
  have X0 : Stand p l e room_1 s m #[(.int asz), (.int ae), (.int ah), (.long aa), (.long ab), (.int af)] below meth c s₁ [] 0 0 := Stand.of_body Bd
  have e0 : s₁.heap = h0 := by rw [← hh, Bd.state]; rfl
  have N0 := Fr.nil n0
  refine own_out fun G hG => ?_
  rw [own_ef0 m asz ae ah aa ab af]
  show own_Go p.tables e below G (s₁.setTop (mkF m 0 #[.val (.int asz), .val (.int ae), .val (.int ah), .val (.long aa), .second, .val (.long ab), .second, .val (.int af), .unset, .unset, .unset, .unset, .unset, .unset, .unset, .unset, .unset, .unset, .unset, .unset, .unset, .unset, .unset, .unset, .unset, .unset, .unset] []))
  refine own_of (S' := s₁.setTop (mkF m 1 #[.val (.int asz), .val (.int ae), .val (.int ah), .val (.long aa), .second, .val (.long ab), .second, .val (.int af), .unset, .unset, .unset, .unset, .unset, .unset, .unset, .unset, .unset, .unset, .unset, .unset, .unset, .unset, .unset, .unset, .unset, .unset, .unset] [(.int asz)])) (fun t k => XS.iloadN X0.here hx rfl (hb hby at_0) rfl k) ?_
  refine own_of (S' := s₁.setTop (mkF m 3 #[.val (.int asz), .val (.int ae), .val (.int ah), .val (.long aa), .second, .val (.long ab), .second, .val (.int af), .unset, .unset, .unset, .unset, .unset, .unset, .unset, .unset, .unset, .unset, .unset, .unset, .unset, .unset, .unset, .unset, .unset, .unset, .unset] [(.int (2147483647 : Int32)), (.int asz)])) (X0.ldcInt hx hown (mvT hZ (hw _ (List.mem_of_getElem? (i := 0) rfl))) (g := (mkF m 1 #[.val (.int asz), .val (.int ae), .val (.int ah), .val (.long aa), .second, .val (.long ab), .second, .val (.int af), .unset, .unset, .unset, .unset, .unset, .unset, .unset, .unset, .unset, .unset, .unset, .unset, .unset, .unset, .unset, .unset, .unset, .unset, .unset] [(.int asz)])) rfl (hb hby at_1)) ?_
  refine own_of (S' := s₁.setTop (mkF m 4 #[.val (.int asz), .val (.int ae), .val (.int ah), .val (.long aa), .second, .val (.long ab), .second, .val (.int af), .unset, .unset, .unset, .unset, .unset, .unset, .unset, .unset, .unset, .unset, .unset, .unset, .unset, .unset, .unset, .unset, .unset, .unset, .unset] [(.int (asz &&& (2147483647 : Int32)))])) (fun t k => XS.iand X0.here hx rfl (hb hby at_3) rfl k) ?_
  generalize q4 : (asz &&& (2147483647 : Int32)) = x4
  refine own_of (S' := s₁.setTop (mkF m 6 #[.val (.int asz), .val (.int ae), .val (.int ah), .val (.long aa), .second, .val (.long ab), .second, .val (.int af), .val (.int x4), .unset, .unset, .unset, .unset, .unset, .unset, .unset, .unset, .unset, .unset, .unset, .unset, .unset, .unset, .unset, .unset, .unset, .unset] [])) (fun t k => XS.istore X0.here hx rfl (hb hby at_4) rfl (l' := #[.val (.int asz), .val (.int ae), .val (.int ah), .val (.long aa), .second, .val (.long ab), .second, .val (.int af), .val (.int x4), .unset, .unset, .unset, .unset, .unset, .unset, .unset, .unset, .unset, .unset, .unset, .unset, .unset, .unset, .unset, .unset, .unset, .unset]) rfl k) ?_
  refine own_of (S' := s₁.setTop (mkF m 8 #[.val (.int asz), .val (.int ae), .val (.int ah), .val (.long aa), .second, .val (.long ab), .second, .val (.int af), .val (.int x4), .unset, .unset, .unset, .unset, .unset, .unset, .unset, .unset, .unset, .unset, .unset, .unset, .unset, .unset, .unset, .unset, .unset, .unset] [(.int af)])) (fun t k => XS.iload X0.here hx rfl (hb hby at_6) rfl k) ?_
  refine own_of (S' := s₁.setTop (mkF m 9 #[.val (.int asz), .val (.int ae), .val (.int ah), .val (.long aa), .second, .val (.long ab), .second, .val (.int af), .val (.int x4), .unset, .unset, .unset, .unset, .unset, .unset, .unset, .unset, .unset, .unset, .unset, .unset, .unset, .unset, .unset, .unset, .unset, .unset] [(.int (2 : Int32)), (.int af)])) (fun t k => XS.iconst X0.here hx rfl (hb hby at_8) k) ?_
  refine own_of (S' := s₁.setTop (mkF m 10 #[.val (.int asz), .val (.int ae), .val (.int ah), .val (.long aa), .second, .val (.long ab), .second, .val (.int af), .val (.int x4), .unset, .unset, .unset, .unset, .unset, .unset, .unset, .unset, .unset, .unset, .unset, .unset, .unset, .unset, .unset, .unset, .unset, .unset] [(.int (af &&& (2 : Int32)))])) (fun t k => XS.iand X0.here hx rfl (hb hby at_9) rfl k) ?_
  obtain ⟨j31_s0, qj31_s0⟩ : ∃ z : Int32, z = (if (af &&& (2 : Int32)) = (0 : Int32) then ((((ae.toInt64) &&& (2147483647 : Int64)) % ((x4.toInt64) + (1 : Int64))).toInt32) else x4) := ⟨_, rfl⟩
  suffices k11 : ∀ (T' : State) (locs' : List Loc), Stand p l e room_1 s m #[(.int asz), (.int ae), (.int ah), (.long aa), (.long ab), (.int af)] below meth c T' locs' 0 0 → Fr n0 locs' → T'.heap = h0 → own_Go p.tables e below G (T'.setTop (mkF m 31 #[.val (.int asz), .val (.int ae), .val (.int ah), .val (.long aa), .second, .val (.long ab), .second, .val (.int af), .val (.int x4), .unset, .unset, .unset, .unset, .unset, .unset, .unset, .unset, .unset, .unset, .unset, .unset, .unset, .unset, .unset, .unset, .unset, .unset] [(.int j31_s0)])) by
    by_cases hc10 : (af &&& (2 : Int32)) = (0 : Int32)
    · refine own_of (S' := s₁.setTop (mkF m 18 #[.val (.int asz), .val (.int ae), .val (.int ah), .val (.long aa), .second, .val (.long ab), .second, .val (.int af), .val (.int x4), .unset, .unset, .unset, .unset, .unset, .unset, .unset, .unset, .unset, .unset, .unset, .unset, .unset, .unset, .unset, .unset, .unset, .unset] [])) (fun t k => XS.ifYes X0.here hx rfl (pc0 := 10) (pc' := 18) rfl (hb hby at_10) rfl ((if0 _ _).trans (teq hc10).1) (by decide) (by decide) k) ?_
      refine own_of (S' := s₁.setTop (mkF m 19 #[.val (.int asz), .val (.int ae), .val (.int ah), .val (.long aa), .second, .val (.long ab), .second, .val (.int af), .val (.int x4), .unset, .unset, .unset, .unset, .unset, .unset, .unset, .unset, .unset, .unset, .unset, .unset, .unset, .unset, .unset, .unset, .unset, .unset] [(.int ae)])) (fun t k => XS.iloadN X0.here hx rfl (hb hby at_18) rfl k) ?_
      refine own_of (S' := s₁.setTop (mkF m 20 #[.val (.int asz), .val (.int ae), .val (.int ah), .val (.long aa), .second, .val (.long ab), .second, .val (.int af), .val (.int x4), .unset, .unset, .unset, .unset, .unset, .unset, .unset, .unset, .unset, .unset, .unset, .unset, .unset, .unset, .unset, .unset, .unset, .unset] [(.long (ae.toInt64))])) (fun t k => XS.i2l X0.here hx rfl (hb hby at_19) rfl k) ?_
      refine own_of (S' := s₁.setTop (mkF m 23 #[.val (.int asz), .val (.int ae), .val (.int ah), .val (.long aa), .second, .val (.long ab), .second, .val (.int af), .val (.int x4), .unset, .unset, .unset, .unset, .unset, .unset, .unset, .unset, .unset, .unset, .unset, .unset, .unset, .unset, .unset, .unset, .unset, .unset] [(.long (2147483647 : Int64)), (.long (ae.toInt64))])) (X0.ldc2Long hx hown (mvT hZ (hw _ (List.mem_of_getElem? (i := 1) rfl))) (g := (mkF m 20 #[.val (.int asz), .val (.int ae), .val (.int ah), .val (.long aa), .second, .val (.long ab), .second, .val (.int af), .val (.int x4), .unset, .unset, .unset, .unset, .unset, .unset, .unset, .unset, .unset, .unset, .unset, .unset, .unset, .unset, .unset, .unset, .unset, .unset] [(.long (ae.toInt64))])) rfl (hb hby at_20)) ?_
      refine own_of (S' := s₁.setTop (mkF m 24 #[.val (.int asz), .val (.int ae), .val (.int ah), .val (.long aa), .second, .val (.long ab), .second, .val (.int af), .val (.int x4), .unset, .unset, .unset, .unset, .unset, .unset, .unset, .unset, .unset, .unset, .unset, .unset, .unset, .unset, .unset, .unset, .unset, .unset] [(.long ((ae.toInt64) &&& (2147483647 : Int64)))])) (fun t k => XS.land X0.here hx rfl (hb hby at_23) rfl k) ?_
      refine own_of (S' := s₁.setTop (mkF m 26 #[.val (.int asz), .val (.int ae), .val (.int ah), .val (.long aa), .second, .val (.long ab), .second, .val (.int af), .val (.int x4), .unset, .unset, .unset, .unset, .unset, .unset, .unset, .unset, .unset, .unset, .unset, .unset, .unset, .unset, .unset, .unset, .unset, .unset] [(.int x4), (.long ((ae.toInt64) &&& (2147483647 : Int64)))])) (fun t k => XS.iload X0.here hx rfl (hb hby at_24) rfl k) ?_
      refine own_of (S' := s₁.setTop (mkF m 27 #[.val (.int asz), .val (.int ae), .val (.int ah), .val (.long aa), .second, .val (.long ab), .second, .val (.int af), .val (.int x4), .unset, .unset, .unset, .unset, .unset, .unset, .unset, .unset, .unset, .unset, .unset, .unset, .unset, .unset, .unset, .unset, .unset, .unset] [(.long (x4.toInt64)), (.long ((ae.toInt64) &&& (2147483647 : Int64)))])) (fun t k => XS.i2l X0.here hx rfl (hb hby at_26) rfl k) ?_
      refine own_of (S' := s₁.setTop (mkF m 28 #[.val (.int asz), .val (.int ae), .val (.int ah), .val (.long aa), .second, .val (.long ab), .second, .val (.int af), .val (.int x4), .unset, .unset, .unset, .unset, .unset, .unset, .unset, .unset, .unset, .unset, .unset, .unset, .unset, .unset, .unset, .unset, .unset, .unset] [(.long (1 : Int64)), (.long (x4.toInt64)), (.long ((ae.toInt64) &&& (2147483647 : Int64)))])) (fun t k => XS.lconst X0.here hx rfl (hb hby at_27) k) ?_
      refine own_of (S' := s₁.setTop (mkF m 29 #[.val (.int asz), .val (.int ae), .val (.int ah), .val (.long aa), .second, .val (.long ab), .second, .val (.int af), .val (.int x4), .unset, .unset, .unset, .unset, .unset, .unset, .unset, .unset, .unset, .unset, .unset, .unset, .unset, .unset, .unset, .unset, .unset, .unset] [(.long ((x4.toInt64) + (1 : Int64))), (.long ((ae.toInt64) &&& (2147483647 : Int64)))])) (fun t k => XS.ladd X0.here hx rfl (hb hby at_28) rfl k) ?_
      have hz10 : ((x4.toInt64) + (1 : Int64)) ≠ (0 : Int64) := by exact own_nz (own_msk q4)
      refine own_of (S' := s₁.setTop (mkF m 30 #[.val (.int asz), .val (.int ae), .val (.int ah), .val (.long aa), .second, .val (.long ab), .second, .val (.int af), .val (.int x4), .unset, .unset, .unset, .unset, .unset, .unset, .unset, .unset, .unset, .unset, .unset, .unset, .unset, .unset, .unset, .unset, .unset, .unset] [(.long (((ae.toInt64) &&& (2147483647 : Int64)) % ((x4.toInt64) + (1 : Int64))))])) (fun t k => XS.lrem X0.here hx rfl (hb hby at_29) rfl hz10 (by rw [lrem_mod]; exact k)) ?_
      refine own_of (S' := s₁.setTop (mkF m 31 #[.val (.int asz), .val (.int ae), .val (.int ah), .val (.long aa), .second, .val (.long ab), .second, .val (.int af), .val (.int x4), .unset, .unset, .unset, .unset, .unset, .unset, .unset, .unset, .unset, .unset, .unset, .unset, .unset, .unset, .unset, .unset, .unset, .unset] [(.int ((((ae.toInt64) &&& (2147483647 : Int64)) % ((x4.toInt64) + (1 : Int64))).toInt32))])) (fun t k => XS.l2i X0.here hx rfl (hb hby at_30) rfl k) ?_
      have jw12 : j31_s0 = (((((ae.toInt64) &&& (2147483647 : Int64)) % ((x4.toInt64) + (1 : Int64))).toInt32) : Int32) := qj31_s0.trans (if_pos hc10)
      rw [jw12] at k11
      exact k11 s₁ _ X0 N0 e0
    · refine own_of (S' := s₁.setTop (mkF m 13 #[.val (.int asz), .val (.int ae), .val (.int ah), .val (.long aa), .second, .val (.long ab), .second, .val (.int af), .val (.int x4), .unset, .unset, .unset, .unset, .unset, .unset, .unset, .unset, .unset, .unset, .unset, .unset, .unset, .unset, .unset, .unset, .unset, .unset] [])) (fun t k => XS.ifNo X0.here hx rfl (hb hby at_10) rfl ((if0 _ _).trans (feq hc10).1) k) ?_
      refine own_of (S' := s₁.setTop (mkF m 15 #[.val (.int asz), .val (.int ae), .val (.int ah), .val (.long aa), .second, .val (.long ab), .second, .val (.int af), .val (.int x4), .unset, .unset, .unset, .unset, .unset, .unset, .unset, .unset, .unset, .unset, .unset, .unset, .unset, .unset, .unset, .unset, .unset, .unset] [(.int x4)])) (fun t k => XS.iload X0.here hx rfl (hb hby at_13) rfl k) ?_
      refine own_of (S' := s₁.setTop (mkF m 31 #[.val (.int asz), .val (.int ae), .val (.int ah), .val (.long aa), .second, .val (.long ab), .second, .val (.int af), .val (.int x4), .unset, .unset, .unset, .unset, .unset, .unset, .unset, .unset, .unset, .unset, .unset, .unset, .unset, .unset, .unset, .unset, .unset, .unset] [(.int x4)])) (fun t k => XS.goto X0.here hx rfl (pc0 := 15) (pc' := 31) rfl (hb hby at_15) (by decide) (by decide) k) ?_
      have jw13 : j31_s0 = (x4 : Int32) := qj31_s0.trans (if_neg hc10)
      rw [jw13] at k11
      exact k11 s₁ _ X0 N0 e0
  intro T11 locs11 X11 N11 e11
  refine own_of (S' := T11.setTop (mkF m 33 #[.val (.int asz), .val (.int ae), .val (.int ah), .val (.long aa), .second, .val (.long ab), .second, .val (.int af), .val (.int x4), .val (.int j31_s0), .unset, .unset, .unset, .unset, .unset, .unset, .unset, .unset, .unset, .unset, .unset, .unset, .unset, .unset, .unset, .unset, .unset] [])) (fun t k => XS.istore X11.here hx rfl (hb hby at_31) rfl (l' := #[.val (.int asz), .val (.int ae), .val (.int ah), .val (.long aa), .second, .val (.long ab), .second, .val (.int af), .val (.int x4), .val (.int j31_s0), .unset, .unset, .unset, .unset, .unset, .unset, .unset, .unset, .unset, .unset, .unset, .unset, .unset, .unset, .unset, .unset, .unset]) rfl k) ?_
  refine own_of (S' := T11.setTop (mkF m 34 #[.val (.int asz), .val (.int ae), .val (.int ah), .val (.long aa), .second, .val (.long ab), .second, .val (.int af), .val (.int x4), .val (.int j31_s0), .unset, .unset, .unset, .unset, .unset, .unset, .unset, .unset, .unset, .unset, .unset, .unset, .unset, .unset, .unset, .unset, .unset] [(.int ah)])) (fun t k => XS.iloadN X11.here hx rfl (hb hby at_33) rfl k) ?_
  refine own_of (S' := T11.setTop (mkF m 35 #[.val (.int asz), .val (.int ae), .val (.int ah), .val (.long aa), .second, .val (.long ab), .second, .val (.int af), .val (.int x4), .val (.int j31_s0), .unset, .unset, .unset, .unset, .unset, .unset, .unset, .unset, .unset, .unset, .unset, .unset, .unset, .unset, .unset, .unset, .unset] [(.long (ah.toInt64))])) (fun t k => XS.i2l X11.here hx rfl (hb hby at_34) rfl k) ?_
  refine own_of (S' := T11.setTop (mkF m 38 #[.val (.int asz), .val (.int ae), .val (.int ah), .val (.long aa), .second, .val (.long ab), .second, .val (.int af), .val (.int x4), .val (.int j31_s0), .unset, .unset, .unset, .unset, .unset, .unset, .unset, .unset, .unset, .unset, .unset, .unset, .unset, .unset, .unset, .unset, .unset] [(.long (2147483647 : Int64)), (.long (ah.toInt64))])) (X11.ldc2Long hx hown (mvT hZ (hw _ (List.mem_of_getElem? (i := 1) rfl))) (g := (mkF m 35 #[.val (.int asz), .val (.int ae), .val (.int ah), .val (.long aa), .second, .val (.long ab), .second, .val (.int af), .val (.int x4), .val (.int j31_s0), .unset, .unset, .unset, .unset, .unset, .unset, .unset, .unset, .unset, .unset, .unset, .unset, .unset, .unset, .unset, .unset, .unset] [(.long (ah.toInt64))])) rfl (hb hby at_35)) ?_
  refine own_of (S' := T11.setTop (mkF m 39 #[.val (.int asz), .val (.int ae), .val (.int ah), .val (.long aa), .second, .val (.long ab), .second, .val (.int af), .val (.int x4), .val (.int j31_s0), .unset, .unset, .unset, .unset, .unset, .unset, .unset, .unset, .unset, .unset, .unset, .unset, .unset, .unset, .unset, .unset, .unset] [(.long ((ah.toInt64) &&& (2147483647 : Int64)))])) (fun t k => XS.land X11.here hx rfl (hb hby at_38) rfl k) ?_
  refine own_of (S' := T11.setTop (mkF m 41 #[.val (.int asz), .val (.int ae), .val (.int ah), .val (.long aa), .second, .val (.long ab), .second, .val (.int af), .val (.int x4), .val (.int j31_s0), .unset, .unset, .unset, .unset, .unset, .unset, .unset, .unset, .unset, .unset, .unset, .unset, .unset, .unset, .unset, .unset, .unset] [(.int j31_s0), (.long ((ah.toInt64) &&& (2147483647 : Int64)))])) (fun t k => XS.iload X11.here hx rfl (hb hby at_39) rfl k) ?_
  refine own_of (S' := T11.setTop (mkF m 42 #[.val (.int asz), .val (.int ae), .val (.int ah), .val (.long aa), .second, .val (.long ab), .second, .val (.int af), .val (.int x4), .val (.int j31_s0), .unset, .unset, .unset, .unset, .unset, .unset, .unset, .unset, .unset, .unset, .unset, .unset, .unset, .unset, .unset, .unset, .unset] [(.long (j31_s0.toInt64)), (.long ((ah.toInt64) &&& (2147483647 : Int64)))])) (fun t k => XS.i2l X11.here hx rfl (hb hby at_41) rfl k) ?_
  refine own_of (S' := T11.setTop (mkF m 43 #[.val (.int asz), .val (.int ae), .val (.int ah), .val (.long aa), .second, .val (.long ab), .second, .val (.int af), .val (.int x4), .val (.int j31_s0), .unset, .unset, .unset, .unset, .unset, .unset, .unset, .unset, .unset, .unset, .unset, .unset, .unset, .unset, .unset, .unset, .unset] [(.long (1 : Int64)), (.long (j31_s0.toInt64)), (.long ((ah.toInt64) &&& (2147483647 : Int64)))])) (fun t k => XS.lconst X11.here hx rfl (hb hby at_42) k) ?_
  refine own_of (S' := T11.setTop (mkF m 44 #[.val (.int asz), .val (.int ae), .val (.int ah), .val (.long aa), .second, .val (.long ab), .second, .val (.int af), .val (.int x4), .val (.int j31_s0), .unset, .unset, .unset, .unset, .unset, .unset, .unset, .unset, .unset, .unset, .unset, .unset, .unset, .unset, .unset, .unset, .unset] [(.long ((j31_s0.toInt64) + (1 : Int64))), (.long ((ah.toInt64) &&& (2147483647 : Int64)))])) (fun t k => XS.ladd X11.here hx rfl (hb hby at_43) rfl k) ?_
  have hz14 : ((j31_s0.toInt64) + (1 : Int64)) ≠ (0 : Int64) := by exact own_nz (own_evb (own_msk q4) qj31_s0).1
  refine own_of (S' := T11.setTop (mkF m 45 #[.val (.int asz), .val (.int ae), .val (.int ah), .val (.long aa), .second, .val (.long ab), .second, .val (.int af), .val (.int x4), .val (.int j31_s0), .unset, .unset, .unset, .unset, .unset, .unset, .unset, .unset, .unset, .unset, .unset, .unset, .unset, .unset, .unset, .unset, .unset] [(.long (((ah.toInt64) &&& (2147483647 : Int64)) % ((j31_s0.toInt64) + (1 : Int64))))])) (fun t k => XS.lrem X11.here hx rfl (hb hby at_44) rfl hz14 (by rw [lrem_mod]; exact k)) ?_
  refine own_of (S' := T11.setTop (mkF m 46 #[.val (.int asz), .val (.int ae), .val (.int ah), .val (.long aa), .second, .val (.long ab), .second, .val (.int af), .val (.int x4), .val (.int j31_s0), .unset, .unset, .unset, .unset, .unset, .unset, .unset, .unset, .unset, .unset, .unset, .unset, .unset, .unset, .unset, .unset, .unset] [(.int ((((ah.toInt64) &&& (2147483647 : Int64)) % ((j31_s0.toInt64) + (1 : Int64))).toInt32))])) (fun t k => XS.l2i X11.here hx rfl (hb hby at_45) rfl k) ?_
  generalize q46 : ((((ah.toInt64) &&& (2147483647 : Int64)) % ((j31_s0.toInt64) + (1 : Int64))).toInt32) = x46
  refine own_of (S' := T11.setTop (mkF m 48 #[.val (.int asz), .val (.int ae), .val (.int ah), .val (.long aa), .second, .val (.long ab), .second, .val (.int af), .val (.int x4), .val (.int j31_s0), .val (.int x46), .unset, .unset, .unset, .unset, .unset, .unset, .unset, .unset, .unset, .unset, .unset, .unset, .unset, .unset, .unset, .unset] [])) (fun t k => XS.istore X11.here hx rfl (hb hby at_46) rfl (l' := #[.val (.int asz), .val (.int ae), .val (.int ah), .val (.long aa), .second, .val (.long ab), .second, .val (.int af), .val (.int x4), .val (.int j31_s0), .val (.int x46), .unset, .unset, .unset, .unset, .unset, .unset, .unset, .unset, .unset, .unset, .unset, .unset, .unset, .unset, .unset, .unset]) rfl k) ?_
  refine own_of (S' := T11.setTop (mkF m 50 #[.val (.int asz), .val (.int ae), .val (.int ah), .val (.long aa), .second, .val (.long ab), .second, .val (.int af), .val (.int x4), .val (.int j31_s0), .val (.int x46), .unset, .unset, .unset, .unset, .unset, .unset, .unset, .unset, .unset, .unset, .unset, .unset, .unset, .unset, .unset, .unset] [(.int af)])) (fun t k => XS.iload X11.here hx rfl (hb hby at_48) rfl k) ?_
  refine own_of (S' := T11.setTop (mkF m 51 #[.val (.int asz), .val (.int ae), .val (.int ah), .val (.long aa), .second, .val (.long ab), .second, .val (.int af), .val (.int x4), .val (.int j31_s0), .val (.int x46), .unset, .unset, .unset, .unset, .unset, .unset, .unset, .unset, .unset, .unset, .unset, .unset, .unset, .unset, .unset, .unset] [(.int (1 : Int32)), (.int af)])) (fun t k => XS.iconst X11.here hx rfl (hb hby at_50) k) ?_
  refine own_of (S' := T11.setTop (mkF m 52 #[.val (.int asz), .val (.int ae), .val (.int ah), .val (.long aa), .second, .val (.long ab), .second, .val (.int af), .val (.int x4), .val (.int j31_s0), .val (.int x46), .unset, .unset, .unset, .unset, .unset, .unset, .unset, .unset, .unset, .unset, .unset, .unset, .unset, .unset, .unset, .unset] [(.int (af &&& (1 : Int32)))])) (fun t k => XS.iand X11.here hx rfl (hb hby at_51) rfl k) ?_
  obtain ⟨j60_s0, qj60_s0⟩ : ∃ z : Int32, z = (if (af &&& (1 : Int32)) = (0 : Int32) then (0 : Int32) else (1 : Int32)) := ⟨_, rfl⟩
  suffices k16 : ∀ (T' : State) (locs' : List Loc), Stand p l e room_1 s m #[(.int asz), (.int ae), (.int ah), (.long aa), (.long ab), (.int af)] below meth c T' locs' 0 0 → Fr n0 locs' → T'.heap = h0 → own_Go p.tables e below G (T'.setTop (mkF m 60 #[.val (.int asz), .val (.int ae), .val (.int ah), .val (.long aa), .second, .val (.long ab), .second, .val (.int af), .val (.int x4), .val (.int j31_s0), .val (.int x46), .unset, .unset, .unset, .unset, .unset, .unset, .unset, .unset, .unset, .unset, .unset, .unset, .unset, .unset, .unset, .unset] [(.int j60_s0)])) by
    by_cases hc52 : (af &&& (1 : Int32)) = (0 : Int32)
    · refine own_of (S' := T11.setTop (mkF m 59 #[.val (.int asz), .val (.int ae), .val (.int ah), .val (.long aa), .second, .val (.long ab), .second, .val (.int af), .val (.int x4), .val (.int j31_s0), .val (.int x46), .unset, .unset, .unset, .unset, .unset, .unset, .unset, .unset, .unset, .unset, .unset, .unset, .unset, .unset, .unset, .unset] [])) (fun t k => XS.ifYes X11.here hx rfl (pc0 := 52) (pc' := 59) rfl (hb hby at_52) rfl ((if0 _ _).trans (teq hc52).1) (by decide) (by decide) k) ?_
      refine own_of (S' := T11.setTop (mkF m 60 #[.val (.int asz), .val (.int ae), .val (.int ah), .val (.long aa), .second, .val (.long ab), .second, .val (.int af), .val (.int x4), .val (.int j31_s0), .val (.int x46), .unset, .unset, .unset, .unset, .unset, .unset, .unset, .unset, .unset, .unset, .unset, .unset, .unset, .unset, .unset, .unset] [(.int (0 : Int32))])) (fun t k => XS.iconst X11.here hx rfl (hb hby at_59) k) ?_
      have jw17 : j60_s0 = ((0 : Int32) : Int32) := qj60_s0.trans (if_pos hc52)
      rw [jw17] at k16
      exact k16 T11 _ X11 N11 e11
    · refine own_of (S' := T11.setTop (mkF m 55 #[.val (.int asz), .val (.int ae), .val (.int ah), .val (.long aa), .second, .val (.long ab), .second, .val (.int af), .val (.int x4), .val (.int j31_s0), .val (.int x46), .unset, .unset, .unset, .unset, .unset, .unset, .unset, .unset, .unset, .unset, .unset, .unset, .unset, .unset, .unset, .unset] [])) (fun t k => XS.ifNo X11.here hx rfl (hb hby at_52) rfl ((if0 _ _).trans (feq hc52).1) k) ?_
      refine own_of (S' := T11.setTop (mkF m 56 #[.val (.int asz), .val (.int ae), .val (.int ah), .val (.long aa), .second, .val (.long ab), .second, .val (.int af), .val (.int x4), .val (.int j31_s0), .val (.int x46), .unset, .unset, .unset, .unset, .unset, .unset, .unset, .unset, .unset, .unset, .unset, .unset, .unset, .unset, .unset, .unset] [(.int (1 : Int32))])) (fun t k => XS.iconst X11.here hx rfl (hb hby at_55) k) ?_
      refine own_of (S' := T11.setTop (mkF m 60 #[.val (.int asz), .val (.int ae), .val (.int ah), .val (.long aa), .second, .val (.long ab), .second, .val (.int af), .val (.int x4), .val (.int j31_s0), .val (.int x46), .unset, .unset, .unset, .unset, .unset, .unset, .unset, .unset, .unset, .unset, .unset, .unset, .unset, .unset, .unset, .unset] [(.int (1 : Int32))])) (fun t k => XS.goto X11.here hx rfl (pc0 := 56) (pc' := 60) rfl (hb hby at_56) (by decide) (by decide) k) ?_
      have jw18 : j60_s0 = ((1 : Int32) : Int32) := qj60_s0.trans (if_neg hc52)
      rw [jw18] at k16
      exact k16 T11 _ X11 N11 e11
  intro T16 locs16 X16 N16 e16
  refine own_of (S' := T16.setTop (mkF m 62 #[.val (.int asz), .val (.int ae), .val (.int ah), .val (.long aa), .second, .val (.long ab), .second, .val (.int af), .val (.int x4), .val (.int j31_s0), .val (.int x46), .val (.int j60_s0), .unset, .unset, .unset, .unset, .unset, .unset, .unset, .unset, .unset, .unset, .unset, .unset, .unset, .unset, .unset] [])) (fun t k => XS.istore X16.here hx rfl (hb hby at_60) rfl (l' := #[.val (.int asz), .val (.int ae), .val (.int ah), .val (.long aa), .second, .val (.long ab), .second, .val (.int af), .val (.int x4), .val (.int j31_s0), .val (.int x46), .val (.int j60_s0), .unset, .unset, .unset, .unset, .unset, .unset, .unset, .unset, .unset, .unset, .unset, .unset, .unset, .unset, .unset]) rfl k) ?_
  refine own_of (S' := T16.setTop (mkF m 64 #[.val (.int asz), .val (.int ae), .val (.int ah), .val (.long aa), .second, .val (.long ab), .second, .val (.int af), .val (.int x4), .val (.int j31_s0), .val (.int x46), .val (.int j60_s0), .unset, .unset, .unset, .unset, .unset, .unset, .unset, .unset, .unset, .unset, .unset, .unset, .unset, .unset, .unset] [(.int x46)])) (fun t k => XS.iload X16.here hx rfl (hb hby at_62) rfl k) ?_
  refine own_of (S' := T16.setTop (mkF m 65 #[.val (.int asz), .val (.int ae), .val (.int ah), .val (.long aa), .second, .val (.long ab), .second, .val (.int af), .val (.int x4), .val (.int j31_s0), .val (.int x46), .val (.int j60_s0), .unset, .unset, .unset, .unset, .unset, .unset, .unset, .unset, .unset, .unset, .unset, .unset, .unset, .unset, .unset] [(.long (x46.toInt64))])) (fun t k => XS.i2l X16.here hx rfl (hb hby at_64) rfl k) ?_
  generalize q65 : (x46.toInt64) = x65
  refine own_of (S' := T16.setTop (mkF m 67 #[.val (.int asz), .val (.int ae), .val (.int ah), .val (.long aa), .second, .val (.long ab), .second, .val (.int af), .val (.int x4), .val (.int j31_s0), .val (.int x46), .val (.int j60_s0), .val (.long x65), .second, .unset, .unset, .unset, .unset, .unset, .unset, .unset, .unset, .unset, .unset, .unset, .unset, .unset] [])) (fun t k => XS.lstore X16.here hx rfl (hb hby at_65) rfl (l' := #[.val (.int asz), .val (.int ae), .val (.int ah), .val (.long aa), .second, .val (.long ab), .second, .val (.int af), .val (.int x4), .val (.int j31_s0), .val (.int x46), .val (.int j60_s0), .val (.long x65), .second, .unset, .unset, .unset, .unset, .unset, .unset, .unset, .unset, .unset, .unset, .unset, .unset, .unset]) rfl k) ?_
  refine own_of (S' := T16.setTop (mkF m 69 #[.val (.int asz), .val (.int ae), .val (.int ah), .val (.long aa), .second, .val (.long ab), .second, .val (.int af), .val (.int x4), .val (.int j31_s0), .val (.int x46), .val (.int j60_s0), .val (.long x65), .second, .unset, .unset, .unset, .unset, .unset, .unset, .unset, .unset, .unset, .unset, .unset, .unset, .unset] [(.int x46)])) (fun t k => XS.iload X16.here hx rfl (hb hby at_67) rfl k) ?_
  refine own_of (S' := T16.setTop (mkF m 70 #[.val (.int asz), .val (.int ae), .val (.int ah), .val (.long aa), .second, .val (.long ab), .second, .val (.int af), .val (.int x4), .val (.int j31_s0), .val (.int x46), .val (.int j60_s0), .val (.long x65), .second, .unset, .unset, .unset, .unset, .unset, .unset, .unset, .unset, .unset, .unset, .unset, .unset, .unset] [(.long (x46.toInt64))])) (fun t k => XS.i2l X16.here hx rfl (hb hby at_69) rfl k) ?_
  refine own_of (S' := T16.setTop (mkF m 72 #[.val (.int asz), .val (.int ae), .val (.int ah), .val (.long aa), .second, .val (.long ab), .second, .val (.int af), .val (.int x4), .val (.int j31_s0), .val (.int x46), .val (.int j60_s0), .val (.long x65), .second, .unset, .unset, .unset, .unset, .unset, .unset, .unset, .unset, .unset, .unset, .unset, .unset, .unset] [(.int x4), (.long (x46.toInt64))])) (fun t k => XS.iload X16.here hx rfl (hb hby at_70) rfl k) ?_
  refine own_of (S' := T16.setTop (mkF m 74 #[.val (.int asz), .val (.int ae), .val (.int ah), .val (.long aa), .second, .val (.long ab), .second, .val (.int af), .val (.int x4), .val (.int j31_s0), .val (.int x46), .val (.int j60_s0), .val (.long x65), .second, .unset, .unset, .unset, .unset, .unset, .unset, .unset, .unset, .unset, .unset, .unset, .unset, .unset] [(.int j31_s0), (.int x4), (.long (x46.toInt64))])) (fun t k => XS.iload X16.here hx rfl (hb hby at_72) rfl k) ?_
  refine own_of (S' := T16.setTop (mkF m 75 #[.val (.int asz), .val (.int ae), .val (.int ah), .val (.long aa), .second, .val (.long ab), .second, .val (.int af), .val (.int x4), .val (.int j31_s0), .val (.int x46), .val (.int j60_s0), .val (.long x65), .second, .unset, .unset, .unset, .unset, .unset, .unset, .unset, .unset, .unset, .unset, .unset, .unset, .unset] [(.int (x4 - j31_s0)), (.long (x46.toInt64))])) (fun t k => XS.isub X16.here hx rfl (hb hby at_74) rfl k) ?_
  refine own_of (S' := T16.setTop (mkF m 76 #[.val (.int asz), .val (.int ae), .val (.int ah), .val (.long aa), .second, .val (.long ab), .second, .val (.int af), .val (.int x4), .val (.int j31_s0), .val (.int x46), .val (.int j60_s0), .val (.long x65), .second, .unset, .unset, .unset, .unset, .unset, .unset, .unset, .unset, .unset, .unset, .unset, .unset, .unset] [(.long ((x4 - j31_s0).toInt64)), (.long (x46.toInt64))])) (fun t k => XS.i2l X16.here hx rfl (hb hby at_75) rfl k) ?_
  refine own_of (S' := T16.setTop (mkF m 77 #[.val (.int asz), .val (.int ae), .val (.int ah), .val (.long aa), .second, .val (.long ab), .second, .val (.int af), .val (.int x4), .val (.int j31_s0), .val (.int x46), .val (.int j60_s0), .val (.long x65), .second, .unset, .unset, .unset, .unset, .unset, .unset, .unset, .unset, .unset, .unset, .unset, .unset, .unset] [(.long ((x46.toInt64) + ((x4 - j31_s0).toInt64)))])) (fun t k => XS.ladd X16.here hx rfl (hb hby at_76) rfl k) ?_
  generalize q77 : ((x46.toInt64) + ((x4 - j31_s0).toInt64)) = x77
  refine own_of (S' := T16.setTop (mkF m 79 #[.val (.int asz), .val (.int ae), .val (.int ah), .val (.long aa), .second, .val (.long ab), .second, .val (.int af), .val (.int x4), .val (.int j31_s0), .val (.int x46), .val (.int j60_s0), .val (.long x65), .second, .val (.long x77), .second, .unset, .unset, .unset, .unset, .unset, .unset, .unset, .unset, .unset, .unset, .unset] [])) (fun t k => XS.lstore X16.here hx rfl (hb hby at_77) rfl (l' := #[.val (.int asz), .val (.int ae), .val (.int ah), .val (.long aa), .second, .val (.long ab), .second, .val (.int af), .val (.int x4), .val (.int j31_s0), .val (.int x46), .val (.int j60_s0), .val (.long x65), .second, .val (.long x77), .second, .unset, .unset, .unset, .unset, .unset, .unset, .unset, .unset, .unset, .unset, .unset]) rfl k) ?_
  refine own_of (S' := T16.setTop (mkF m 80 #[.val (.int asz), .val (.int ae), .val (.int ah), .val (.long aa), .second, .val (.long ab), .second, .val (.int af), .val (.int x4), .val (.int j31_s0), .val (.int x46), .val (.int j60_s0), .val (.long x65), .second, .val (.long x77), .second, .unset, .unset, .unset, .unset, .unset, .unset, .unset, .unset, .unset, .unset, .unset] [(.long aa)])) (fun t k => XS.lloadN X16.here hx rfl (hb hby at_79) rfl k) ?_
  refine own_of (S' := T16.setTop (mkF m 82 #[.val (.int asz), .val (.int ae), .val (.int ah), .val (.long aa), .second, .val (.long ab), .second, .val (.int af), .val (.int x4), .val (.int j31_s0), .val (.int x46), .val (.int j60_s0), .val (.long x65), .second, .val (.long x77), .second, .val (.long aa), .second, .unset, .unset, .unset, .unset, .unset, .unset, .unset, .unset, .unset] [])) (fun t k => XS.lstore X16.here hx rfl (hb hby at_80) rfl (l' := #[.val (.int asz), .val (.int ae), .val (.int ah), .val (.long aa), .second, .val (.long ab), .second, .val (.int af), .val (.int x4), .val (.int j31_s0), .val (.int x46), .val (.int j60_s0), .val (.long x65), .second, .val (.long x77), .second, .val (.long aa), .second, .unset, .unset, .unset, .unset, .unset, .unset, .unset, .unset, .unset]) rfl k) ?_
  refine own_of (S' := T16.setTop (mkF m 84 #[.val (.int asz), .val (.int ae), .val (.int ah), .val (.long aa), .second, .val (.long ab), .second, .val (.int af), .val (.int x4), .val (.int j31_s0), .val (.int x46), .val (.int j60_s0), .val (.long x65), .second, .val (.long x77), .second, .val (.long aa), .second, .unset, .unset, .unset, .unset, .unset, .unset, .unset, .unset, .unset] [(.long ab)])) (fun t k => XS.lload X16.here hx rfl (hb hby at_82) rfl k) ?_
  refine own_of (S' := T16.setTop (mkF m 86 #[.val (.int asz), .val (.int ae), .val (.int ah), .val (.long aa), .second, .val (.long ab), .second, .val (.int af), .val (.int x4), .val (.int j31_s0), .val (.int x46), .val (.int j60_s0), .val (.long x65), .second, .val (.long x77), .second, .val (.long aa), .second, .val (.long ab), .second, .unset, .unset, .unset, .unset, .unset, .unset, .unset] [])) (fun t k => XS.lstore X16.here hx rfl (hb hby at_84) rfl (l' := #[.val (.int asz), .val (.int ae), .val (.int ah), .val (.long aa), .second, .val (.long ab), .second, .val (.int af), .val (.int x4), .val (.int j31_s0), .val (.int x46), .val (.int j60_s0), .val (.long x65), .second, .val (.long x77), .second, .val (.long aa), .second, .val (.long ab), .second, .unset, .unset, .unset, .unset, .unset, .unset, .unset]) rfl k) ?_
  refine own_of (S' := T16.setTop (mkF m 88 #[.val (.int asz), .val (.int ae), .val (.int ah), .val (.long aa), .second, .val (.long ab), .second, .val (.int af), .val (.int x4), .val (.int j31_s0), .val (.int x46), .val (.int j60_s0), .val (.long x65), .second, .val (.long x77), .second, .val (.long aa), .second, .val (.long ab), .second, .unset, .unset, .unset, .unset, .unset, .unset, .unset] [(.int af)])) (fun t k => XS.iload X16.here hx rfl (hb hby at_86) rfl k) ?_
  refine own_of (S' := T16.setTop (mkF m 89 #[.val (.int asz), .val (.int ae), .val (.int ah), .val (.long aa), .second, .val (.long ab), .second, .val (.int af), .val (.int x4), .val (.int j31_s0), .val (.int x46), .val (.int j60_s0), .val (.long x65), .second, .val (.long x77), .second, .val (.long aa), .second, .val (.long ab), .second, .unset, .unset, .unset, .unset, .unset, .unset, .unset] [(.int (4 : Int32)), (.int af)])) (fun t k => XS.iconst X16.here hx rfl (hb hby at_88) k) ?_
  refine own_of (S' := T16.setTop (mkF m 90 #[.val (.int asz), .val (.int ae), .val (.int ah), .val (.long aa), .second, .val (.long ab), .second, .val (.int af), .val (.int x4), .val (.int j31_s0), .val (.int x46), .val (.int j60_s0), .val (.long x65), .second, .val (.long x77), .second, .val (.long aa), .second, .val (.long ab), .second, .unset, .unset, .unset, .unset, .unset, .unset, .unset] [(.int (af &&& (4 : Int32)))])) (fun t k => XS.iand X16.here hx rfl (hb hby at_89) rfl k) ?_
  obtain ⟨j114_l16, qj114_l16⟩ : ∃ z : Int64, z = (if (af &&& (4 : Int32)) = (0 : Int32) then aa else (x65 + (aa % (4 : Int64)))) := ⟨_, rfl⟩
  obtain ⟨j114_l18, qj114_l18⟩ : ∃ z : Int64, z = (if (af &&& (4 : Int32)) = (0 : Int32) then ab else (x77 + (ab % (4 : Int64)))) := ⟨_, rfl⟩
  suffices k22 : ∀ (T' : State) (locs' : List Loc), Stand p l e room_1 s m #[(.int asz), (.int ae), (.int ah), (.long aa), (.long ab), (.int af)] below meth c T' locs' 0 0 → Fr n0 locs' → T'.heap = h0 → own_Go p.tables e below G (T'.setTop (mkF m 114 #[.val (.int asz), .val (.int ae), .val (.int ah), .val (.long aa), .second, .val (.long ab), .second, .val (.int af), .val (.int x4), .val (.int j31_s0), .val (.int x46), .val (.int j60_s0), .val (.long x65), .second, .val (.long x77), .second, .val (.long j114_l16), .second, .val (.long j114_l18), .second, .unset, .unset, .unset, .unset, .unset, .unset, .unset] [])) by
    by_cases hc90 : (af &&& (4 : Int32)) = (0 : Int32)
    · refine own_of (S' := T16.setTop (mkF m 114 #[.val (.int asz), .val (.int ae), .val (.int ah), .val (.long aa), .second, .val (.long ab), .second, .val (.int af), .val (.int x4), .val (.int j31_s0), .val (.int x46), .val (.int j60_s0), .val (.long x65), .second, .val (.long x77), .second, .val (.long aa), .second, .val (.long ab), .second, .unset, .unset, .unset, .unset, .unset, .unset, .unset] [])) (fun t k => XS.ifYes X16.here hx rfl (pc0 := 90) (pc' := 114) rfl (hb hby at_90) rfl ((if0 _ _).trans (teq hc90).1) (by decide) (by decide) k) ?_
      have jw23 : j114_l16 = (aa : Int64) := qj114_l16.trans (if_pos hc90)
      have jw24 : j114_l18 = (ab : Int64) := qj114_l18.trans (if_pos hc90)
      rw [jw23, jw24] at k22
      exact k22 T16 _ X16 N16 e16
    · refine own_of (S' := T16.setTop (mkF m 93 #[.val (.int asz), .val (.int ae), .val (.int ah), .val (.long aa), .second, .val (.long ab), .second, .val (.int af), .val (.int x4), .val (.int j31_s0), .val (.int x46), .val (.int j60_s0), .val (.long x65), .second, .val (.long x77), .second, .val (.long aa), .second, .val (.long ab), .second, .unset, .unset, .unset, .unset, .unset, .unset, .unset] [])) (fun t k => XS.ifNo X16.here hx rfl (hb hby at_90) rfl ((if0 _ _).trans (feq hc90).1) k) ?_
      refine own_of (S' := T16.setTop (mkF m 95 #[.val (.int asz), .val (.int ae), .val (.int ah), .val (.long aa), .second, .val (.long ab), .second, .val (.int af), .val (.int x4), .val (.int j31_s0), .val (.int x46), .val (.int j60_s0), .val (.long x65), .second, .val (.long x77), .second, .val (.long aa), .second, .val (.long ab), .second, .unset, .unset, .unset, .unset, .unset, .unset, .unset] [(.long x65)])) (fun t k => XS.lload X16.here hx rfl (hb hby at_93) rfl k) ?_
      refine own_of (S' := T16.setTop (mkF m 96 #[.val (.int asz), .val (.int ae), .val (.int ah), .val (.long aa), .second, .val (.long ab), .second, .val (.int af), .val (.int x4), .val (.int j31_s0), .val (.int x46), .val (.int j60_s0), .val (.long x65), .second, .val (.long x77), .second, .val (.long aa), .second, .val (.long ab), .second, .unset, .unset, .unset, .unset, .unset, .unset, .unset] [(.long aa), (.long x65)])) (fun t k => XS.lloadN X16.here hx rfl (hb hby at_95) rfl k) ?_
      refine own_of (S' := T16.setTop (mkF m 99 #[.val (.int asz), .val (.int ae), .val (.int ah), .val (.long aa), .second, .val (.long ab), .second, .val (.int af), .val (.int x4), .val (.int j31_s0), .val (.int x46), .val (.int j60_s0), .val (.long x65), .second, .val (.long x77), .second, .val (.long aa), .second, .val (.long ab), .second, .unset, .unset, .unset, .unset, .unset, .unset, .unset] [(.long (4 : Int64)), (.long aa), (.long x65)])) (X16.ldc2Long hx hown (mvT hZ (hw _ (List.mem_of_getElem? (i := 13) rfl))) (g := (mkF m 96 #[.val (.int asz), .val (.int ae), .val (.int ah), .val (.long aa), .second, .val (.long ab), .second, .val (.int af), .val (.int x4), .val (.int j31_s0), .val (.int x46), .val (.int j60_s0), .val (.long x65), .second, .val (.long x77), .second, .val (.long aa), .second, .val (.long ab), .second, .unset, .unset, .unset, .unset, .unset, .unset, .unset] [(.long aa), (.long x65)])) rfl (hb hby at_96)) ?_
      have hz20 : (4 : Int64) ≠ (0 : Int64) := by decide
      refine own_of (S' := T16.setTop (mkF m 100 #[.val (.int asz), .val (.int ae), .val (.int ah), .val (.long aa), .second, .val (.long ab), .second, .val (.int af), .val (.int x4), .val (.int j31_s0), .val (.int x46), .val (.int j60_s0), .val (.long x65), .second, .val (.long x77), .second, .val (.long aa), .second, .val (.long ab), .second, .unset, .unset, .unset, .unset, .unset, .unset, .unset] [(.long (aa % (4 : Int64))), (.long x65)])) (fun t k => XS.lrem X16.here hx rfl (hb hby at_99) rfl hz20 (by rw [lrem_mod]; exact k)) ?_
      refine own_of (S' := T16.setTop (mkF m 101 #[.val (.int asz), .val (.int ae), .val (.int ah), .val (.long aa), .second, .val (.long ab), .second, .val (.int af), .val (.int x4), .val (.int j31_s0), .val (.int x46), .val (.int j60_s0), .val (.long x65), .second, .val (.long x77), .second, .val (.long aa), .second, .val (.long ab), .second, .unset, .unset, .unset, .unset, .unset, .unset, .unset] [(.long (x65 + (aa % (4 : Int64))))])) (fun t k => XS.ladd X16.here hx rfl (hb hby at_100) rfl k) ?_
      refine own_of (S' := T16.setTop (mkF m 103 #[.val (.int asz), .val (.int ae), .val (.int ah), .val (.long aa), .second, .val (.long ab), .second, .val (.int af), .val (.int x4), .val (.int j31_s0), .val (.int x46), .val (.int j60_s0), .val (.long x65), .second, .val (.long x77), .second, .val (.long (x65 + (aa % (4 : Int64)))), .second, .val (.long ab), .second, .unset, .unset, .unset, .unset, .unset, .unset, .unset] [])) (fun t k => XS.lstore X16.here hx rfl (hb hby at_101) rfl (l' := #[.val (.int asz), .val (.int ae), .val (.int ah), .val (.long aa), .second, .val (.long ab), .second, .val (.int af), .val (.int x4), .val (.int j31_s0), .val (.int x46), .val (.int j60_s0), .val (.long x65), .second, .val (.long x77), .second, .val (.long (x65 + (aa % (4 : Int64)))), .second, .val (.long ab), .second, .unset, .unset, .unset, .unset, .unset, .unset, .unset]) rfl k) ?_
      refine own_of (S' := T16.setTop (mkF m 105 #[.val (.int asz), .val (.int ae), .val (.int ah), .val (.long aa), .second, .val (.long ab), .second, .val (.int af), .val (.int x4), .val (.int j31_s0), .val (.int x46), .val (.int j60_s0), .val (.long x65), .second, .val (.long x77), .second, .val (.long (x65 + (aa % (4 : Int64)))), .second, .val (.long ab), .second, .unset, .unset, .unset, .unset, .unset, .unset, .unset] [(.long x77)])) (fun t k => XS.lload X16.here hx rfl (hb hby at_103) rfl k) ?_
      refine own_of (S' := T16.setTop (mkF m 107 #[.val (.int asz), .val (.int ae), .val (.int ah), .val (.long aa), .second, .val (.long ab), .second, .val (.int af), .val (.int x4), .val (.int j31_s0), .val (.int x46), .val (.int j60_s0), .val (.long x65), .second, .val (.long x77), .second, .val (.long (x65 + (aa % (4 : Int64)))), .second, .val (.long ab), .second, .unset, .unset, .unset, .unset, .unset, .unset, .unset] [(.long ab), (.long x77)])) (fun t k => XS.lload X16.here hx rfl (hb hby at_105) rfl k) ?_
      refine own_of (S' := T16.setTop (mkF m 110 #[.val (.int asz), .val (.int ae), .val (.int ah), .val (.long aa), .second, .val (.long ab), .second, .val (.int af), .val (.int x4), .val (.int j31_s0), .val (.int x46), .val (.int j60_s0), .val (.long x65), .second, .val (.long x77), .second, .val (.long (x65 + (aa % (4 : Int64)))), .second, .val (.long ab), .second, .unset, .unset, .unset, .unset, .unset, .unset, .unset] [(.long (4 : Int64)), (.long ab), (.long x77)])) (X16.ldc2Long hx hown (mvT hZ (hw _ (List.mem_of_getElem? (i := 13) rfl))) (g := (mkF m 107 #[.val (.int asz), .val (.int ae), .val (.int ah), .val (.long aa), .second, .val (.long ab), .second, .val (.int af), .val (.int x4), .val (.int j31_s0), .val (.int x46), .val (.int j60_s0), .val (.long x65), .second, .val (.long x77), .second, .val (.long (x65 + (aa % (4 : Int64)))), .second, .val (.long ab), .second, .unset, .unset, .unset, .unset, .unset, .unset, .unset] [(.long ab), (.long x77)])) rfl (hb hby at_107)) ?_
      have hz21 : (4 : Int64) ≠ (0 : Int64) := by decide
      refine own_of (S' := T16.setTop (mkF m 111 #[.val (.int asz), .val (.int ae), .val (.int ah), .val (.long aa), .second, .val (.long ab), .second, .val (.int af), .val (.int x4), .val (.int j31_s0), .val (.int x46), .val (.int j60_s0), .val (.long x65), .second, .val (.long x77), .second, .val (.long (x65 + (aa % (4 : Int64)))), .second, .val (.long ab), .second, .unset, .unset, .unset, .unset, .unset, .unset, .unset] [(.long (ab % (4 : Int64))), (.long x77)])) (fun t k => XS.lrem X16.here hx rfl (hb hby at_110) rfl hz21 (by rw [lrem_mod]; exact k)) ?_
      refine own_of (S' := T16.setTop (mkF m 112 #[.val (.int asz), .val (.int ae), .val (.int ah), .val (.long aa), .second, .val (.long ab), .second, .val (.int af), .val (.int x4), .val (.int j31_s0), .val (.int x46), .val (.int j60_s0), .val (.long x65), .second, .val (.long x77), .second, .val (.long (x65 + (aa % (4 : Int64)))), .second, .val (.long ab), .second, .unset, .unset, .unset, .unset, .unset, .unset, .unset] [(.long (x77 + (ab % (4 : Int64))))])) (fun t k => XS.ladd X16.here hx rfl (hb hby at_111) rfl k) ?_
      refine own_of (S' := T16.setTop (mkF m 114 #[.val (.int asz), .val (.int ae), .val (.int ah), .val (.long aa), .second, .val (.long ab), .second, .val (.int af), .val (.int x4), .val (.int j31_s0), .val (.int x46), .val (.int j60_s0), .val (.long x65), .second, .val (.long x77), .second, .val (.long (x65 + (aa % (4 : Int64)))), .second, .val (.long (x77 + (ab % (4 : Int64)))), .second, .unset, .unset, .unset, .unset, .unset, .unset, .unset] [])) (fun t k => XS.lstore X16.here hx rfl (hb hby at_112) rfl (l' := #[.val (.int asz), .val (.int ae), .val (.int ah), .val (.long aa), .second, .val (.long ab), .second, .val (.int af), .val (.int x4), .val (.int j31_s0), .val (.int x46), .val (.int j60_s0), .val (.long x65), .second, .val (.long x77), .second, .val (.long (x65 + (aa % (4 : Int64)))), .second, .val (.long (x77 + (ab % (4 : Int64)))), .second, .unset, .unset, .unset, .unset, .unset, .unset, .unset]) rfl k) ?_
      have jw25 : j114_l16 = ((x65 + (aa % (4 : Int64))) : Int64) := qj114_l16.trans (if_neg hc90)
      have jw26 : j114_l18 = ((x77 + (ab % (4 : Int64))) : Int64) := qj114_l18.trans (if_neg hc90)
      rw [jw25, jw26] at k22
      exact k22 T16 _ X16 N16 e16
  intro T22 locs22 X22 N22 e22
  refine own_of (S' := T22.setTop (mkF m 116 #[.val (.int asz), .val (.int ae), .val (.int ah), .val (.long aa), .second, .val (.long ab), .second, .val (.int af), .val (.int x4), .val (.int j31_s0), .val (.int x46), .val (.int j60_s0), .val (.long x65), .second, .val (.long x77), .second, .val (.long j114_l16), .second, .val (.long j114_l18), .second, .unset, .unset, .unset, .unset, .unset, .unset, .unset] [(.long j114_l16)])) (fun t k => XS.lload X22.here hx rfl (hb hby at_114) rfl k) ?_
  refine own_of (S' := T22.setTop (mkF m 118 #[.val (.int asz), .val (.int ae), .val (.int ah), .val (.long aa), .second, .val (.long ab), .second, .val (.int af), .val (.int x4), .val (.int j31_s0), .val (.int x46), .val (.int j60_s0), .val (.long x65), .second, .val (.long x77), .second, .val (.long j114_l16), .second, .val (.long j114_l18), .second, .unset, .unset, .unset, .unset, .unset, .unset, .unset] [(.long j114_l18), (.long j114_l16)])) (fun t k => XS.lload X22.here hx rfl (hb hby at_116) rfl k) ?_
  obtain ⟨_, _, ⟨T27, L27, k27, n27⟩, -, X27, ⟨Lc27, hQ27, l27, y27, z27⟩, st27⟩ := Jvm.LawKit.callS X22 hx (y := (⟨"java/lang/Math", "min", "(JJ)J"⟩ : MethodName)) hown (mvT hZ (hw _ (List.mem_of_getElem? (i := 2) rfl))) (mvT hZ (hw _ (List.mem_of_getElem? (i := 3) rfl))) (mvT hZ (hw _ (List.mem_of_getElem? (i := 4) rfl))) (mvT hZ (hw _ (List.mem_of_getElem? (i := 5) rfl))) (by decide) (backOf (W := 0) (own_rm1 l Z _ hw [] j114_l16 j114_l18 h0 n0 ) hZ (hw _ (List.mem_of_getElem? (i := 5) rfl)) (hw _ (List.mem_of_getElem? (i := 4) rfl)) (by decide) (by decide)) (g := (mkF m 118 #[.val (.int asz), .val (.int ae), .val (.int ah), .val (.long aa), .second, .val (.long ab), .second, .val (.int af), .val (.int x4), .val (.int j31_s0), .val (.int x46), .val (.int j60_s0), .val (.long x65), .second, .val (.long x77), .second, .val (.long j114_l16), .second, .val (.long j114_l18), .second, .unset, .unset, .unset, .unset, .unset, .unset, .unset] [(.long j114_l18), (.long j114_l16)])) rfl (by rw [hml]; rfl) (argsL := [(.long j114_l16), (.long j114_l18)]) (rest := []) (lenOf own_pd0 rfl) rfl (by show 2 * 0 + _ ≤ _; exact Nat.le_of_eq rfl) (hb hby at_118) (fun _ _ => ⟨rfl, e22, (by decide : 0 + 0 ≤ _), (by decide : 0 + 0 ≤ _)⟩)
  dsimp only [Pt.U, Pt.locs, Pt.cells, Pt.slots] at X27 l27 y27 z27 st27 hQ27
  subst l27 y27 z27
  obtain ⟨rfl, M27, eh27⟩ := hQ27
  have N27 := Fr.app N22 M27
  refine own_of (S' := T27.setTop (mkF m 121 #[.val (.int asz), .val (.int ae), .val (.int ah), .val (.long aa), .second, .val (.long ab), .second, .val (.int af), .val (.int x4), .val (.int j31_s0), .val (.int x46), .val (.int j60_s0), .val (.long x65), .second, .val (.long x77), .second, .val (.long j114_l16), .second, .val (.long j114_l18), .second, .unset, .unset, .unset, .unset, .unset, .unset, .unset] [(.long (own_min j114_l16 j114_l18))])) (fun t k => st27 _ k) ?_
  generalize q118 : (own_min j114_l16 j114_l18) = r118
  refine own_of (S' := T27.setTop (mkF m 123 #[.val (.int asz), .val (.int ae), .val (.int ah), .val (.long aa), .second, .val (.long ab), .second, .val (.int af), .val (.int x4), .val (.int j31_s0), .val (.int x46), .val (.int j60_s0), .val (.long x65), .second, .val (.long x77), .second, .val (.long j114_l16), .second, .val (.long j114_l18), .second, .val (.long r118), .second, .unset, .unset, .unset, .unset, .unset] [])) (fun t k => XS.lstore X27.here hx rfl (hb hby at_121) rfl (l' := #[.val (.int asz), .val (.int ae), .val (.int ah), .val (.long aa), .second, .val (.long ab), .second, .val (.int af), .val (.int x4), .val (.int j31_s0), .val (.int x46), .val (.int j60_s0), .val (.long x65), .second, .val (.long x77), .second, .val (.long j114_l16), .second, .val (.long j114_l18), .second, .val (.long r118), .second, .unset, .unset, .unset, .unset, .unset]) rfl k) ?_
  refine own_of (S' := T27.setTop (mkF m 125 #[.val (.int asz), .val (.int ae), .val (.int ah), .val (.long aa), .second, .val (.long ab), .second, .val (.int af), .val (.int x4), .val (.int j31_s0), .val (.int x46), .val (.int j60_s0), .val (.long x65), .second, .val (.long x77), .second, .val (.long j114_l16), .second, .val (.long j114_l18), .second, .val (.long r118), .second, .unset, .unset, .unset, .unset, .unset] [(.long j114_l16)])) (fun t k => XS.lload X27.here hx rfl (hb hby at_123) rfl k) ?_
  refine own_of (S' := T27.setTop (mkF m 127 #[.val (.int asz), .val (.int ae), .val (.int ah), .val (.long aa), .second, .val (.long ab), .second, .val (.int af), .val (.int x4), .val (.int j31_s0), .val (.int x46), .val (.int j60_s0), .val (.long x65), .second, .val (.long x77), .second, .val (.long j114_l16), .second, .val (.long j114_l18), .second, .val (.long r118), .second, .unset, .unset, .unset, .unset, .unset] [(.long j114_l18), (.long j114_l16)])) (fun t k => XS.lload X27.here hx rfl (hb hby at_125) rfl k) ?_
  obtain ⟨_, _, ⟨T28, L28, k28, n28⟩, -, X28, ⟨Lc28, hQ28, l28, y28, z28⟩, st28⟩ := Jvm.LawKit.callS X27 hx (y := (⟨"java/lang/Math", "max", "(JJ)J"⟩ : MethodName)) hown (mvT hZ (hw _ (List.mem_of_getElem? (i := 6) rfl))) (mvT hZ (hw _ (List.mem_of_getElem? (i := 7) rfl))) (mvT hZ (hw _ (List.mem_of_getElem? (i := 4) rfl))) (mvT hZ (hw _ (List.mem_of_getElem? (i := 8) rfl))) (by decide) (backOf (W := 0) (own_rm2 l Z _ hw [] j114_l16 j114_l18 h0 n0 ) hZ (hw _ (List.mem_of_getElem? (i := 8) rfl)) (hw _ (List.mem_of_getElem? (i := 4) rfl)) (by decide) (by decide)) (g := (mkF m 127 #[.val (.int asz), .val (.int ae), .val (.int ah), .val (.long aa), .second, .val (.long ab), .second, .val (.int af), .val (.int x4), .val (.int j31_s0), .val (.int x46), .val (.int j60_s0), .val (.long x65), .second, .val (.long x77), .second, .val (.long j114_l16), .second, .val (.long j114_l18), .second, .val (.long r118), .second, .unset, .unset, .unset, .unset, .unset] [(.long j114_l18), (.long j114_l16)])) rfl (by rw [hml]; rfl) (argsL := [(.long j114_l16), (.long j114_l18)]) (rest := []) (lenOf own_pd0 rfl) rfl (by show 2 * 0 + _ ≤ _; exact Nat.le_of_eq rfl) (hb hby at_127) (fun _ _ => ⟨rfl, eh27, (by decide : 0 + 0 ≤ _), (by decide : 0 + 0 ≤ _)⟩)
  dsimp only [Pt.U, Pt.locs, Pt.cells, Pt.slots] at X28 l28 y28 z28 st28 hQ28
  subst l28 y28 z28
  obtain ⟨rfl, M28, eh28⟩ := hQ28
  have N28 := Fr.app N27 M28
  refine own_of (S' := T28.setTop (mkF m 130 #[.val (.int asz), .val (.int ae), .val (.int ah), .val (.long aa), .second, .val (.long ab), .second, .val (.int af), .val (.int x4), .val (.int j31_s0), .val (.int x46), .val (.int j60_s0), .val (.long x65), .second, .val (.long x77), .second, .val (.long j114_l16), .second, .val (.long j114_l18), .second, .val (.long r118), .second, .unset, .unset, .unset, .unset, .unset] [(.long (own_max j114_l16 j114_l18))])) (fun t k => st28 _ k) ?_
  generalize q127 : (own_max j114_l16 j114_l18) = r127
  refine own_of (S' := T28.setTop (mkF m 132 #[.val (.int asz), .val (.int ae), .val (.int ah), .val (.long aa), .second, .val (.long ab), .second, .val (.int af), .val (.int x4), .val (.int j31_s0), .val (.int x46), .val (.int j60_s0), .val (.long x65), .second, .val (.long x77), .second, .val (.long j114_l16), .second, .val (.long j114_l18), .second, .val (.long r118), .second, .val (.long r127), .second, .unset, .unset, .unset] [])) (fun t k => XS.lstore X28.here hx rfl (hb hby at_130) rfl (l' := #[.val (.int asz), .val (.int ae), .val (.int ah), .val (.long aa), .second, .val (.long ab), .second, .val (.int af), .val (.int x4), .val (.int j31_s0), .val (.int x46), .val (.int j60_s0), .val (.long x65), .second, .val (.long x77), .second, .val (.long j114_l16), .second, .val (.long j114_l18), .second, .val (.long r118), .second, .val (.long r127), .second, .unset, .unset, .unset]) rfl k) ?_
  refine own_of (S' := T28.setTop (mkF m 134 #[.val (.int asz), .val (.int ae), .val (.int ah), .val (.long aa), .second, .val (.long ab), .second, .val (.int af), .val (.int x4), .val (.int j31_s0), .val (.int x46), .val (.int j60_s0), .val (.long x65), .second, .val (.long x77), .second, .val (.long j114_l16), .second, .val (.long j114_l18), .second, .val (.long r118), .second, .val (.long r127), .second, .unset, .unset, .unset] [(.long x65)])) (fun t k => XS.lload X28.here hx rfl (hb hby at_132) rfl k) ?_
  refine own_of (S' := T28.setTop (mkF m 136 #[.val (.int asz), .val (.int ae), .val (.int ah), .val (.long aa), .second, .val (.long ab), .second, .val (.int af), .val (.int x4), .val (.int j31_s0), .val (.int x46), .val (.int j60_s0), .val (.long x65), .second, .val (.long x77), .second, .val (.long j114_l16), .second, .val (.long j114_l18), .second, .val (.long r118), .second, .val (.long r127), .second, .unset, .unset, .unset] [(.long r118), (.long x65)])) (fun t k => XS.lload X28.here hx rfl (hb hby at_134) rfl k) ?_
  obtain ⟨_, _, ⟨T29, L29, k29, n29⟩, -, X29, ⟨Lc29, hQ29, l29, y29, z29⟩, st29⟩ := Jvm.LawKit.callS X28 hx (y := (⟨"java/lang/Math", "max", "(JJ)J"⟩ : MethodName)) hown (mvT hZ (hw _ (List.mem_of_getElem? (i := 6) rfl))) (mvT hZ (hw _ (List.mem_of_getElem? (i := 7) rfl))) (mvT hZ (hw _ (List.mem_of_getElem? (i := 4) rfl))) (mvT hZ (hw _ (List.mem_of_getElem? (i := 8) rfl))) (by decide) (backOf (W := 0) (own_rm2 l Z _ hw [] x65 r118 h0 n0 ) hZ (hw _ (List.mem_of_getElem? (i := 8) rfl)) (hw _ (List.mem_of_getElem? (i := 4) rfl)) (by decide) (by decide)) (g := (mkF m 136 #[.val (.int asz), .val (.int ae), .val (.int ah), .val (.long aa), .second, .val (.long ab), .second, .val (.int af), .val (.int x4), .val (.int j31_s0), .val (.int x46), .val (.int j60_s0), .val (.long x65), .second, .val (.long x77), .second, .val (.long j114_l16), .second, .val (.long j114_l18), .second, .val (.long r118), .second, .val (.long r127), .second, .unset, .unset, .unset] [(.long r118), (.long x65)])) rfl (by rw [hml]; rfl) (argsL := [(.long x65), (.long r118)]) (rest := []) (lenOf own_pd0 rfl) rfl (by show 2 * 0 + _ ≤ _; exact Nat.le_of_eq rfl) (hb hby at_136) (fun _ _ => ⟨rfl, eh28, (by decide : 0 + 0 ≤ _), (by decide : 0 + 0 ≤ _)⟩)
  dsimp only [Pt.U, Pt.locs, Pt.cells, Pt.slots] at X29 l29 y29 z29 st29 hQ29
  subst l29 y29 z29
  obtain ⟨rfl, M29, eh29⟩ := hQ29
  have N29 := Fr.app N28 M29
  refine own_of (S' := T29.setTop (mkF m 139 #[.val (.int asz), .val (.int ae), .val (.int ah), .val (.long aa), .second, .val (.long ab), .second, .val (.int af), .val (.int x4), .val (.int j31_s0), .val (.int x46), .val (.int j60_s0), .val (.long x65), .second, .val (.long x77), .second, .val (.long j114_l16), .second, .val (.long j114_l18), .second, .val (.long r118), .second, .val (.long r127), .second, .unset, .unset, .unset] [(.long (own_max x65 r118))])) (fun t k => st29 _ k) ?_
  generalize q136 : (own_max x65 r118) = r136
  refine own_of (S' := T29.setTop (mkF m 141 #[.val (.int asz), .val (.int ae), .val (.int ah), .val (.long aa), .second, .val (.long ab), .second, .val (.int af), .val (.int x4), .val (.int j31_s0), .val (.int x46), .val (.int j60_s0), .val (.long x65), .second, .val (.long x77), .second, .val (.long j114_l16), .second, .val (.long j114_l18), .second, .val (.long r118), .second, .val (.long r127), .second, .unset, .unset, .unset] [(.long x77), (.long r136)])) (fun t k => XS.lload X29.here hx rfl (hb hby at_139) rfl k) ?_
  refine own_of (S' := T29.setTop (mkF m 143 #[.val (.int asz), .val (.int ae), .val (.int ah), .val (.long aa), .second, .val (.long ab), .second, .val (.int af), .val (.int x4), .val (.int j31_s0), .val (.int x46), .val (.int j60_s0), .val (.long x65), .second, .val (.long x77), .second, .val (.long j114_l16), .second, .val (.long j114_l18), .second, .val (.long r118), .second, .val (.long r127), .second, .unset, .unset, .unset] [(.long r127), (.long x77), (.long r136)])) (fun t k => XS.lload X29.here hx rfl (hb hby at_141) rfl k) ?_
  obtain ⟨_, _, ⟨T30, L30, k30, n30⟩, -, X30, ⟨Lc30, hQ30, l30, y30, z30⟩, st30⟩ := Jvm.LawKit.callS X29 hx (y := (⟨"java/lang/Math", "min", "(JJ)J"⟩ : MethodName)) hown (mvT hZ (hw _ (List.mem_of_getElem? (i := 2) rfl))) (mvT hZ (hw _ (List.mem_of_getElem? (i := 3) rfl))) (mvT hZ (hw _ (List.mem_of_getElem? (i := 4) rfl))) (mvT hZ (hw _ (List.mem_of_getElem? (i := 5) rfl))) (by decide) (backOf (W := 2) (own_rm1 l Z _ hw [] x77 r127 h0 n0 ) hZ (hw _ (List.mem_of_getElem? (i := 5) rfl)) (hw _ (List.mem_of_getElem? (i := 4) rfl)) (by decide) (by decide)) (g := (mkF m 143 #[.val (.int asz), .val (.int ae), .val (.int ah), .val (.long aa), .second, .val (.long ab), .second, .val (.int af), .val (.int x4), .val (.int j31_s0), .val (.int x46), .val (.int j60_s0), .val (.long x65), .second, .val (.long x77), .second, .val (.long j114_l16), .second, .val (.long j114_l18), .second, .val (.long r118), .second, .val (.long r127), .second, .unset, .unset, .unset] [(.long r127), (.long x77), (.long r136)])) rfl (by rw [hml]; rfl) (argsL := [(.long x77), (.long r127)]) (rest := [(.long r136)]) (lenOf own_pd0 rfl) rfl (by show 2 * 0 + _ ≤ _; exact Nat.le_of_eq rfl) (hb hby at_143) (fun _ _ => ⟨rfl, eh29, (by decide : 0 + 0 ≤ _), (by decide : 0 + 0 ≤ _)⟩)
  dsimp only [Pt.U, Pt.locs, Pt.cells, Pt.slots] at X30 l30 y30 z30 st30 hQ30
  subst l30 y30 z30
  obtain ⟨rfl, M30, eh30⟩ := hQ30
  have N30 := Fr.app N29 M30
  refine own_of (S' := T30.setTop (mkF m 146 #[.val (.int asz), .val (.int ae), .val (.int ah), .val (.long aa), .second, .val (.long ab), .second, .val (.int af), .val (.int x4), .val (.int j31_s0), .val (.int x46), .val (.int j60_s0), .val (.long x65), .second, .val (.long x77), .second, .val (.long j114_l16), .second, .val (.long j114_l18), .second, .val (.long r118), .second, .val (.long r127), .second, .unset, .unset, .unset] [(.long (own_min x77 r127)), (.long r136)])) (fun t k => st30 _ k) ?_
  generalize q143 : (own_min x77 r127) = r143
  refine own_of (S' := T30.setTop (mkF m 147 #[.val (.int asz), .val (.int ae), .val (.int ah), .val (.long aa), .second, .val (.long ab), .second, .val (.int af), .val (.int x4), .val (.int j31_s0), .val (.int x46), .val (.int j60_s0), .val (.long x65), .second, .val (.long x77), .second, .val (.long j114_l16), .second, .val (.long j114_l18), .second, .val (.long r118), .second, .val (.long r127), .second, .unset, .unset, .unset] [(.int (lcmpW r136 r143))])) (fun t k => XS.lcmp X30.here hx rfl (hb hby at_146) rfl k) ?_
  obtain ⟨j155_s0, qj155_s0⟩ : ∃ z : Int32, z = (if r143 < r136 then (0 : Int32) else (1 : Int32)) := ⟨_, rfl⟩
  suffices k32 : ∀ (T' : State) (locs' : List Loc), Stand p l e room_1 s m #[(.int asz), (.int ae), (.int ah), (.long aa), (.long ab), (.int af)] below meth c T' locs' 0 0 → Fr n0 locs' → T'.heap = h0 → own_Go p.tables e below G (T'.setTop (mkF m 155 #[.val (.int asz), .val (.int ae), .val (.int ah), .val (.long aa), .second, .val (.long ab), .second, .val (.int af), .val (.int x4), .val (.int j31_s0), .val (.int x46), .val (.int j60_s0), .val (.long x65), .second, .val (.long x77), .second, .val (.long j114_l16), .second, .val (.long j114_l18), .second, .val (.long r118), .second, .val (.long r127), .second, .unset, .unset, .unset] [(.int j155_s0)])) by
    by_cases hc147 : r143 < r136
    · refine own_of (S' := T30.setTop (mkF m 154 #[.val (.int asz), .val (.int ae), .val (.int ah), .val (.long aa), .second, .val (.long ab), .second, .val (.int af), .val (.int x4), .val (.int j31_s0), .val (.int x46), .val (.int j60_s0), .val (.long x65), .second, .val (.long x77), .second, .val (.long j114_l16), .second, .val (.long j114_l18), .second, .val (.long r118), .second, .val (.long r127), .second, .unset, .unset, .unset] [])) (fun t k => XS.ifYes X30.here hx rfl (pc0 := 147) (pc' := 154) rfl (hb hby at_147) rfl ((if0 _ _).trans (tlt ((lw_gt r136 r143).mpr hc147)).2.2.1) (by decide) (by decide) k) ?_
      refine own_of (S' := T30.setTop (mkF m 155 #[.val (.int asz), .val (.int ae), .val (.int ah), .val (.long aa), .second, .val (.long ab), .second, .val (.int af), .val (.int x4), .val (.int j31_s0), .val (.int x46), .val (.int j60_s0), .val (.long x65), .second, .val (.long x77), .second, .val (.long j114_l16), .second, .val (.long j114_l18), .second, .val (.long r118), .second, .val (.long r127), .second, .unset, .unset, .unset] [(.int (0 : Int32))])) (fun t k => XS.iconst X30.here hx rfl (hb hby at_154) k) ?_
      have jw33 : j155_s0 = ((0 : Int32) : Int32) := qj155_s0.trans (if_pos hc147)
      rw [jw33] at k32
      exact k32 T30 _ X30 N30 eh30
    · refine own_of (S' := T30.setTop (mkF m 150 #[.val (.int asz), .val (.int ae), .val (.int ah), .val (.long aa), .second, .val (.long ab), .second, .val (.int af), .val (.int x4), .val (.int j31_s0), .val (.int x46), .val (.int j60_s0), .val (.long x65), .second, .val (.long x77), .second, .val (.long j114_l16), .second, .val (.long j114_l18), .second, .val (.long r118), .second, .val (.long r127), .second, .unset, .unset, .unset] [])) (fun t k => XS.ifNo X30.here hx rfl (hb hby at_147) rfl ((if0 _ _).trans (flt (fun q => hc147 ((lw_gt r136 r143).mp q))).2.2.1) k) ?_
      refine own_of (S' := T30.setTop (mkF m 151 #[.val (.int asz), .val (.int ae), .val (.int ah), .val (.long aa), .second, .val (.long ab), .second, .val (.int af), .val (.int x4), .val (.int j31_s0), .val (.int x46), .val (.int j60_s0), .val (.long x65), .second, .val (.long x77), .second, .val (.long j114_l16), .second, .val (.long j114_l18), .second, .val (.long r118), .second, .val (.long r127), .second, .unset, .unset, .unset] [(.int (1 : Int32))])) (fun t k => XS.iconst X30.here hx rfl (hb hby at_150) k) ?_
      refine own_of (S' := T30.setTop (mkF m 155 #[.val (.int asz), .val (.int ae), .val (.int ah), .val (.long aa), .second, .val (.long ab), .second, .val (.int af), .val (.int x4), .val (.int j31_s0), .val (.int x46), .val (.int j60_s0), .val (.long x65), .second, .val (.long x77), .second, .val (.long j114_l16), .second, .val (.long j114_l18), .second, .val (.long r118), .second, .val (.long r127), .second, .unset, .unset, .unset] [(.int (1 : Int32))])) (fun t k => XS.goto X30.here hx rfl (pc0 := 151) (pc' := 155) rfl (hb hby at_151) (by decide) (by decide) k) ?_
      have jw34 : j155_s0 = ((1 : Int32) : Int32) := qj155_s0.trans (if_neg hc147)
      rw [jw34] at k32
      exact k32 T30 _ X30 N30 eh30
  intro T32 locs32 X32 N32 e32
  refine own_of (S' := T32.setTop (mkF m 157 #[.val (.int asz), .val (.int ae), .val (.int ah), .val (.long aa), .second, .val (.long ab), .second, .val (.int af), .val (.int x4), .val (.int j31_s0), .val (.int x46), .val (.int j60_s0), .val (.long x65), .second, .val (.long x77), .second, .val (.long j114_l16), .second, .val (.long j114_l18), .second, .val (.long r118), .second, .val (.long r127), .second, .val (.int j155_s0), .unset, .unset] [])) (fun t k => XS.istore X32.here hx rfl (hb hby at_155) rfl (l' := #[.val (.int asz), .val (.int ae), .val (.int ah), .val (.long aa), .second, .val (.long ab), .second, .val (.int af), .val (.int x4), .val (.int j31_s0), .val (.int x46), .val (.int j60_s0), .val (.long x65), .second, .val (.long x77), .second, .val (.long j114_l16), .second, .val (.long j114_l18), .second, .val (.long r118), .second, .val (.long r127), .second, .val (.int j155_s0), .unset, .unset]) rfl k) ?_
  refine own_of (S' := T32.setTop (mkF m 159 #[.val (.int asz), .val (.int ae), .val (.int ah), .val (.long aa), .second, .val (.long ab), .second, .val (.int af), .val (.int x4), .val (.int j31_s0), .val (.int x46), .val (.int j60_s0), .val (.long x65), .second, .val (.long x77), .second, .val (.long j114_l16), .second, .val (.long j114_l18), .second, .val (.long r118), .second, .val (.long r127), .second, .val (.int j155_s0), .unset, .unset] [(.long x65)])) (fun t k => XS.lload X32.here hx rfl (hb hby at_157) rfl k) ?_
  refine own_of (S' := T32.setTop (mkF m 161 #[.val (.int asz), .val (.int ae), .val (.int ah), .val (.long aa), .second, .val (.long ab), .second, .val (.int af), .val (.int x4), .val (.int j31_s0), .val (.int x46), .val (.int j60_s0), .val (.long x65), .second, .val (.long x77), .second, .val (.long j114_l16), .second, .val (.long j114_l18), .second, .val (.long r118), .second, .val (.long r127), .second, .val (.int j155_s0), .unset, .unset] [(.long r118), (.long x65)])) (fun t k => XS.lload X32.here hx rfl (hb hby at_159) rfl k) ?_
  refine own_of (S' := T32.setTop (mkF m 162 #[.val (.int asz), .val (.int ae), .val (.int ah), .val (.long aa), .second, .val (.long ab), .second, .val (.int af), .val (.int x4), .val (.int j31_s0), .val (.int x46), .val (.int j60_s0), .val (.long x65), .second, .val (.long x77), .second, .val (.long j114_l16), .second, .val (.long j114_l18), .second, .val (.long r118), .second, .val (.long r127), .second, .val (.int j155_s0), .unset, .unset] [(.int (lcmpW x65 r118))])) (fun t k => XS.lcmp X32.here hx rfl (hb hby at_161) rfl k) ?_
  obtain ⟨j178_s0, qj178_s0⟩ : ∃ z : Int32, z = (if x65 < r118 then (1 : Int32) else (if r127 < x77 then (1 : Int32) else (0 : Int32))) := ⟨_, rfl⟩
  suffices k37 : ∀ (T' : State) (locs' : List Loc), Stand p l e room_1 s m #[(.int asz), (.int ae), (.int ah), (.long aa), (.long ab), (.int af)] below meth c T' locs' 0 0 → Fr n0 locs' → T'.heap = h0 → own_Go p.tables e below G (T'.setTop (mkF m 178 #[.val (.int asz), .val (.int ae), .val (.int ah), .val (.long aa), .second, .val (.long ab), .second, .val (.int af), .val (.int x4), .val (.int j31_s0), .val (.int x46), .val (.int j60_s0), .val (.long x65), .second, .val (.long x77), .second, .val (.long j114_l16), .second, .val (.long j114_l18), .second, .val (.long r118), .second, .val (.long r127), .second, .val (.int j155_s0), .unset, .unset] [(.int j178_s0)])) by
    by_cases hc162 : x65 < r118
    · refine own_of (S' := T32.setTop (mkF m 173 #[.val (.int asz), .val (.int ae), .val (.int ah), .val (.long aa), .second, .val (.long ab), .second, .val (.int af), .val (.int x4), .val (.int j31_s0), .val (.int x46), .val (.int j60_s0), .val (.long x65), .second, .val (.long x77), .second, .val (.long j114_l16), .second, .val (.long j114_l18), .second, .val (.long r118), .second, .val (.long r127), .second, .val (.int j155_s0), .unset, .unset] [])) (fun t k => XS.ifYes X32.here hx rfl (pc0 := 162) (pc' := 173) rfl (hb hby at_162) rfl ((if0 _ _).trans (tlt ((lw_lt x65 r118).mpr hc162)).1) (by decide) (by decide) k) ?_
      refine own_of (S' := T32.setTop (mkF m 174 #[.val (.int asz), .val (.int ae), .val (.int ah), .val (.long aa), .second, .val (.long ab), .second, .val (.int af), .val (.int x4), .val (.int j31_s0), .val (.int x46), .val (.int j60_s0), .val (.long x65), .second, .val (.long x77), .second, .val (.long j114_l16), .second, .val (.long j114_l18), .second, .val (.long r118), .second, .val (.long r127), .second, .val (.int j155_s0), .unset, .unset] [(.int (1 : Int32))])) (fun t k => XS.iconst X32.here hx rfl (hb hby at_173) k) ?_
      refine own_of (S' := T32.setTop (mkF m 178 #[.val (.int asz), .val (.int ae), .val (.int ah), .val (.long aa), .second, .val (.long ab), .second, .val (.int af), .val (.int x4), .val (.int j31_s0), .val (.int x46), .val (.int j60_s0), .val (.long x65), .second, .val (.long x77), .second, .val (.long j114_l16), .second, .val (.long j114_l18), .second, .val (.long r118), .second, .val (.long r127), .second, .val (.int j155_s0), .unset, .unset] [(.int (1 : Int32))])) (fun t k => XS.goto X32.here hx rfl (pc0 := 174) (pc' := 178) rfl (hb hby at_174) (by decide) (by decide) k) ?_
      have jw38 : j178_s0 = ((1 : Int32) : Int32) := qj178_s0.trans (if_pos hc162)
      rw [jw38] at k37
      exact k37 T32 _ X32 N32 e32
    · refine own_of (S' := T32.setTop (mkF m 165 #[.val (.int asz), .val (.int ae), .val (.int ah), .val (.long aa), .second, .val (.long ab), .second, .val (.int af), .val (.int x4), .val (.int j31_s0), .val (.int x46), .val (.int j60_s0), .val (.long x65), .second, .val (.long x77), .second, .val (.long j114_l16), .second, .val (.long j114_l18), .second, .val (.long r118), .second, .val (.long r127), .second, .val (.int j155_s0), .unset, .unset] [])) (fun t k => XS.ifNo X32.here hx rfl (hb hby at_162) rfl ((if0 _ _).trans (flt (fun q => hc162 ((lw_lt x65 r118).mp q))).1) k) ?_
      refine own_of (S' := T32.setTop (mkF m 167 #[.val (.int asz), .val (.int ae), .val (.int ah), .val (.long aa), .second, .val (.long ab), .second, .val (.int af), .val (.int x4), .val (.int j31_s0), .val (.int x46), .val (.int j60_s0), .val (.long x65), .second, .val (.long x77), .second, .val (.long j114_l16), .second, .val (.long j114_l18), .second, .val (.long r118), .second, .val (.long r127), .second, .val (.int j155_s0), .unset, .unset] [(.long x77)])) (fun t k => XS.lload X32.here hx rfl (hb hby at_165) rfl k) ?_
      refine own_of (S' := T32.setTop (mkF m 169 #[.val (.int asz), .val (.int ae), .val (.int ah), .val (.long aa), .second, .val (.long ab), .second, .val (.int af), .val (.int x4), .val (.int j31_s0), .val (.int x46), .val (.int j60_s0), .val (.long x65), .second, .val (.long x77), .second, .val (.long j114_l16), .second, .val (.long j114_l18), .second, .val (.long r118), .second, .val (.long r127), .second, .val (.int j155_s0), .unset, .unset] [(.long r127), (.long x77)])) (fun t k => XS.lload X32.here hx rfl (hb hby at_167) rfl k) ?_
      refine own_of (S' := T32.setTop (mkF m 170 #[.val (.int asz), .val (.int ae), .val (.int ah), .val (.long aa), .second, .val (.long ab), .second, .val (.int af), .val (.int x4), .val (.int j31_s0), .val (.int x46), .val (.int j60_s0), .val (.long x65), .second, .val (.long x77), .second, .val (.long j114_l16), .second, .val (.long j114_l18), .second, .val (.long r118), .second, .val (.long r127), .second, .val (.int j155_s0), .unset, .unset] [(.int (lcmpW x77 r127))])) (fun t k => XS.lcmp X32.here hx rfl (hb hby at_169) rfl k) ?_
      by_cases hc170 : r127 < x77
      · refine own_of (S' := T32.setTop (mkF m 173 #[.val (.int asz), .val (.int ae), .val (.int ah), .val (.long aa), .second, .val (.long ab), .second, .val (.int af), .val (.int x4), .val (.int j31_s0), .val (.int x46), .val (.int j60_s0), .val (.long x65), .second, .val (.long x77), .second, .val (.long j114_l16), .second, .val (.long j114_l18), .second, .val (.long r118), .second, .val (.long r127), .second, .val (.int j155_s0), .unset, .unset] [])) (fun t k => XS.ifNo X32.here hx rfl (hb hby at_170) rfl ((if0 _ _).trans (tlt ((lw_gt x77 r127).mpr hc170)).2.2.2) k) ?_
        refine own_of (S' := T32.setTop (mkF m 174 #[.val (.int asz), .val (.int ae), .val (.int ah), .val (.long aa), .second, .val (.long ab), .second, .val (.int af), .val (.int x4), .val (.int j31_s0), .val (.int x46), .val (.int j60_s0), .val (.long x65), .second, .val (.long x77), .second, .val (.long j114_l16), .second, .val (.long j114_l18), .second, .val (.long r118), .second, .val (.long r127), .second, .val (.int j155_s0), .unset, .unset] [(.int (1 : Int32))])) (fun t k => XS.iconst X32.here hx rfl (hb hby at_173) k) ?_
        refine own_of (S' := T32.setTop (mkF m 178 #[.val (.int asz), .val (.int ae), .val (.int ah), .val (.long aa), .second, .val (.long ab), .second, .val (.int af), .val (.int x4), .val (.int j31_s0), .val (.int x46), .val (.int j60_s0), .val (.long x65), .second, .val (.long x77), .second, .val (.long j114_l16), .second, .val (.long j114_l18), .second, .val (.long r118), .second, .val (.long r127), .second, .val (.int j155_s0), .unset, .unset] [(.int (1 : Int32))])) (fun t k => XS.goto X32.here hx rfl (pc0 := 174) (pc' := 178) rfl (hb hby at_174) (by decide) (by decide) k) ?_
        have jw39 : j178_s0 = ((1 : Int32) : Int32) := qj178_s0.trans ((if_neg hc162).trans (if_pos hc170))
        rw [jw39] at k37
        exact k37 T32 _ X32 N32 e32
      · refine own_of (S' := T32.setTop (mkF m 177 #[.val (.int asz), .val (.int ae), .val (.int ah), .val (.long aa), .second, .val (.long ab), .second, .val (.int af), .val (.int x4), .val (.int j31_s0), .val (.int x46), .val (.int j60_s0), .val (.long x65), .second, .val (.long x77), .second, .val (.long j114_l16), .second, .val (.long j114_l18), .second, .val (.long r118), .second, .val (.long r127), .second, .val (.int j155_s0), .unset, .unset] [])) (fun t k => XS.ifYes X32.here hx rfl (pc0 := 170) (pc' := 177) rfl (hb hby at_170) rfl ((if0 _ _).trans (flt (fun q => hc170 ((lw_gt x77 r127).mp q))).2.2.2) (by decide) (by decide) k) ?_
        refine own_of (S' := T32.setTop (mkF m 178 #[.val (.int asz), .val (.int ae), .val (.int ah), .val (.long aa), .second, .val (.long ab), .second, .val (.int af), .val (.int x4), .val (.int j31_s0), .val (.int x46), .val (.int j60_s0), .val (.long x65), .second, .val (.long x77), .second, .val (.long j114_l16), .second, .val (.long j114_l18), .second, .val (.long r118), .second, .val (.long r127), .second, .val (.int j155_s0), .unset, .unset] [(.int (0 : Int32))])) (fun t k => XS.iconst X32.here hx rfl (hb hby at_177) k) ?_
        have jw40 : j178_s0 = ((0 : Int32) : Int32) := qj178_s0.trans ((if_neg hc162).trans (if_neg hc170))
        rw [jw40] at k37
        exact k37 T32 _ X32 N32 e32
  intro T37 locs37 X37 N37 e37
  refine own_of (S' := T37.setTop (mkF m 180 #[.val (.int asz), .val (.int ae), .val (.int ah), .val (.long aa), .second, .val (.long ab), .second, .val (.int af), .val (.int x4), .val (.int j31_s0), .val (.int x46), .val (.int j60_s0), .val (.long x65), .second, .val (.long x77), .second, .val (.long j114_l16), .second, .val (.long j114_l18), .second, .val (.long r118), .second, .val (.long r127), .second, .val (.int j155_s0), .val (.int j178_s0), .unset] [])) (fun t k => XS.istore X37.here hx rfl (hb hby at_178) rfl (l' := #[.val (.int asz), .val (.int ae), .val (.int ah), .val (.long aa), .second, .val (.long ab), .second, .val (.int af), .val (.int x4), .val (.int j31_s0), .val (.int x46), .val (.int j60_s0), .val (.long x65), .second, .val (.long x77), .second, .val (.long j114_l16), .second, .val (.long j114_l18), .second, .val (.long r118), .second, .val (.long r127), .second, .val (.int j155_s0), .val (.int j178_s0), .unset]) rfl k) ?_
  refine own_of (S' := T37.setTop (mkF m 182 #[.val (.int asz), .val (.int ae), .val (.int ah), .val (.long aa), .second, .val (.long ab), .second, .val (.int af), .val (.int x4), .val (.int j31_s0), .val (.int x46), .val (.int j60_s0), .val (.long x65), .second, .val (.long x77), .second, .val (.long j114_l16), .second, .val (.long j114_l18), .second, .val (.long r118), .second, .val (.long r127), .second, .val (.int j155_s0), .val (.int j178_s0), .unset] [(.long x65)])) (fun t k => XS.lload X37.here hx rfl (hb hby at_180) rfl k) ?_
  refine own_of (S' := T37.setTop (mkF m 184 #[.val (.int asz), .val (.int ae), .val (.int ah), .val (.long aa), .second, .val (.long ab), .second, .val (.int af), .val (.int x4), .val (.int j31_s0), .val (.int x46), .val (.int j60_s0), .val (.long x65), .second, .val (.long x77), .second, .val (.long j114_l16), .second, .val (.long j114_l18), .second, .val (.long r118), .second, .val (.long r127), .second, .val (.int j155_s0), .val (.int j178_s0), .unset] [(.long x77), (.long x65)])) (fun t k => XS.lload X37.here hx rfl (hb hby at_182) rfl k) ?_
  refine own_of (S' := T37.setTop (mkF m 185 #[.val (.int asz), .val (.int ae), .val (.int ah), .val (.long aa), .second, .val (.long ab), .second, .val (.int af), .val (.int x4), .val (.int j31_s0), .val (.int x46), .val (.int j60_s0), .val (.long x65), .second, .val (.long x77), .second, .val (.long j114_l16), .second, .val (.long j114_l18), .second, .val (.long r118), .second, .val (.long r127), .second, .val (.int j155_s0), .val (.int j178_s0), .unset] [(.int (lcmpW x65 x77))])) (fun t k => XS.lcmp X37.here hx rfl (hb hby at_184) rfl k) ?_
  obtain ⟨j208_s0, qj208_s0⟩ : ∃ z : Int32, z = (if x65 = x77 then (1 : Int32) else (if j155_s0 = (0 : Int32) then (1 : Int32) else (if j60_s0 = (0 : Int32) then (if j178_s0 = (0 : Int32) then (1 : Int32) else (0 : Int32)) else (0 : Int32)))) := ⟨_, rfl⟩
  suffices k45 : ∀ (T' : State) (locs' : List Loc), Stand p l e room_1 s m #[(.int asz), (.int ae), (.int ah), (.long aa), (.long ab), (.int af)] below meth c T' locs' 0 0 → Fr n0 locs' → T'.heap = h0 → own_Go p.tables e below G (T'.setTop (mkF m 208 #[.val (.int asz), .val (.int ae), .val (.int ah), .val (.long aa), .second, .val (.long ab), .second, .val (.int af), .val (.int x4), .val (.int j31_s0), .val (.int x46), .val (.int j60_s0), .val (.long x65), .second, .val (.long x77), .second, .val (.long j114_l16), .second, .val (.long j114_l18), .second, .val (.long r118), .second, .val (.long r127), .second, .val (.int j155_s0), .val (.int j178_s0), .unset] [(.int j208_s0)])) by
    by_cases hc185 : x65 = x77
    · refine own_of (S' := T37.setTop (mkF m 203 #[.val (.int asz), .val (.int ae), .val (.int ah), .val (.long aa), .second, .val (.long ab), .second, .val (.int af), .val (.int x4), .val (.int j31_s0), .val (.int x46), .val (.int j60_s0), .val (.long x65), .second, .val (.long x77), .second, .val (.long j114_l16), .second, .val (.long j114_l18), .second, .val (.long r118), .second, .val (.long r127), .second, .val (.int j155_s0), .val (.int j178_s0), .unset] [])) (fun t k => XS.ifYes X37.here hx rfl (pc0 := 185) (pc' := 203) rfl (hb hby at_185) rfl ((if0 _ _).trans (teq ((lw_eq x65 x77).mpr hc185)).1) (by decide) (by decide) k) ?_
      refine own_of (S' := T37.setTop (mkF m 204 #[.val (.int asz), .val (.int ae), .val (.int ah), .val (.long aa), .second, .val (.long ab), .second, .val (.int af), .val (.int x4), .val (.int j31_s0), .val (.int x46), .val (.int j60_s0), .val (.long x65), .second, .val (.long x77), .second, .val (.long j114_l16), .second, .val (.long j114_l18), .second, .val (.long r118), .second, .val (.long r127), .second, .val (.int j155_s0), .val (.int j178_s0), .unset] [(.int (1 : Int32))])) (fun t k => XS.iconst X37.here hx rfl (hb hby at_203) k) ?_
      refine own_of (S' := T37.setTop (mkF m 208 #[.val (.int asz), .val (.int ae), .val (.int ah), .val (.long aa), .second, .val (.long ab), .second, .val (.int af), .val (.int x4), .val (.int j31_s0), .val (.int x46), .val (.int j60_s0), .val (.long x65), .second, .val (.long x77), .second, .val (.long j114_l16), .second, .val (.long j114_l18), .second, .val (.long r118), .second, .val (.long r127), .second, .val (.int j155_s0), .val (.int j178_s0), .unset] [(.int (1 : Int32))])) (fun t k => XS.goto X37.here hx rfl (pc0 := 204) (pc' := 208) rfl (hb hby at_204) (by decide) (by decide) k) ?_
      have jw46 : j208_s0 = ((1 : Int32) : Int32) := qj208_s0.trans (if_pos hc185)
      rw [jw46] at k45
      exact k45 T37 _ X37 N37 e37
    · refine own_of (S' := T37.setTop (mkF m 188 #[.val (.int asz), .val (.int ae), .val (.int ah), .val (.long aa), .second, .val (.long ab), .second, .val (.int af), .val (.int x4), .val (.int j31_s0), .val (.int x46), .val (.int j60_s0), .val (.long x65), .second, .val (.long x77), .second, .val (.long j114_l16), .second, .val (.long j114_l18), .second, .val (.long r118), .second, .val (.long r127), .second, .val (.int j155_s0), .val (.int j178_s0), .unset] [])) (fun t k => XS.ifNo X37.here hx rfl (hb hby at_185) rfl ((if0 _ _).trans (feq (fun q => hc185 ((lw_eq x65 x77).mp q))).1) k) ?_
      refine own_of (S' := T37.setTop (mkF m 190 #[.val (.int asz), .val (.int ae), .val (.int ah), .val (.long aa), .second, .val (.long ab), .second, .val (.int af), .val (.int x4), .val (.int j31_s0), .val (.int x46), .val (.int j60_s0), .val (.long x65), .second, .val (.long x77), .second, .val (.long j114_l16), .second, .val (.long j114_l18), .second, .val (.long r118), .second, .val (.long r127), .second, .val (.int j155_s0), .val (.int j178_s0), .unset] [(.int j155_s0)])) (fun t k => XS.iload X37.here hx rfl (hb hby at_188) rfl k) ?_
      by_cases hc190 : j155_s0 = (0 : Int32)
      · refine own_of (S' := T37.setTop (mkF m 203 #[.val (.int asz), .val (.int ae), .val (.int ah), .val (.long aa), .second, .val (.long ab), .second, .val (.int af), .val (.int x4), .val (.int j31_s0), .val (.int x46), .val (.int j60_s0), .val (.long x65), .second, .val (.long x77), .second, .val (.long j114_l16), .second, .val (.long j114_l18), .second, .val (.long r118), .second, .val (.long r127), .second, .val (.int j155_s0), .val (.int j178_s0), .unset] [])) (fun t k => XS.ifYes X37.here hx rfl (pc0 := 190) (pc' := 203) rfl (hb hby at_190) rfl ((if0 _ _).trans (teq hc190).1) (by decide) (by decide) k) ?_
        refine own_of (S' := T37.setTop (mkF m 204 #[.val (.int asz), .val (.int ae), .val (.int ah), .val (.long aa), .second, .val (.long ab), .second, .val (.int af), .val (.int x4), .val (.int j31_s0), .val (.int x46), .val (.int j60_s0), .val (.long x65), .second, .val (.long x77), .second, .val (.long j114_l16), .second, .val (.long j114_l18), .second, .val (.long r118), .second, .val (.long r127), .second, .val (.int j155_s0), .val (.int j178_s0), .unset] [(.int (1 : Int32))])) (fun t k => XS.iconst X37.here hx rfl (hb hby at_203) k) ?_
        refine own_of (S' := T37.setTop (mkF m 208 #[.val (.int asz), .val (.int ae), .val (.int ah), .val (.long aa), .second, .val (.long ab), .second, .val (.int af), .val (.int x4), .val (.int j31_s0), .val (.int x46), .val (.int j60_s0), .val (.long x65), .second, .val (.long x77), .second, .val (.long j114_l16), .second, .val (.long j114_l18), .second, .val (.long r118), .second, .val (.long r127), .second, .val (.int j155_s0), .val (.int j178_s0), .unset] [(.int (1 : Int32))])) (fun t k => XS.goto X37.here hx rfl (pc0 := 204) (pc' := 208) rfl (hb hby at_204) (by decide) (by decide) k) ?_
        have jw47 : j208_s0 = ((1 : Int32) : Int32) := qj208_s0.trans ((if_neg hc185).trans (if_pos hc190))
        rw [jw47] at k45
        exact k45 T37 _ X37 N37 e37
      · refine own_of (S' := T37.setTop (mkF m 193 #[.val (.int asz), .val (.int ae), .val (.int ah), .val (.long aa), .second, .val (.long ab), .second, .val (.int af), .val (.int x4), .val (.int j31_s0), .val (.int x46), .val (.int j60_s0), .val (.long x65), .second, .val (.long x77), .second, .val (.long j114_l16), .second, .val (.long j114_l18), .second, .val (.long r118), .second, .val (.long r127), .second, .val (.int j155_s0), .val (.int j178_s0), .unset] [])) (fun t k => XS.ifNo X37.here hx rfl (hb hby at_190) rfl ((if0 _ _).trans (feq hc190).1) k) ?_
        refine own_of (S' := T37.setTop (mkF m 195 #[.val (.int asz), .val (.int ae), .val (.int ah), .val (.long aa), .second, .val (.long ab), .second, .val (.int af), .val (.int x4), .val (.int j31_s0), .val (.int x46), .val (.int j60_s0), .val (.long x65), .second, .val (.long x77), .second, .val (.long j114_l16), .second, .val (.long j114_l18), .second, .val (.long r118), .second, .val (.long r127), .second, .val (.int j155_s0), .val (.int j178_s0), .unset] [(.int j60_s0)])) (fun t k => XS.iload X37.here hx rfl (hb hby at_193) rfl k) ?_
        by_cases hc195 : j60_s0 = (0 : Int32)
        · refine own_of (S' := T37.setTop (mkF m 198 #[.val (.int asz), .val (.int ae), .val (.int ah), .val (.long aa), .second, .val (.long ab), .second, .val (.int af), .val (.int x4), .val (.int j31_s0), .val (.int x46), .val (.int j60_s0), .val (.long x65), .second, .val (.long x77), .second, .val (.long j114_l16), .second, .val (.long j114_l18), .second, .val (.long r118), .second, .val (.long r127), .second, .val (.int j155_s0), .val (.int j178_s0), .unset] [])) (fun t k => XS.ifNo X37.here hx rfl (hb hby at_195) rfl ((if0 _ _).trans (teq hc195).2) k) ?_
          refine own_of (S' := T37.setTop (mkF m 200 #[.val (.int asz), .val (.int ae), .val (.int ah), .val (.long aa), .second, .val (.long ab), .second, .val (.int af), .val (.int x4), .val (.int j31_s0), .val (.int x46), .val (.int j60_s0), .val (.long x65), .second, .val (.long x77), .second, .val (.long j114_l16), .second, .val (.long j114_l18), .second, .val (.long r118), .second, .val (.long r127), .second, .val (.int j155_s0), .val (.int j178_s0), .unset] [(.int j178_s0)])) (fun t k => XS.iload X37.here hx rfl (hb hby at_198) rfl k) ?_
          by_cases hc200 : j178_s0 = (0 : Int32)
          · refine own_of (S' := T37.setTop (mkF m 203 #[.val (.int asz), .val (.int ae), .val (.int ah), .val (.long aa), .second, .val (.long ab), .second, .val (.int af), .val (.int x4), .val (.int j31_s0), .val (.int x46), .val (.int j60_s0), .val (.long x65), .second, .val (.long x77), .second, .val (.long j114_l16), .second, .val (.long j114_l18), .second, .val (.long r118), .second, .val (.long r127), .second, .val (.int j155_s0), .val (.int j178_s0), .unset] [])) (fun t k => XS.ifNo X37.here hx rfl (hb hby at_200) rfl ((if0 _ _).trans (teq hc200).2) k) ?_
            refine own_of (S' := T37.setTop (mkF m 204 #[.val (.int asz), .val (.int ae), .val (.int ah), .val (.long aa), .second, .val (.long ab), .second, .val (.int af), .val (.int x4), .val (.int j31_s0), .val (.int x46), .val (.int j60_s0), .val (.long x65), .second, .val (.long x77), .second, .val (.long j114_l16), .second, .val (.long j114_l18), .second, .val (.long r118), .second, .val (.long r127), .second, .val (.int j155_s0), .val (.int j178_s0), .unset] [(.int (1 : Int32))])) (fun t k => XS.iconst X37.here hx rfl (hb hby at_203) k) ?_
            refine own_of (S' := T37.setTop (mkF m 208 #[.val (.int asz), .val (.int ae), .val (.int ah), .val (.long aa), .second, .val (.long ab), .second, .val (.int af), .val (.int x4), .val (.int j31_s0), .val (.int x46), .val (.int j60_s0), .val (.long x65), .second, .val (.long x77), .second, .val (.long j114_l16), .second, .val (.long j114_l18), .second, .val (.long r118), .second, .val (.long r127), .second, .val (.int j155_s0), .val (.int j178_s0), .unset] [(.int (1 : Int32))])) (fun t k => XS.goto X37.here hx rfl (pc0 := 204) (pc' := 208) rfl (hb hby at_204) (by decide) (by decide) k) ?_
            have jw48 : j208_s0 = ((1 : Int32) : Int32) := qj208_s0.trans ((if_neg hc185).trans ((if_neg hc190).trans ((if_pos hc195).trans (if_pos hc200))))
            rw [jw48] at k45
            exact k45 T37 _ X37 N37 e37
          · refine own_of (S' := T37.setTop (mkF m 207 #[.val (.int asz), .val (.int ae), .val (.int ah), .val (.long aa), .second, .val (.long ab), .second, .val (.int af), .val (.int x4), .val (.int j31_s0), .val (.int x46), .val (.int j60_s0), .val (.long x65), .second, .val (.long x77), .second, .val (.long j114_l16), .second, .val (.long j114_l18), .second, .val (.long r118), .second, .val (.long r127), .second, .val (.int j155_s0), .val (.int j178_s0), .unset] [])) (fun t k => XS.ifYes X37.here hx rfl (pc0 := 200) (pc' := 207) rfl (hb hby at_200) rfl ((if0 _ _).trans (feq hc200).2) (by decide) (by decide) k) ?_
            refine own_of (S' := T37.setTop (mkF m 208 #[.val (.int asz), .val (.int ae), .val (.int ah), .val (.long aa), .second, .val (.long ab), .second, .val (.int af), .val (.int x4), .val (.int j31_s0), .val (.int x46), .val (.int j60_s0), .val (.long x65), .second, .val (.long x77), .second, .val (.long j114_l16), .second, .val (.long j114_l18), .second, .val (.long r118), .second, .val (.long r127), .second, .val (.int j155_s0), .val (.int j178_s0), .unset] [(.int (0 : Int32))])) (fun t k => XS.iconst X37.here hx rfl (hb hby at_207) k) ?_
            have jw49 : j208_s0 = ((0 : Int32) : Int32) := qj208_s0.trans ((if_neg hc185).trans ((if_neg hc190).trans ((if_pos hc195).trans (if_neg hc200))))
            rw [jw49] at k45
            exact k45 T37 _ X37 N37 e37
        · refine own_of (S' := T37.setTop (mkF m 207 #[.val (.int asz), .val (.int ae), .val (.int ah), .val (.long aa), .second, .val (.long ab), .second, .val (.int af), .val (.int x4), .val (.int j31_s0), .val (.int x46), .val (.int j60_s0), .val (.long x65), .second, .val (.long x77), .second, .val (.long j114_l16), .second, .val (.long j114_l18), .second, .val (.long r118), .second, .val (.long r127), .second, .val (.int j155_s0), .val (.int j178_s0), .unset] [])) (fun t k => XS.ifYes X37.here hx rfl (pc0 := 195) (pc' := 207) rfl (hb hby at_195) rfl ((if0 _ _).trans (feq hc195).2) (by decide) (by decide) k) ?_
          refine own_of (S' := T37.setTop (mkF m 208 #[.val (.int asz), .val (.int ae), .val (.int ah), .val (.long aa), .second, .val (.long ab), .second, .val (.int af), .val (.int x4), .val (.int j31_s0), .val (.int x46), .val (.int j60_s0), .val (.long x65), .second, .val (.long x77), .second, .val (.long j114_l16), .second, .val (.long j114_l18), .second, .val (.long r118), .second, .val (.long r127), .second, .val (.int j155_s0), .val (.int j178_s0), .unset] [(.int (0 : Int32))])) (fun t k => XS.iconst X37.here hx rfl (hb hby at_207) k) ?_
          have jw50 : j208_s0 = ((0 : Int32) : Int32) := qj208_s0.trans ((if_neg hc185).trans ((if_neg hc190).trans (if_neg hc195)))
          rw [jw50] at k45
          exact k45 T37 _ X37 N37 e37
  intro T45 locs45 X45 N45 e45
  refine own_of (S' := T45.setTop (mkF m 210 #[.val (.int asz), .val (.int ae), .val (.int ah), .val (.long aa), .second, .val (.long ab), .second, .val (.int af), .val (.int x4), .val (.int j31_s0), .val (.int x46), .val (.int j60_s0), .val (.long x65), .second, .val (.long x77), .second, .val (.long j114_l16), .second, .val (.long j114_l18), .second, .val (.long r118), .second, .val (.long r127), .second, .val (.int j155_s0), .val (.int j178_s0), .val (.int j208_s0)] [])) (fun t k => XS.istore X45.here hx rfl (hb hby at_208) rfl (l' := #[.val (.int asz), .val (.int ae), .val (.int ah), .val (.long aa), .second, .val (.long ab), .second, .val (.int af), .val (.int x4), .val (.int j31_s0), .val (.int x46), .val (.int j60_s0), .val (.long x65), .second, .val (.long x77), .second, .val (.long j114_l16), .second, .val (.long j114_l18), .second, .val (.long r118), .second, .val (.long r127), .second, .val (.int j155_s0), .val (.int j178_s0), .val (.int j208_s0)]) rfl k) ?_
  refine own_of (S' := T45.setTop (mkF m 212 #[.val (.int asz), .val (.int ae), .val (.int ah), .val (.long aa), .second, .val (.long ab), .second, .val (.int af), .val (.int x4), .val (.int j31_s0), .val (.int x46), .val (.int j60_s0), .val (.long x65), .second, .val (.long x77), .second, .val (.long j114_l16), .second, .val (.long j114_l18), .second, .val (.long r118), .second, .val (.long r127), .second, .val (.int j155_s0), .val (.int j178_s0), .val (.int j208_s0)] [(.int x4)])) (fun t k => XS.iload X45.here hx rfl (hb hby at_210) rfl k) ?_
  refine own_of (S' := T45.setTop (mkF m 214 #[.val (.int asz), .val (.int ae), .val (.int ah), .val (.long aa), .second, .val (.long ab), .second, .val (.int af), .val (.int x4), .val (.int j31_s0), .val (.int x46), .val (.int j60_s0), .val (.long x65), .second, .val (.long x77), .second, .val (.long j114_l16), .second, .val (.long j114_l18), .second, .val (.long r118), .second, .val (.long r127), .second, .val (.int j155_s0), .val (.int j178_s0), .val (.int j208_s0)] [(.long r118), (.int x4)])) (fun t k => XS.lload X45.here hx rfl (hb hby at_212) rfl k) ?_
  refine own_of (S' := T45.setTop (mkF m 216 #[.val (.int asz), .val (.int ae), .val (.int ah), .val (.long aa), .second, .val (.long ab), .second, .val (.int af), .val (.int x4), .val (.int j31_s0), .val (.int x46), .val (.int j60_s0), .val (.long x65), .second, .val (.long x77), .second, .val (.long j114_l16), .second, .val (.long j114_l18), .second, .val (.long r118), .second, .val (.long r127), .second, .val (.int j155_s0), .val (.int j178_s0), .val (.int j208_s0)] [(.long r127), (.long r118), (.int x4)])) (fun t k => XS.lload X45.here hx rfl (hb hby at_214) rfl k) ?_
  refine own_of (S' := T45.setTop (mkF m 218 #[.val (.int asz), .val (.int ae), .val (.int ah), .val (.long aa), .second, .val (.long ab), .second, .val (.int af), .val (.int x4), .val (.int j31_s0), .val (.int x46), .val (.int j60_s0), .val (.long x65), .second, .val (.long x77), .second, .val (.long j114_l16), .second, .val (.long j114_l18), .second, .val (.long r118), .second, .val (.long r127), .second, .val (.int j155_s0), .val (.int j178_s0), .val (.int j208_s0)] [(.int j31_s0), (.long r127), (.long r118), (.int x4)])) (fun t k => XS.iload X45.here hx rfl (hb hby at_216) rfl k) ?_
  refine own_of (S' := T45.setTop (mkF m 220 #[.val (.int asz), .val (.int ae), .val (.int ah), .val (.long aa), .second, .val (.long ab), .second, .val (.int af), .val (.int x4), .val (.int j31_s0), .val (.int x46), .val (.int j60_s0), .val (.long x65), .second, .val (.long x77), .second, .val (.long j114_l16), .second, .val (.long j114_l18), .second, .val (.long r118), .second, .val (.long r127), .second, .val (.int j155_s0), .val (.int j178_s0), .val (.int j208_s0)] [(.int x46), (.int j31_s0), (.long r127), (.long r118), (.int x4)])) (fun t k => XS.iload X45.here hx rfl (hb hby at_218) rfl k) ?_
  refine own_of (S' := T45.setTop (mkF m 222 #[.val (.int asz), .val (.int ae), .val (.int ah), .val (.long aa), .second, .val (.long ab), .second, .val (.int af), .val (.int x4), .val (.int j31_s0), .val (.int x46), .val (.int j60_s0), .val (.long x65), .second, .val (.long x77), .second, .val (.long j114_l16), .second, .val (.long j114_l18), .second, .val (.long r118), .second, .val (.long r127), .second, .val (.int j155_s0), .val (.int j178_s0), .val (.int j208_s0)] [(.int j60_s0), (.int x46), (.int j31_s0), (.long r127), (.long r118), (.int x4)])) (fun t k => XS.iload X45.here hx rfl (hb hby at_220) rfl k) ?_
  obtain ⟨_, _, ⟨T51, L51, k51, n51⟩, -, X51, ⟨Lc51, hQ51, l51, y51, z51⟩, st51⟩ := Jvm.LawKit.callS X45 hx (y := (⟨"com/example/libjtree/libjtree/schema/BranchApplicator", "decides", "(IJJIIZ)Z"⟩ : MethodName)) hown (mvT hZ (hw _ (List.mem_of_getElem? (i := 9) rfl))) (mvT hZ (hw _ (List.mem_of_getElem? (i := 10) rfl))) (mvT hZ (hw _ (List.mem_of_getElem? (i := 11) rfl))) (mvT hZ (hw _ (List.mem_of_getElem? (i := 12) rfl))) (by decide) (backOf (W := 0) (own_rm3 l Z _ hw [] x4 r118 r127 j31_s0 x46 j60_s0 h0 n0 ) hZ (hw _ (List.mem_of_getElem? (i := 12) rfl)) (hw _ (List.mem_of_getElem? (i := 11) rfl)) (by decide) (by decide)) (g := (mkF m 222 #[.val (.int asz), .val (.int ae), .val (.int ah), .val (.long aa), .second, .val (.long ab), .second, .val (.int af), .val (.int x4), .val (.int j31_s0), .val (.int x46), .val (.int j60_s0), .val (.long x65), .second, .val (.long x77), .second, .val (.long j114_l16), .second, .val (.long j114_l18), .second, .val (.long r118), .second, .val (.long r127), .second, .val (.int j155_s0), .val (.int j178_s0), .val (.int j208_s0)] [(.int j60_s0), (.int x46), (.int j31_s0), (.long r127), (.long r118), (.int x4)])) rfl (by rw [hml]; rfl) (argsL := [(.int x4), (.long r118), (.long r127), (.int j31_s0), (.int x46), (.int j60_s0)]) (rest := []) (lenOf own_pd1 rfl) rfl (by show 2 * 0 + _ ≤ _; exact Nat.le_of_eq rfl) (hb hby at_222) (fun _ _ => ⟨rfl, e45, (by decide : 0 + 0 ≤ _), (by decide : 0 + 0 ≤ _)⟩)
  dsimp only [Pt.U, Pt.locs, Pt.cells, Pt.slots] at X51 l51 y51 z51 st51 hQ51
  subst l51 y51 z51
  obtain ⟨rfl, M51, eh51⟩ := hQ51
  have N51 := Fr.app N45 M51
  refine own_of (S' := T51.setTop (mkF m 225 #[.val (.int asz), .val (.int ae), .val (.int ah), .val (.long aa), .second, .val (.long ab), .second, .val (.int af), .val (.int x4), .val (.int j31_s0), .val (.int x46), .val (.int j60_s0), .val (.long x65), .second, .val (.long x77), .second, .val (.long j114_l16), .second, .val (.long j114_l18), .second, .val (.long r118), .second, .val (.long r127), .second, .val (.int j155_s0), .val (.int j178_s0), .val (.int j208_s0)] [(.int (own_dec x4 r118 r127 j31_s0 x46 j60_s0))])) (fun t k => st51 _ k) ?_
  generalize q222 : (own_dec x4 r118 r127 j31_s0 x46 j60_s0) = r222
  refine own_of (S' := T51.setTop (mkF m 227 #[.val (.int asz), .val (.int ae), .val (.int ah), .val (.long aa), .second, .val (.long ab), .second, .val (.int af), .val (.int x4), .val (.int j31_s0), .val (.int x46), .val (.int j60_s0), .val (.long x65), .second, .val (.long x77), .second, .val (.long j114_l16), .second, .val (.long j114_l18), .second, .val (.long r118), .second, .val (.long r127), .second, .val (.int j155_s0), .val (.int j178_s0), .val (.int j208_s0)] [(.int j208_s0), (.int r222)])) (fun t k => XS.iload X51.here hx rfl (hb hby at_225) rfl k) ?_
  have hc227 : r222 = j208_s0 := by rw [← q222, qj208_s0, qj178_s0, qj155_s0, ← q143, ← q136, ← q127, ← q118, ← q77, ← q65]; exact own_key (own_evb (own_msk q4) qj31_s0) (own_heb (own_evb (own_msk q4) qj31_s0).1 q46)
  refine own_of (S' := T51.setTop (mkF m 230 #[.val (.int asz), .val (.int ae), .val (.int ah), .val (.long aa), .second, .val (.long ab), .second, .val (.int af), .val (.int x4), .val (.int j31_s0), .val (.int x46), .val (.int j60_s0), .val (.long x65), .second, .val (.long x77), .second, .val (.long j114_l16), .second, .val (.long j114_l18), .second, .val (.long r118), .second, .val (.long r127), .second, .val (.int j155_s0), .val (.int j178_s0), .val (.int j208_s0)] [])) (fun t k => XS.icmpNo X51.here hx rfl (hb hby at_227) rfl (teq hc227).2 k) ?_
  refine own_of (S' := T51.setTop (mkF m 231 #[.val (.int asz), .val (.int ae), .val (.int ah), .val (.long aa), .second, .val (.long ab), .second, .val (.int af), .val (.int x4), .val (.int j31_s0), .val (.int x46), .val (.int j60_s0), .val (.long x65), .second, .val (.long x77), .second, .val (.long j114_l16), .second, .val (.long j114_l18), .second, .val (.long r118), .second, .val (.long r127), .second, .val (.int j155_s0), .val (.int j178_s0), .val (.int j208_s0)] [(.int (1 : Int32))])) (fun t k => XS.iconst X51.here hx rfl (hb hby at_230) k) ?_
  refine own_of (S' := T51.setTop (mkF m 235 #[.val (.int asz), .val (.int ae), .val (.int ah), .val (.long aa), .second, .val (.long ab), .second, .val (.int af), .val (.int x4), .val (.int j31_s0), .val (.int x46), .val (.int j60_s0), .val (.long x65), .second, .val (.long x77), .second, .val (.long j114_l16), .second, .val (.long j114_l18), .second, .val (.long r118), .second, .val (.long r127), .second, .val (.int j155_s0), .val (.int j178_s0), .val (.int j208_s0)] [(.int (1 : Int32))])) (fun t k => XS.goto X51.here hx rfl (pc0 := 231) (pc' := 235) rfl (hb hby at_231) (by decide) (by decide) k) ?_
  obtain ⟨fs, hr, hrun, hended, hW, hsame⟩ := X51.leave (v := some (.int (nar .boolean (1 : Int32)))) (fun h => by rw [Bd.returns] at h; cases h)
  refine ⟨_, _, retN X51 hx (t := .boolean) Bd.returns (by simp) (hb hby at_235) hr, hrun, hended, hG _ _ ⟨_, _, rfl, ?_, ⟨_, rfl⟩, hW, hsame.mono (by decide) (by decide)⟩⟩
  show own_Q0 Z asz ae ah aa ab af h0 n0 _ T51.heap _
  rw [eh51]
  exact ⟨rfl, N51⟩
set_option maxRecDepth 65536 in
set_option maxHeartbeats 40000000 in
theorem own_comes {Post : Tables → Env → Array Value → State → Outcome → State → Prop} (hpost : ∀ tb e args s v u, (limb_1_1.after args s (.returned v) u = true ∧ limb_1_2.after args s (.returned v) u = true ∧ True) → FrameEnd s (.returned v) u (Jvm.fieldLocs frame_1_writes args s ++ Jvm.arrayLocs frame_1_arrays args s ++ Jvm.staticLocs frame_1_statics s) 0 0 → Post tb e args s (.returned v) u) :
    ArmFor flags0 classFile x code maxLocals ret World_1 tables_1 room_1 Calls_1 rest_1 Pre_1 Post := by
  intro l hfl _ _ p e ha hc hk s m args below hf hA hF happ hP
  obtain ⟨hcalls, hrest, hpre⟩ := hP
  obtain ⟨-, -, -, hnamed, -, -, -, hat⟩ := (Spec.applies_iff hf).mp happ
  obtain ⟨hg, hn⟩ := and_e (Cond.before_iff.mp (show (Jvm.Cond.and given_1 narrow_1).before args s = true from hpre))
  obtain ⟨hcount, hg0⟩ := and_e hg
  obtain ⟨ha0, hg1⟩ := and_e hg0
  obtain ⟨ha1, hg2⟩ := and_e hg1
  obtain ⟨ha2, hg3⟩ := and_e hg2
  obtain ⟨ha3, hg4⟩ := and_e hg3
  obtain ⟨ha4, hg5⟩ := and_e hg4
  obtain ⟨w0, w1, w2, w3, w4, w5, rfl⟩ : ∃ w0 w1 w2 w3 w4 w5 : Value, args = #[w0, w1, w2, w3, w4, w5] := by
    have hs : args.size = 6 := by simpa [Cond.value, given_1] using hcount
    obtain ⟨L⟩ := args
    match L, hs with
    | [w0, w1, w2, w3, w4, w5], _ => exact ⟨w0, w1, w2, w3, w4, w5, rfl⟩
  have hw := fun d (hd : d ∈ tables_1) => atoms_spec (ws := Jvm.Cond.code x code maxLocals ret :: tables_1) hat d (List.mem_cons_of_mem _ hd)
  obtain ⟨i0, ei0⟩ := is_v ha0
  obtain rfl : w0 = (.int i0) := Option.some.inj ei0
  obtain ⟨i1, ei1⟩ := is_v ha1
  obtain rfl : w1 = (.int i1) := Option.some.inj ei1
  obtain ⟨i2, ei2⟩ := is_v ha2
  obtain rfl : w2 = (.int i2) := Option.some.inj ei2
  obtain ⟨i3, ei3⟩ := isL_v ha3
  obtain rfl : w3 = (.long i3) := Option.some.inj ei3
  obtain ⟨i4, ei4⟩ := isL_v ha4
  obtain rfl : w4 = (.long i4) := Option.some.inj ei4
  obtain ⟨i5, ei5⟩ := is_v hg5
  obtain rfl : w5 = (.int i5) := Option.some.inj ei5
  obtain ⟨n, o, h1, h2, h3, _, L, rfl, ⟨rfl, N⟩, hq⟩ := own_rm0 l s _ hw tables_1 i0 i1 i2 i3 i4 i5 s.heap s.heap.size (Nat.le_refl _) p e ha hc hk s m _ below hf ((Spec.applies_iff_loose hf).mp happ).1 ⟨rfl, State.Warmed39.refl s, rfl⟩ trivial
  exact ⟨n, _, h1, h2, h3, hpost _ _ _ _ _ _ ⟨Cond.after_iff.mpr rfl, Cond.after_iff.mpr (eq_i res_at (Term.int_eval (1)) rfl), trivial⟩ ⟨hq.1, hq.2.1, (hq.2.2.sift fun y hy => Or.inr (N y hy)).mono (by decide) (by decide)⟩⟩
theorem main_1_1 : Claimed_1_1 := own_comes fun _ _ _ _ _ _ h hF => ⟨h.1, hF⟩
theorem main_1_2 : Claimed_1_2 := own_comes fun _ _ _ _ _ _ h hF => ⟨h.2.1, hF⟩
end Jvm.Pilot.@@N@@
namespace Jvm.Pilot.@@N@@
open Jvm Jvm.ClassFile Sem Op Lib Jvm.Free Jvm.Stand Jvm.Pilot.@@N@@.Jvm.D
/-! MADE BY PROGRAM (witnessworld.py) out of the Statement's table words and the real class files: 11 classes; the members and pool entries that the words name. The judged class is class 1, her method 1. -/
namespace start1
open Jvm.ClassFile
def u (s : String) : CpInfo := .utf8 (stringToUtf16 s)
/-- a pool by its gaps: so many unusable entries, then the entry; so many at the end -/
def gap : Nat → List CpInfo → List CpInfo
  | 0, r => r
  | n + 1, r => .unusable :: gap n r
def poolList (es : List (Nat × CpInfo)) (last : Nat) : List CpInfo := es.foldr (fun e r => gap e.1 (e.2 :: r)) (gap last [])
def pool (es : List (Nat × CpInfo)) (last : Nat) : Array CpInfo := ⟨poolList es last⟩
def fileOf (pool : Array CpInfo) (this : Nat) (attrs : Array Attribute := #[]) (ms : Array MethodInfo := #[]) (fl : Nat := 33) (sup : Nat := 0) (ifs : Array Nat := #[]) (fds : Array FieldInfo := #[]) : ClassFile where
  minorVersion := 0
  majorVersion := 65
  constantPool := pool
  accessFlags := fl
  thisClass := this
  superClass := sup
  interfaces := ifs
  fields := fds
  methods := ms
  attributes := attrs
def plain (name : String) (sup : Option ClassId) : Class where
  name := name
  kind := .ordinary
  loader := none
  accessFlags := 33
  super := sup
  interfaces := #[]
  cf := none
  fields := #[]
  methods := #[]
  instanceTypes := #[]
  staticTypes := #[]
  resolved := #[]
  callSites := []
  init := .initialized
  statics := none
  mirror := none

def pool0 : Array CpInfo := pool [(5, u "<init>"), (0, u "()V"), (1, .class_ 10), (1, u "java/lang/Object")] 113

def k0m0 : Method := { name := "<init>", desc := "()V", sig := { parameters := [], returnType := none }, accessFlags := 1, code := none }
/-- java/lang/Object -/
def k0 : Class := { plain "java/lang/Object" none with
  accessFlags := 33
  interfaces := #[]
  cf := some (fileOf pool0 8 #[] #[{ accessFlags := 1, nameIndex := 5, descriptorIndex := 6, attributes := #[] }] 33 0 #[] #[])
  fields := #[]
  methods := #[k0m0]
  instanceTypes := #[]
  staticTypes := #[]
  resolved := Array.replicate 124 none
  statics := none }

def pool1 : Array CpInfo := pool [(2, .class_ 4), (1, u "java/lang/Object"), (0, u "<init>"), (0, u "()V"), (0, .integer 2147483647), (0, .long 2147483647), (1, .long 4), (1, .methodref 13 14), (0, .class_ 15), (0, .nameAndType 16 17), (0, u "java/lang/Math"), (0, u "min"), (0, u "(JJ)J"), (0, .methodref 13 19), (0, .nameAndType 20 17), (0, u "max"), (0, .methodref 22 23), (0, .class_ 24), (0, .nameAndType 25 26), (0, u "com/example/libjtree/libjtree/schema/BranchApplicator"), (0, u "decides"), (0, u "(IJJIIZ)Z"), (0, .class_ 28), (0, u "com/example/libjtree/libjtree/schema/BranchApplicatorDecidesPinLaw"), (2, u "law"), (0, u "(IIIJJI)Z")] 3

def k1m0 : Method := { name := "<init>", desc := "()V", sig := { parameters := [], returnType := none }, accessFlags := 1, code := none }
def k1c1 : Code := { maxStack := 8, maxLocals := 27, code := code, exceptionTable := #[], attributes := #[] }
def k1m1 : Method := { name := "law", desc := "(IIIJJI)Z", sig := { parameters := [.int, .int, .int, .long, .long, .int], returnType := some .boolean }, accessFlags := 9, code := some k1c1 }
/-- com/example/libjtree/libjtree/schema/BranchApplicatorDecidesPinLaw -/
def k1 : Class := { plain "com/example/libjtree/libjtree/schema/BranchApplicatorDecidesPinLaw" (some 0) with
  accessFlags := 49
  interfaces := #[]
  cf := some (fileOf pool1 27 #[] #[{ accessFlags := 1, nameIndex := 5, descriptorIndex := 6, attributes := #[] }, { accessFlags := 9, nameIndex := 31, descriptorIndex := 32, attributes := #[] }] 49 2 #[] #[])
  fields := #[]
  methods := #[k1m0, k1m1]
  instanceTypes := #[]
  staticTypes := #[]
  resolved := Array.replicate 36 none
  statics := none }

def pool2 : Array CpInfo := pool [(1, .class_ 2), (0, u "java/lang/Math"), (1, .class_ 6), (1, u "java/lang/Object"), (0, u "<init>"), (0, u "()V"), (89, .class_ 100), (1, u "java/lang/Math$RandomNumberGeneratorHolder"), (20, u "(JJ)J"), (50, u "negativeZeroFloatBits"), (0, u "J"), (2, u "negativeZeroDoubleBits"), (21, u "max"), (2, u "min"), (43, u "$assertionsDisabled"), (0, u "Z"), (91, u "twoToTheDoubleScaleDown"), (0, u "D"), (4, u "twoToTheDoubleScaleUp"), (9, u "E"), (3, u "PI"), (2, u "TAU"), (2, u "DEGREES_TO_RADIANS"), (0, u "RADIANS_TO_DEGREES")] 94

def k2m0 : Method := { name := "<init>", desc := "()V", sig := { parameters := [], returnType := none }, accessFlags := 2, code := none }
def k2c1 : Code := { maxStack := 4, maxLocals := 4, code := jdk_29_method_66_code, exceptionTable := #[], attributes := #[] }
def k2m1 : Method := { name := "max", desc := "(JJ)J", sig := { parameters := [.long, .long], returnType := some .long }, accessFlags := 9, code := some k2c1 }
def k2c2 : Code := { maxStack := 4, maxLocals := 4, code := jdk_29_method_70_code, exceptionTable := #[], attributes := #[] }
def k2m2 : Method := { name := "min", desc := "(JJ)J", sig := { parameters := [.long, .long], returnType := some .long }, accessFlags := 9, code := some k2c2 }
/-- java/lang/Math -/
def k2 : Class := { plain "java/lang/Math" (some 0) with
  accessFlags := 49
  interfaces := #[]
  cf := some (fileOf pool2 1 #[.nestMembers #[98]] #[{ accessFlags := 2, nameIndex := 7, descriptorIndex := 8, attributes := #[] }, { accessFlags := 9, nameIndex := 198, descriptorIndex := 121, attributes := #[] }, { accessFlags := 9, nameIndex := 201, descriptorIndex := 121, attributes := #[] }] 49 4 #[] #[{ accessFlags := 25, nameIndex := 354, descriptorIndex := 339, attributes := #[] }, { accessFlags := 25, nameIndex := 358, descriptorIndex := 339, attributes := #[] }, { accessFlags := 25, nameIndex := 361, descriptorIndex := 339, attributes := #[] }, { accessFlags := 26, nameIndex := 364, descriptorIndex := 339, attributes := #[] }, { accessFlags := 26, nameIndex := 365, descriptorIndex := 339, attributes := #[] }, { accessFlags := 26, nameIndex := 172, descriptorIndex := 173, attributes := #[] }, { accessFlags := 26, nameIndex := 176, descriptorIndex := 173, attributes := #[] }, { accessFlags := 8, nameIndex := 344, descriptorIndex := 339, attributes := #[] }, { accessFlags := 8, nameIndex := 338, descriptorIndex := 339, attributes := #[] }, { accessFlags := 4120, nameIndex := 245, descriptorIndex := 246, attributes := #[] }])
  fields := #[{ name := "E", type := .double, accessFlags := 25, slot := 0, constantValue := 0 }, { name := "PI", type := .double, accessFlags := 25, slot := 1, constantValue := 0 }, { name := "TAU", type := .double, accessFlags := 25, slot := 2, constantValue := 0 }, { name := "DEGREES_TO_RADIANS", type := .double, accessFlags := 26, slot := 3, constantValue := 0 }, { name := "RADIANS_TO_DEGREES", type := .double, accessFlags := 26, slot := 4, constantValue := 0 }, { name := "negativeZeroFloatBits", type := .long, accessFlags := 26, slot := 5, constantValue := 0 }, { name := "negativeZeroDoubleBits", type := .long, accessFlags := 26, slot := 6, constantValue := 0 }, { name := "twoToTheDoubleScaleUp", type := .double, accessFlags := 8, slot := 7, constantValue := 0 }, { name := "twoToTheDoubleScaleDown", type := .double, accessFlags := 8, slot := 8, constantValue := 0 }, { name := "$assertionsDisabled", type := .boolean, accessFlags := 4120, slot := 9, constantValue := 0 }]
  methods := #[k2m0, k2m1, k2m2]
  instanceTypes := #[]
  staticTypes := #[.double, .double, .double, .double, .double, .long, .long, .double, .double, .boolean]
  resolved := Array.replicate 460 none
  statics := none }

def pool3 : Array CpInfo := pool [(1, .class_ 2), (0, u "com/example/libjtree/libjtree/schema/Applicator"), (0, .class_ 4), (0, u "java/lang/Object")] 8

/-- com/example/libjtree/libjtree/schema/Applicator -/
def k3 : Class := { plain "com/example/libjtree/libjtree/schema/Applicator" (some 0) with
  accessFlags := 1536
  interfaces := #[]
  cf := some (fileOf pool3 1 #[] #[] 1536 3 #[] #[])
  fields := #[]
  methods := #[]
  instanceTypes := #[]
  staticTypes := #[]
  resolved := Array.replicate 13 none
  statics := none }

def pool4 : Array CpInfo := pool [(2, .class_ 4), (1, u "java/lang/Object"), (3, .class_ 10), (1, u "com/example/libjtree/libjtree/schema/BranchApplicator"), (0, u "branches"), (0, u "Ljava/util/List;"), (2, u "most"), (0, u "I"), (11, u "decides"), (0, u "(IJJIIZ)Z"), (5, .class_ 36), (0, u "com/example/libjtree/libjtree/schema/Applicator")] 21

def k4c0 : Code := { maxStack := 4, maxLocals := 9, code := prog_100_method_6_code, exceptionTable := #[], attributes := #[] }
def k4m0 : Method := { name := "decides", desc := "(IJJIIZ)Z", sig := { parameters := [.int, .long, .long, .int, .int, .boolean], returnType := some .boolean }, accessFlags := 8, code := some k4c0 }
/-- com/example/libjtree/libjtree/schema/BranchApplicator -/
def k4 : Class := { plain "com/example/libjtree/libjtree/schema/BranchApplicator" (some 0) with
  accessFlags := 32
  interfaces := #[3]
  cf := some (fileOf pool4 8 #[] #[{ accessFlags := 8, nameIndex := 28, descriptorIndex := 29, attributes := #[] }] 32 2 #[35] #[{ accessFlags := 18, nameIndex := 11, descriptorIndex := 12, attributes := #[] }, { accessFlags := 18, nameIndex := 15, descriptorIndex := 16, attributes := #[] }])
  fields := #[{ name := "branches", type := (.object "java/util/List"), accessFlags := 18, slot := 0, constantValue := 0 }, { name := "most", type := .int, accessFlags := 18, slot := 1, constantValue := 0 }]
  methods := #[k4m0]
  instanceTypes := #[(.object "java/util/List"), .int]
  staticTypes := #[]
  resolved := Array.replicate 58 none
  statics := none }

def pool5 : Array CpInfo := pool [(1, u "java/lang/Cloneable"), (0, .class_ 1), (0, u "java/lang/Object"), (0, .class_ 3)] 3

/-- java/lang/Cloneable -/
def k5 : Class := { plain "java/lang/Cloneable" (some 0) with
  accessFlags := 1537
  interfaces := #[]
  cf := some (fileOf pool5 2 #[] #[] 1537 4 #[] #[])
  fields := #[]
  methods := #[]
  instanceTypes := #[]
  staticTypes := #[]
  resolved := Array.replicate 8 none
  statics := none }

def pool6 : Array CpInfo := pool [(1, u "java/io/Serializable"), (0, .class_ 1), (0, u "java/lang/Object"), (0, .class_ 3)] 3

/-- java/io/Serializable -/
def k6 : Class := { plain "java/io/Serializable" (some 0) with
  accessFlags := 1537
  interfaces := #[]
  cf := some (fileOf pool6 2 #[] #[] 1537 4 #[] #[])
  fields := #[]
  methods := #[]
  instanceTypes := #[]
  staticTypes := #[]
  resolved := Array.replicate 8 none
  statics := none }

/-- the primitive byte -/
def k7 : Class := { plain "byte" none with kind := .primitive 'B', accessFlags := 0x411 }
/-- [B -/
def k8 : Class := { plain "[B" (some 0) with kind := .array 7 .byte, interfaces := #[5, 6], accessFlags := 1041 }

/-- the primitive int -/
def k9 : Class := { plain "int" none with kind := .primitive 'I', accessFlags := 0x411 }
/-- [I -/
def k10 : Class := { plain "[I" (some 0) with kind := .array 9 .int, interfaces := #[5, 6], accessFlags := 1041 }

def heap : Heap := #[]
def classes : Array Class := #[k0, k1, k2, k3, k4, k5, k6, k7, k8, k9, k10]
def interned : List (Array UInt16 × Addr) := []
def slotsUsed : Nat := 0
def theMethod : MethodId := ⟨1, 1⟩
def args0 : Array Value := #[.int 5, .int 7, .int 2, .long 9, .long 1, .int 3]
def aboutOver (below : List Frame) : State where
  vm := { classes := classes, interned := interned.toArray }
  heap := heap
  slotsUsed := slotsUsed
  threads := #[{ frames := .invoking theMethod args0 :: below }]
def below0 : List Frame := [.native { method := ⟨0, 0⟩, args := #[] }]
def about1 : State := aboutOver below0
def p0 : Program := .bare "" "" ""
def e0 : Env := launch0.env 0 0 0
theorem w_frames : about1.frames = Frame.invoking theMethod args0 :: below0 := rfl
set_option maxRecDepth 65536 in
theorem w_args : argsFit about1.vm theMethod args0 = true := by decide +kernel
set_option maxRecDepth 65536 in
theorem w_heap : heapFits about1 = true := by decide +kernel
set_option maxRecDepth 65536 in
theorem w_runnable : about1.curStatus? = some .runnable := by decide +kernel
set_option maxRecDepth 65536 in
theorem w_alone : about1.alone = true := by decide +kernel
set_option maxRecDepth 65536 in
theorem w_named : about1.methodNamed? x = some theMethod := by decide +kernel
set_option maxRecDepth 65536 in
theorem w_hears : about1.hears theMethod below0 = true := by decide +kernel
set_option maxRecDepth 65536 in
theorem w_ripe : about1.ripe theMethod args0 below0 = true := by decide +kernel
theorem w_running : about1.status = .running := rfl
set_option maxRecDepth 65536 in
theorem w_room : about1.hasRoom e0.platform room_1 = true :=
  launch0.hasRoom_least _ room_1 (by decide +kernel) (by decide +kernel) (by decide +kernel) (by decide +kernel) (by decide +kernel) (by decide +kernel)
theorem allAtoms_all (ts : List Jvm.Cond) (a : Array Jvm.Value) (st : Jvm.State) : (allAtoms ts).before a st = ts.all (fun c => c.before a st) := by
  induction ts with
  | nil => rfl
  | cons c t ih =>
    show (Jvm.Cond.and c (allAtoms t)).before a st = _
    rw [Jvm.Cond.before_and, ih, List.all_cons]
def words1 : List Jvm.Cond := Jvm.Cond.code x code maxLocals ret :: tables_1
/-- a 'code' word, met by the world's own term for the bytes: nothing is compared byte by byte -/
theorem code_word {y : MethodName} {bytes : ByteArray} {mx : Nat} {rt : Option FieldType} {a : Array Value} {s : State} {m : MethodId} {meth : Method} {c : Code} (h1 : s.methodNamed? y = some m) (h2 : s.vm.method? m = some meth) (h3 : meth.code = some c) (h4 : c.code = bytes)
    (h5 : (c.maxLocals == mx && c.exceptionTable.isEmpty && decide (c.maxStack ≤ mostOperands) && decide (meth.sig.returnType = rt) && !meth.locks && decide (parseMethodDescriptor y.desc = some meth.sig)) = true) : (Jvm.Cond.code y bytes mx rt).before a s = true := by
  simp only [Bool.and_eq_true, beq_iff_eq, Bool.not_eq_true', decide_eq_true_eq] at h5
  obtain ⟨⟨⟨⟨⟨g1, g2⟩, g3⟩, g4⟩, g5⟩, g6⟩ := h5
  simp [Cond.before, Cond.holds, Cond.value, h1, h2, h3, h4, g1, g2, g3, g4, g5, g6]
def isCode : Jvm.Cond → Bool
  | .code _ _ _ _ => true
  | _ => false
theorem all_split {L : List Jvm.Cond} {P : Jvm.Cond → Bool} (h1 : L.all (fun c => isCode c || P c) = true) (h2 : ∀ c ∈ L.filter isCode, P c = true) : L.all P = true := by
  refine List.all_eq_true.mpr fun c hc => ?_
  have h := List.all_eq_true.mp h1 c hc
  rcases Bool.eq_false_or_eq_true (isCode c) with hi | hi
  · exact h2 c (List.mem_filter.mpr ⟨hc, hi⟩)
  · simpa [hi] using h
set_option maxRecDepth 65536 in
theorem w_c0 : (Jvm.Cond.code x code maxLocals ret).before args0 about1 = true := code_word (m := ⟨1, 1⟩) (meth := k1m1) (c := k1c1) (by decide +kernel) rfl rfl rfl (by decide +kernel)
set_option maxRecDepth 65536 in
theorem w_c1 : (Jvm.Cond.code ({ cls := "java/lang/Math", name := "min", desc := "(JJ)J" } : Jvm.MethodName) jdk_29_method_70_code (4 : Nat) (Option.some Jvm.ClassFile.FieldType.long)).before args0 about1 = true := code_word (m := ⟨2, 2⟩) (meth := k2m2) (c := k2c2) (by decide +kernel) rfl rfl rfl (by decide +kernel)
set_option maxRecDepth 65536 in
theorem w_c2 : (Jvm.Cond.code ({ cls := "java/lang/Math", name := "max", desc := "(JJ)J" } : Jvm.MethodName) jdk_29_method_66_code (4 : Nat) (Option.some Jvm.ClassFile.FieldType.long)).before args0 about1 = true := code_word (m := ⟨2, 1⟩) (meth := k2m1) (c := k2c1) (by decide +kernel) rfl rfl rfl (by decide +kernel)
set_option maxRecDepth 65536 in
theorem w_c3 : (Jvm.Cond.code ({ cls := "com/example/libjtree/libjtree/schema/BranchApplicator", name := "decides", desc := "(IJJIIZ)Z" } : Jvm.MethodName) prog_100_method_6_code (9 : Nat) (Option.some Jvm.ClassFile.FieldType.boolean)).before args0 about1 = true := code_word (m := ⟨4, 0⟩) (meth := k4m0) (c := k4c0) (by decide +kernel) rfl rfl rfl (by decide +kernel)
def codes1 : List Jvm.Cond := [Jvm.Cond.code x code maxLocals ret, Jvm.Cond.code ({ cls := "java/lang/Math", name := "min", desc := "(JJ)J" } : Jvm.MethodName) jdk_29_method_70_code (4 : Nat) (Option.some Jvm.ClassFile.FieldType.long), Jvm.Cond.code ({ cls := "java/lang/Math", name := "max", desc := "(JJ)J" } : Jvm.MethodName) jdk_29_method_66_code (4 : Nat) (Option.some Jvm.ClassFile.FieldType.long), Jvm.Cond.code ({ cls := "com/example/libjtree/libjtree/schema/BranchApplicator", name := "decides", desc := "(IJJIIZ)Z" } : Jvm.MethodName) prog_100_method_6_code (9 : Nat) (Option.some Jvm.ClassFile.FieldType.boolean)]
set_option maxRecDepth 65536 in
theorem codes_eq : words1.filter isCode = codes1 := rfl
theorem w_codes : ∀ c ∈ words1.filter isCode, c.before args0 about1 = true := by
  rw [codes_eq]
  intro c hc
  simp only [codes1, List.mem_cons, List.not_mem_nil, or_false] at hc
  rcases hc with rfl | rfl | rfl | rfl
  · exact w_c0
  · exact w_c1
  · exact w_c2
  · exact w_c3
set_option maxRecDepth 65536 in
theorem w_t1 : words1.all (fun c => isCode c || c.before args0 about1) = true := by decide +kernel
theorem w_tables : (allAtoms (Jvm.Cond.code x code maxLocals ret :: tables_1)).before args0 about1 = true := by
  rw [allAtoms_all]
  show words1.all (fun c => c.before args0 about1) = true
  refine all_split ?_ w_codes
  rw [w_t1]
set_option maxRecDepth 65536 in
theorem w_case : (Jvm.Cond.and given_1 narrow_1).before args0 about1 = true := by decide +kernel
theorem w_applies : (headSpec (Jvm.Cond.code x code maxLocals ret :: tables_1) room_1).applies x e0.platform about1 = true :=
  (Spec.applies_iff w_frames).mpr ⟨w_running, w_runnable, w_alone, w_named, w_hears, w_ripe, w_room, w_tables⟩
theorem atStart : AtStart classFile x code maxLocals ret World_1 tables_1 room_1 Calls_1 rest_1 Pre_1 launch0 p0 e0 about1 theMethod args0 below0 :=
  ⟨lists_1, trivial, launch0.admits_env _ _ _, launch0.least_env, fairChoices_fair.cas, fairChoices_fair.clock, w_frames, w_args, w_heap, w_applies, trivial, trivial, w_case⟩
end start1
theorem witness_1 : WitnessClaimed_1 := ⟨start1.p0, start1.e0, start1.about1, start1.theMethod, start1.args0, start1.below0, start1.atStart⟩
end Jvm.Pilot.@@N@@
