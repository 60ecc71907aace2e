import JvmDerived
import JvmDerived.Pilot.@@N@@Statement
import JvmDerived.Pilot.@@N@@Code
set_option linter.unusedVariables false
set_option linter.unusedSimpArgs false
namespace Jvm.Pilot.@@N@@
open Jvm Jvm.ClassFile Sem Op Lib Jvm.Free Jvm.Stand Jvm.LawKit Jvm.RoadKit Bundle Jvm.Pilot.@@N@@.Jvm.D
section Own
variable {p : Program} {l : Launch} {e : Env} {R : Room} {s : State} {m : MethodId} {args : Array Value} {below : List Frame} {meth : Method} {c : Code} {T : State} {locs : List Loc} {cells slots : Nat} {Z : State} {h h' : Heap} {a b : Addr} {k k' : ClassId} {ty : FieldType} {n : Int32}
/-- from the state S the run ends, and G holds of the end -/
def own_Go (tb : Tables) (e : Env) (below : List Frame) (G : State → Outcome → Prop) (S : State) : Prop := ∃ s₂ o, Steps tb e below S s₂ ∧ s₂.status = .running ∧ Ended s₂ below o ∧ G s₂ o
theorem own_of {tb : Tables} {G : State → Outcome → Prop} {S S' : State} (f : ∀ t, Steps tb e below S' t → Steps tb e below S t) (g : own_Go tb e below G S') : own_Go tb e below G S := by
  obtain ⟨x, y, h1, h2⟩ := g
  exact ⟨x, y, f x h1, h2⟩
theorem own_out {tb : Tables} {Q : State → Outcome → Prop} {S : State} (f : ∀ G : State → Outcome → Prop, (∀ s₂ o, Q s₂ o → G s₂ o) → own_Go tb e below G S) : ∃ s₂ o, Steps tb e below S s₂ ∧ s₂.status = .running ∧ Ended s₂ below o ∧ Q s₂ o := f Q fun _ _ q => q
theorem own_retI (X : Stand p l e R s m args below meth c T locs cells slots) (hx : p.tables.exec = Jvm.exec) {pc : Nat} {Ls : Array Slot} {z : Int32} {rest : List Value} (hret : meth.sig.returnType = some .int) (hd : decode c.code pc = .ok (.ireturn, 1)) {fs : List Frame}
    (hl : ∀ (f : JFrame) (acts : List Action), f.method = m → f.locked = none → f.entered = [] → (doReturn e (T.setTop f) acts (some (.int z))).1 = T.setFrames fs) : Steps p.tables e below (T.setTop (mkF m pc Ls (.int z :: rest))) (T.setFrames fs) :=
  retOut X hx hret rfl (Or.inl ⟨rfl, Or.inl rfl, z, rfl⟩) hd hl
theorem own_retL (X : Stand p l e R s m args below meth c T locs cells slots) (hx : p.tables.exec = Jvm.exec) {pc : Nat} {Ls : Array Slot} {z : Int64} {rest : List Value} (hret : meth.sig.returnType = some .long) (hd : decode c.code pc = .ok (.lreturn, 1)) {fs : List Frame}
    (hl : ∀ (f : JFrame) (acts : List Action), f.method = m → f.locked = none → f.entered = [] → (doReturn e (T.setTop f) acts (some (.long z))).1 = T.setFrames fs) : Steps p.tables e below (T.setTop (mkF m pc Ls (.long z :: rest))) (T.setFrames fs) :=
  retOut X hx hret rfl (Or.inr (Or.inl ⟨rfl, rfl, z, rfl⟩)) hd hl
theorem own_retA (X : Stand p l e R s m args below meth c T locs cells slots) (hx : p.tables.exec = Jvm.exec) {pc : Nat} {Ls : Array Slot} {z : Addr} {C : String} {rest : List Value} (hret : meth.sig.returnType = some (.object C)) (hd : decode c.code pc = .ok (.areturn, 1)) {fs : List Frame}
    (hl : ∀ (f : JFrame) (acts : List Action), f.method = m → f.locked = none → f.entered = [] → (doReturn e (T.setTop f) acts (some (.ref z))).1 = T.setFrames fs) : Steps p.tables e below (T.setTop (mkF m pc Ls (.ref z :: rest))) (T.setFrames fs) :=
  retOut X hx hret rfl (Or.inr (Or.inr (Or.inr (Or.inr ⟨rfl, rfl, rfl⟩)))) hd hl
/-- an array of ints (or bytes) at a, whole: its class, element type, length and values -/
def own_AI (Z : State) (h : Heap) (a : Addr) (k : ClassId) (ty : FieldType) (n : Int32) (xs : List Int32) : Prop := Arv Z h a k ty n (xs.map Value.int) (.int 0) ∧ xs.length = n.toNatClampNeg
theorem own_AI.ext {xs : List Int32} (F : own_AI Z h a k ty n xs) (E : Ext h h') : own_AI Z h' a k ty n xs := ⟨F.1.ext E, F.2⟩
theorem own_AI.other {xs : List Int32} {sl : Nat} {v : Value} (F : own_AI Z h b k ty n xs) (W : Wr h h' a sl v) (q : b ≠ a) : own_AI Z h' b k ty n xs := ⟨F.1.other W q, F.2⟩
theorem own_AI.keep {xs : List Int32} {ws : List Addr} (F : own_AI Z h a k ty n xs) (K : Keep h h' ws) (q : a ∉ ws) : own_AI Z h' a k ty n xs := ⟨F.1.keep K q, F.2⟩
theorem own_AI.lt {xs : List Int32} (F : own_AI Z h a k ty n xs) : a < h.size := F.1.lt
def own_AJ (Z : State) (h : Heap) (a : Addr) (k : ClassId) (n : Int32) (xs : List Int64) : Prop := Arv Z h a k .long n (xs.map Value.long) (.long 0) ∧ xs.length = n.toNatClampNeg
theorem own_AJ.ext {xs : List Int64} (F : own_AJ Z h a k n xs) (E : Ext h h') : own_AJ Z h' a k n xs := ⟨F.1.ext E, F.2⟩
theorem own_AJ.other {xs : List Int64} {sl : Nat} {v : Value} (F : own_AJ Z h b k n xs) (W : Wr h h' a sl v) (q : b ≠ a) : own_AJ Z h' b k n xs := ⟨F.1.other W q, F.2⟩
theorem own_AJ.keep {xs : List Int64} {ws : List Addr} (F : own_AJ Z h a k n xs) (K : Keep h h' ws) (q : a ∉ ws) : own_AJ Z h' a k n xs := ⟨F.1.keep K q, F.2⟩
theorem own_AJ.lt {xs : List Int64} (F : own_AJ Z h a k n xs) : a < h.size := F.1.lt
theorem own_ltn {j n : Int32} (q : ¬ j < 0 ∧ j < n) : j.toNatClampNeg < n.toNatClampNeg := by
  obtain ⟨q1, q2⟩ := q
  rw [Int32.lt_iff_toInt_lt] at q1 q2
  have e0 : (0 : Int32).toInt = 0 := rfl
  simp only [Int32.toNatClampNeg]; omega
theorem own_newI (A : Arr Z h a (newA k ty n) ty) (q : ¬ n < 0) (cnt : Nat) (hc : n.toNatClampNeg = cnt) (hd : defaultValue ty = .int 0) : own_AI Z h a k ty n (List.replicate cnt 0) := by
  have F := Arv.new A q
  rw [hd] at F
  exact ⟨by rw [List.map_replicate]; exact F.pad (pad_rep [] (.int 0) cnt), by rw [List.length_replicate, hc]⟩
theorem own_newJ (A : Arr Z h a (newA k .long n) .long) (q : ¬ n < 0) (cnt : Nat) (hc : n.toNatClampNeg = cnt) : own_AJ Z h a k n (List.replicate cnt 0) := by
  have F := Arv.new A q
  exact ⟨by rw [List.map_replicate]; exact F.pad (pad_rep [] (.long 0) cnt), by rw [List.length_replicate, hc]⟩
theorem own_stI (X : Stand p l e R s m args below meth c T locs cells slots) (hx : p.tables.exec = Jvm.exec) (hZ : Z.Warmed39 s.vm) (eT : T.heap = h) {xs : List Int32} (F : own_AI Z h a k .int n xs) {j x : Int32} (q : ¬ j < 0 ∧ j < n) {g : JFrame} (hg : g.method = m) {rest : List Value} (hs : g.stack = .int x :: .int j :: .ref a :: rest) (hd : decode c.code g.pc = .ok (.iastore, 1)) :
    ∃ T' h', Stand p l e R s m args below meth c T' (locs ++ [⟨a, j.toNatClampNeg⟩]) cells slots ∧ T'.heap = h' ∧ Wr h h' a j.toNatClampNeg (.int x) ∧ own_AI Z h' a k .int n (xs.set j.toNatClampNeg x) ∧ ∀ target, Steps p.tables e below (T'.setTop { g with pc := g.pc + 1, stack := rest }) target → Steps p.tables e below (T.setTop g) target := by
  obtain ⟨⟨cl, A, q1, S, q3, H, G⟩, hl⟩ := F
  obtain ⟨T', h', X', e', W, st⟩ := stI X hx hZ eT A (inb_of S q) hg hs hd
  refine ⟨T', h', X', e', W, ⟨?_, by rw [List.length_set]; exact hl⟩, st⟩
  rw [List.map_set]
  exact Arv.set A q1 S q3 H G rfl W _ rfl (by rw [List.length_map, hl]; exact own_ltn q)
theorem own_stB (X : Stand p l e R s m args below meth c T locs cells slots) (hx : p.tables.exec = Jvm.exec) (hZ : Z.Warmed39 s.vm) (eT : T.heap = h) {xs : List Int32} (F : own_AI Z h a k .byte n xs) {j x : Int32} (q : ¬ j < 0 ∧ j < n) {g : JFrame} (hg : g.method = m) {rest : List Value} (hs : g.stack = .int x :: .int j :: .ref a :: rest) (hd : decode c.code g.pc = .ok (.bastore, 1)) :
    ∃ T' h', Stand p l e R s m args below meth c T' (locs ++ [⟨a, j.toNatClampNeg⟩]) cells slots ∧ T'.heap = h' ∧ Wr h h' a j.toNatClampNeg (.int x.toInt8.toInt32) ∧ own_AI Z h' a k .byte n (xs.set j.toNatClampNeg x.toInt8.toInt32) ∧ ∀ target, Steps p.tables e below (T'.setTop { g with pc := g.pc + 1, stack := rest }) target → Steps p.tables e below (T.setTop g) target := by
  obtain ⟨⟨cl, A, q1, S, q3, H, G⟩, hl⟩ := F
  obtain ⟨T', h', X', e', W, st⟩ := stB X hx hZ eT A (inb_of S q) hg hs hd
  refine ⟨T', h', X', e', W, ⟨?_, by rw [List.length_set]; exact hl⟩, st⟩
  rw [List.map_set]
  exact Arv.set A q1 S q3 H G (fits_nar_byte _) W _ rfl (by rw [List.length_map, hl]; exact own_ltn q)
theorem own_stJ (X : Stand p l e R s m args below meth c T locs cells slots) (hx : p.tables.exec = Jvm.exec) (hZ : Z.Warmed39 s.vm) (eT : T.heap = h) {xs : List Int64} (F : own_AJ Z h a k n xs) {j : Int32} {x : Int64} (q : ¬ j < 0 ∧ j < n) {g : JFrame} (hg : g.method = m) {rest : List Value} (hs : g.stack = .long x :: .int j :: .ref a :: rest) (hd : decode c.code g.pc = .ok (.lastore, 1)) :
    ∃ T' h', Stand p l e R s m args below meth c T' (locs ++ [⟨a, j.toNatClampNeg⟩]) cells slots ∧ T'.heap = h' ∧ Wr h h' a j.toNatClampNeg (.long x) ∧ own_AJ Z h' a k n (xs.set j.toNatClampNeg x) ∧ ∀ target, Steps p.tables e below (T'.setTop { g with pc := g.pc + 1, stack := rest }) target → Steps p.tables e below (T.setTop g) target := by
  obtain ⟨⟨cl, A, q1, S, q3, H, G⟩, hl⟩ := F
  obtain ⟨T', h', X', e', W, st⟩ := stJ X hx hZ eT A (inb_of S q) hg hs hd
  refine ⟨T', h', X', e', W, ⟨?_, by rw [List.length_set]; exact hl⟩, st⟩
  rw [List.map_set]
  exact Arv.set A q1 S q3 H G rfl W _ rfl (by rw [List.length_map, hl]; exact own_ltn q)
theorem own_getI (xs : List Int32) (i : Nat) : (xs.map Value.int).getD i (.int 0) = .int (xs.getD i 0) := by
  simp only [List.getD_eq_getElem?_getD, List.getElem?_map]
  cases xs[i]? <;> rfl
theorem own_getJ (xs : List Int64) (i : Nat) : (xs.map Value.long).getD i (.long 0) = .long (xs.getD i 0) := by
  simp only [List.getD_eq_getElem?_getD, List.getElem?_map]
  cases xs[i]? <;> rfl
theorem own_ldI (X : Stand p l e R s m args below meth c T locs cells slots) (hx : p.tables.exec = Jvm.exec) (hZ : Z.Warmed39 s.vm) (eT : T.heap = h) {xs : List Int32} (F : own_AI Z h a k .int n xs) {j : Int32} (q : ¬ j < 0 ∧ j < n) {g : JFrame} (hg : g.method = m) {rest : List Value} (hs : g.stack = .int j :: .ref a :: rest) (hd : decode c.code g.pc = .ok (.iaload, 1)) :
    ∀ target, Steps p.tables e below (T.setTop { g with pc := g.pc + 1, stack := .int (xs.getD j.toNatClampNeg 0) :: rest }) target → Steps p.tables e below (T.setTop g) target := by
  obtain ⟨⟨cl, A, q1, S, q3, H, G⟩, hl⟩ := F
  intro target hr
  exact X.iaload hx (by rw [eT]; exact A.1) (State.isArrayOf_alike hZ.alike A.2.1) A.2.2 (inb_of S q) (H.at (inb_of S q) (own_getI xs _)) hg hs hd target hr
theorem own_ldB (X : Stand p l e R s m args below meth c T locs cells slots) (hx : p.tables.exec = Jvm.exec) (hZ : Z.Warmed39 s.vm) (eT : T.heap = h) {xs : List Int32} (F : own_AI Z h a k .byte n xs) {j : Int32} (q : ¬ j < 0 ∧ j < n) {g : JFrame} (hg : g.method = m) {rest : List Value} (hs : g.stack = .int j :: .ref a :: rest) (hd : decode c.code g.pc = .ok (.baload, 1)) :
    ∀ target, Steps p.tables e below (T.setTop { g with pc := g.pc + 1, stack := .int (xs.getD j.toNatClampNeg 0) :: rest }) target → Steps p.tables e below (T.setTop g) target := by
  obtain ⟨⟨cl, A, q1, S, q3, H, G⟩, hl⟩ := F
  intro target hr
  exact X.baloadBytes hx (by rw [eT]; exact A.1) (State.isArrayOf_alike hZ.alike A.2.1) A.2.2 (inb_of S q) (H.at (inb_of S q) (own_getI xs _)) hg hs hd target hr
theorem own_ldJ (X : Stand p l e R s m args below meth c T locs cells slots) (hx : p.tables.exec = Jvm.exec) (hZ : Z.Warmed39 s.vm) (eT : T.heap = h) {xs : List Int64} (F : own_AJ Z h a k n xs) {j : Int32} (q : ¬ j < 0 ∧ j < n) {g : JFrame} (hg : g.method = m) {rest : List Value} (hs : g.stack = .int j :: .ref a :: rest) (hd : decode c.code g.pc = .ok (.laload, 1)) :
    ∀ target, Steps p.tables e below (T.setTop { g with pc := g.pc + 1, stack := .long (xs.getD j.toNatClampNeg 0) :: rest }) target → Steps p.tables e below (T.setTop g) target := by
  obtain ⟨⟨cl, A, q1, S, q3, H, G⟩, hl⟩ := F
  intro target hr
  exact X.laload hx (by rw [eT]; exact A.1) (State.isArrayOf_alike hZ.alike A.2.1) A.2.2 (inb_of S q) (H.at (inb_of S q) (own_getJ xs _)) hg hs hd target hr
theorem own_lenJ (X : Stand p l e R s m args below meth c T locs cells slots) (hx : p.tables.exec = Jvm.exec) (hZ : Z.Warmed39 s.vm) (eT : T.heap = h) {xs : List Int64} (F : own_AJ Z h a k n xs) {g : JFrame} (hg : g.method = m) {rest : List Value} (hs : g.stack = .ref a :: rest) (hd : decode c.code g.pc = .ok (.arraylength, 1)) :
    ∀ target, Steps p.tables e below (T.setTop { g with pc := g.pc + 1, stack := .int n :: rest }) target → Steps p.tables e below (T.setTop g) target := by
  obtain ⟨⟨cl, A, q1, S, q3, H, G⟩, hl⟩ := F
  intro target hr
  refine X.arraylength hx (by rw [eT]; exact A.1) (State.isArrayOf_alike hZ.alike A.2.1) hg hs hd target ?_
  rw [len_of S q3]; exact hr
theorem own_rng {α : Type} (d : α) (xs : List α) (n : Nat) (hn : xs.length = n) : (List.range n).map (fun i => xs.getD (0 + i) d) = xs := by
  subst hn
  apply List.ext_getElem?
  intro i
  simp only [List.getElem?_map, List.getD_eq_getElem?_getD, Nat.zero_add]
  by_cases q : i < xs.length
  · simp [List.getElem?_range q, List.getElem?_eq_getElem q]
  · have q' : xs.length ≤ i := Nat.le_of_not_lt q
    rw [List.getElem?_eq_none (by simpa using q'), List.getElem?_eq_none q']; rfl
theorem own_cpJ (X : Stand p l e R s m args below meth c T locs cells slots) (hx : p.tables.exec = Jvm.exec) (hZ : Z.Warmed39 s.vm) {a0 : Array Value} {own : String} {index : Nat} (hown : s.vm.findClass own = some m.cls)
    (w1 : (Cond.methodLink own index Jvm.Stand.acN).before a0 Z = true) (w2 : (Cond.native Jvm.Stand.acN).before a0 Z = true) (w3 : (Cond.static Jvm.Stand.acN).before a0 Z = true) (w4 : (Cond.initialized "java/lang/System").before a0 Z = true) (eT : T.heap = h)
    {xs ys : List Int64} (A : own_AJ Z h a k n xs) (B : own_AJ Z h b k' n ys) (h3 : ¬ n < 0) (h4 : (0 : Int32).toNatClampNeg = 0) {n0 : Nat} (N : Fr n0 locs) (ge : n0 ≤ b)
    {g : JFrame} (hg : g.method = m) (hsize : g.locals.size = c.maxLocals) {rest : List Value} (hs : g.stack = .int n :: .int 0 :: .ref b :: .int 0 :: .ref a :: rest) (hd : decode c.code g.pc = .ok (.invokestatic index, 3))
    (hf : 1 ≤ R.frames) {W : Nat} (hW : 2 * g.monitorRoom + (rest.map fun v => v.category).sum ≤ W) (hlo : W + (nativeFrameWords "java/lang/System" "arraycopy" 5 + 11) ≤ R.locals) :
    ∃ T' h' L, Stand p l e R s m args below meth c T' L cells slots ∧ T'.heap = h' ∧ Fr n0 L ∧ Keep h h' [b] ∧ own_AJ Z h' b k' n xs ∧
      ∀ target, Steps p.tables e below (T'.setTop { g with pc := g.pc + 3, stack := rest }) target → Steps p.tables e below (T.setTop g) target := by
  obtain ⟨A, la⟩ := A
  obtain ⟨B, lb⟩ := B
  obtain ⟨T', h', L, X', e', N', K', V', st⟩ := cpA X hx hZ hown w1 w2 w3 w4 eT A B (Or.inl ⟨rfl, rfl⟩) (sp := 0) (dp := 0) (nn := n) (by decide) (by decide) h3 (by rw [h4]; omega) (by rw [h4]; omega) rfl (by rw [h4, List.length_map, lb]; omega) N ge hg hsize hs hd hf hW hlo
  refine ⟨T', h', L, X', e', N', K', ⟨?_, la⟩, st⟩
  rw [h4] at V'
  rw [own_rng (.long 0) (xs.map Value.long) _ (by rw [List.length_map, la])] at V'
  have q : List.drop (0 + n.toNatClampNeg) (ys.map Value.long) = [] := by rw [List.drop_eq_nil_iff, List.length_map, lb]; omega
  rw [q] at V'
  simpa using V'
end Own

def own_max (i j : Int32) : Int32 := if i < j then j else i
def own_inc (ix ev re : Int32) : Int32 := if ix % ev = re then 1 else 0
theorem own_c1 : (1 : Int32).toInt = 1 := rfl
theorem own_c0 : (0 : Int32).toInt = 0 := rfl
theorem own_msk (a : Int32) : 0 ≤ (a &&& (2147483647 : Int32)).toInt := by
  rw [c_mask a 2147483647 31 (by decide) (by decide)]; omega
theorem own_ev {a x : Int32} (h : own_max 1 (a &&& (2147483647 : Int32)) = x) : 1 ≤ x.toInt ∧ x ≠ 0 := by
  have q : 1 ≤ x.toInt := by
    subst h; unfold own_max; split
    · rename_i h; rw [Int32.lt_iff_toInt_lt, own_c1] at h; omega
    · rw [own_c1]; omega
  exact ⟨q, fun e => by subst e; rw [own_c0] at q; omega⟩
theorem own_ev1 {x : Int32} (h : 1 ≤ x.toInt) : ¬ (x < (1 : Int32)) := by rw [Int32.lt_iff_toInt_lt, own_c1]; omega
theorem own_modb {a x : Int32} (h : 1 ≤ x.toInt) : 0 ≤ ((a &&& (2147483647 : Int32)) % x).toInt ∧ ((a &&& (2147483647 : Int32)) % x).toInt < x.toInt := by
  have q := (c_irem (a &&& (2147483647 : Int32)) x x.toInt rfl).1 (own_msk a)
  rw [q]
  exact ⟨Int.emod_nonneg _ (by omega), Int.emod_lt_of_pos _ (by omega)⟩
theorem own_rem {a x y : Int32} (h : 1 ≤ x.toInt) (e : (a &&& (2147483647 : Int32)) % x = y) : ¬ (y < (0 : Int32)) ∧ y < x := by
  have q := own_modb (a := a) h
  rw [e] at q
  rw [Int32.lt_iff_toInt_lt, Int32.lt_iff_toInt_lt, own_c0]; omega
theorem own_rp {a b x y z f : Int32} (h : 1 ≤ x.toInt) (e : (a &&& (2147483647 : Int32)) % x = y) (g : z = if f = (0 : Int32) then (b &&& (2147483647 : Int32)) % x else y) : 0 ≤ z.toInt ∧ z.toInt < x.toInt := by
  subst g; split
  · exact own_modb h
  · rw [← e]; exact own_modb h
theorem own_i64 (x : Int32) : x.toInt64.toInt = x.toInt := c_i2l x
theorem own_nz64 {x : Int32} (h : 1 ≤ x.toInt) : x.toInt64 ≠ (0 : Int64) := fun e => by
  have q := own_i64 x
  rw [e] at q
  have : (0 : Int64).toInt = 0 := rfl
  omega
theorem own_qb {x z : Int32} {w : Int64} (h : 1 ≤ x.toInt) (b : 0 ≤ z.toInt ∧ z.toInt < x.toInt) (e : (((2147483647 : Int64) - z.toInt64) / x.toInt64) + (1 : Int64) = w) : w.toInt = (2147483647 - z.toInt) / x.toInt + 1 := by
  have r1 := rng32 x
  have s1 := c_lsub (2147483647 : Int64) z.toInt64
  rw [own_i64 z] at s1
  have e1 : (2147483647 : Int64).toInt = 2147483647 := rfl
  rw [e1] at s1
  have r2 := rng64 ((2147483647 : Int64) - z.toInt64)
  have s2 : ((2147483647 : Int64) - z.toInt64).toInt = 2147483647 - z.toInt := by omega
  have hx1 : x.toInt64 ≠ (-1 : Int64) := fun q => by
    have := own_i64 x; rw [q] at this
    have e2 : (-1 : Int64).toInt = -1 := rfl
    omega
  have s3 := (c_ldiv ((2147483647 : Int64) - z.toInt64) x.toInt64 x.toInt (own_i64 x) hx1).1 (by omega)
  rw [s2] at s3
  have b1 : 0 ≤ (2147483647 - z.toInt) / x.toInt := Int.ediv_nonneg (by omega) (by omega)
  have b2 : (2147483647 - z.toInt) / x.toInt ≤ 2147483647 - z.toInt := Int.ediv_le_self _ (by omega)
  have s4 := c_ladd (((2147483647 : Int64) - z.toInt64) / x.toInt64) (1 : Int64)
  rw [e] at s4
  have e3 : (1 : Int64).toInt = 1 := rfl
  rw [s3, e3] at s4
  have r3 := rng64 w
  omega
theorem own_nzq {x z : Int32} {w : Int64} (h : 1 ≤ x.toInt) (b : 0 ≤ z.toInt ∧ z.toInt < x.toInt) (e : (((2147483647 : Int64) - z.toInt64) / x.toInt64) + (1 : Int64) = w) : w ≠ (0 : Int64) := fun q => by
  have r1 := rng32 x
  have s := own_qb h b e
  subst q
  have e0 : (0 : Int64).toInt = 0 := rfl
  have b1 : 0 ≤ (2147483647 - z.toInt) / x.toInt := Int.ediv_nonneg (by omega) (by omega)
  omega
theorem own_idx {x z q : Int32} {w u v : Int64} (h : 1 ≤ x.toInt) (b : 0 ≤ z.toInt ∧ z.toInt < x.toInt) (e : (((2147483647 : Int64) - z.toInt64) / x.toInt64) + (1 : Int64) = w) (f : (q.toInt64 &&& (2147483647 : Int64)) % w = u) (g : (u * x.toInt64) + z.toInt64 = v) :
    ¬ (v < (0 : Int64)) ∧ ¬ ((2147483647 : Int64) < v) ∧ v.toInt32 % x = z := by
  have r1 := rng32 x
  have s := own_qb h b e
  have b1 : 0 ≤ (2147483647 - z.toInt) / x.toInt := Int.ediv_nonneg (by omega) (by omega)
  have m1 : (q.toInt64 &&& (2147483647 : Int64)).toInt = q.toInt64.toInt % (2 ^ 31 : Nat) := c_maskL _ 2147483647 31 (by decide) (by decide)
  have m2 : 0 ≤ (q.toInt64 &&& (2147483647 : Int64)).toInt := by rw [m1]; omega
  have u1 : u.toInt = (q.toInt64 &&& (2147483647 : Int64)).toInt % w.toInt := by
    rw [← f, Int64.toInt_mod]; exact (tr _ _).1 m2
  have u2 : 0 ≤ u.toInt := by rw [u1]; exact Int.emod_nonneg _ (by omega)
  have u3 : u.toInt < w.toInt := by rw [u1]; exact Int.emod_lt_of_pos _ (by omega)
  have u4 : u.toInt ≤ (2147483647 - z.toInt) / x.toInt := by omega
  have p1 : u.toInt * x.toInt ≤ 2147483647 - z.toInt := Int.le_trans (Int.mul_le_mul_of_nonneg_right u4 (by omega)) (Int.ediv_mul_le _ (by omega))
  have p0 : 0 ≤ u.toInt * x.toInt := Int.mul_nonneg u2 (by omega)
  have t1 := c_lmul u x.toInt64
  rw [own_i64 x] at t1
  have t2 := c_ladd (u * x.toInt64) z.toInt64
  rw [g, own_i64 z] at t2
  have r2 := rng64 (u * x.toInt64)
  have r3 := rng64 v
  have v1 : v.toInt = u.toInt * x.toInt + z.toInt := by
    generalize u.toInt * x.toInt = pr at *
    omega
  have e0 : (0 : Int64).toInt = 0 := rfl
  have e1 : (2147483647 : Int64).toInt = 2147483647 := rfl
  refine ⟨by rw [Int64.lt_iff_toInt_lt]; omega, by rw [Int64.lt_iff_toInt_lt]; omega, ?_⟩
  have w1 := c_l2i v
  have r4 := rng32 v.toInt32
  have w2 : v.toInt32.toInt = u.toInt * x.toInt + z.toInt := by omega
  apply Int32.toInt_inj.mp
  rw [(c_irem v.toInt32 x x.toInt rfl).1 (by omega), w2, Int.add_comm, Int.add_mul_emod_self_right, Int.emod_eq_of_lt b.1 b.2]
theorem own_fin {i x z y : Int32} (h : i % x = z) : own_inc i x y = if z = y then (1 : Int32) else (0 : Int32) := by
  unfold own_inc; rw [h]
theorem own_pd0 : parseMethodDescriptor "()V" = some ⟨[], none⟩ := by decide +kernel
theorem own_pd1 : parseMethodDescriptor "(II)I" = some ⟨[.int, .int], some .int⟩ := by decide +kernel
theorem own_pd2 : parseMethodDescriptor "(II)V" = some ⟨[.int, .int], none⟩ := by decide +kernel
theorem own_pd3 : parseMethodDescriptor "(I)Z" = some ⟨[.int], some .boolean⟩ := by decide +kernel
theorem own_d1_0 : decode jdk_29_method_65_code 0 = .ok (.iload_n 0, 1) := by decide +kernel
theorem own_d1_1 : decode jdk_29_method_65_code 1 = .ok (.iload_n 1, 1) := by decide +kernel
theorem own_d1_2 : decode jdk_29_method_65_code 2 = .ok (.if_icmp .lt 7, 3) := by decide +kernel
theorem own_d1_5 : decode jdk_29_method_65_code 5 = .ok (.iload_n 0, 1) := by decide +kernel
theorem own_d1_6 : decode jdk_29_method_65_code 6 = .ok (.goto 4, 3) := by decide +kernel
theorem own_d1_9 : decode jdk_29_method_65_code 9 = .ok (.iload_n 1, 1) := by decide +kernel
theorem own_d1_10 : decode jdk_29_method_65_code 10 = .ok (.ireturn, 1) := by decide +kernel
abbrev own_room1 : Room := { frames := 0, cells := 0, slots := 0, locals := 0 }
theorem own_ef1 (m : MethodId) (ai : Int32) (aj : Int32) : entryFrame m #[(.int ai), (.int aj)] 2 = mkF m 0 #[.val (.int ai), .val (.int aj)] [] := by first | (simp [entryFrame, mkF, argsToLocals, Value.category]; done) | rfl
def own_Q1 (Z : State) (ai : Int32) (aj : Int32) (h0 : Heap) (n0 : Nat) (v : Option Value) (h : Heap) (L : List Loc) : Prop := v = some (.int (own_max ai aj)) ∧ Fr n0 L ∧ h = h0
set_option maxRecDepth 65536 in
set_option maxHeartbeats 40000000 in
theorem own_rm1 (l : Launch) (Z : State) (a0 : Array Value) (hw : ∀ d ∈ tables_1, d.before a0 Z = true) (ws : List Jvm.Cond) (ai : Int32) (aj : Int32) (h0 : Heap) (n0 : Nat)  :
    MetFree l (⟨"java/lang/Math", "max", "(II)I"⟩ : MethodName) (head1 (Jvm.Cond.code (⟨"java/lang/Math", "max", "(II)I"⟩ : MethodName) jdk_29_method_65_code 2 (some .int) :: ws) (own_room1 : Room)) (fun a U => a = #[(.int ai), (.int aj)] ∧ Z.Warmed39 U.vm ∧ U.heap = h0) (fun _ _ _ _ _ => True) (fun _ U o U' => ∃ v L, o = .returned v ∧ own_Q1 Z ai aj h0 n0 v U'.heap L ∧ FrameEnd U o U' L (own_room1 : Room).cells (own_room1 : Room).slots) := by
  refine MetFree.of_bodySF (Jvm.Free.JP.mathPlain rfl (by decide +kernel)) hisR ?_
  intro p e s m args below meth c s₁ Bd hml0 hP hK
  obtain ⟨rfl, hZ, hh⟩ := hP
  have hx := Bd.exec
  have hby := Bd.bytes
  have hml : c.maxLocals = 2 := hml0
  have hown : s.vm.findClass "java/lang/Math" = some m.cls := findClass_of_methodNamed Bd.named
  have hnm := (name_of_methodNamed Bd.named Bd.method).1
  have X0 : Stand p l e (own_room1 : Room) s m #[(.int ai), (.int aj)] below meth c s₁ [] 0 0 := Stand.of_body Bd
  have e0 : s₁.heap = h0 := by rw [← hh, Bd.state]; rfl
  have N0 := Fr.nil n0
  refine own_out fun G hG => ?_
  rw [own_ef1 m ai aj]
  show own_Go p.tables e below G (s₁.setTop (mkF m 0 #[.val (.int ai), .val (.int aj)] []))
  refine own_of (S' := s₁.setTop (mkF m 1 #[.val (.int ai), .val (.int aj)] [(.int ai)])) (fun t k => XS.iloadN X0.here hx rfl (hb hby own_d1_0) rfl k) ?_
  refine own_of (S' := s₁.setTop (mkF m 2 #[.val (.int ai), .val (.int aj)] [(.int aj), (.int ai)])) (fun t k => XS.iloadN X0.here hx rfl (hb hby own_d1_1) rfl k) ?_
  by_cases hc2 : ai < aj
  · refine own_of (S' := s₁.setTop (mkF m 9 #[.val (.int ai), .val (.int aj)] [])) (fun t k => XS.icmpYes X0.here hx rfl (pc0 := 2) (pc' := 9) rfl (hb hby own_d1_2) rfl (tlt hc2).1 (by decide) (by decide) k) ?_
    refine own_of (S' := s₁.setTop (mkF m 10 #[.val (.int ai), .val (.int aj)] [(.int aj)])) (fun t k => XS.iloadN X0.here hx rfl (hb hby own_d1_9) rfl k) ?_
    obtain ⟨fs, hr, hrun, hended, hW, hsame⟩ := X0.leave (v := some (.int aj)) (fun h => by rw [Bd.returns] at h; cases h)
    refine ⟨_, _, own_retI X0 hx Bd.returns (hb hby own_d1_10) hr, hrun, hended, hG _ _ ⟨_, _, rfl, ?_, ⟨_, rfl⟩, hW, hsame.mono (by decide) (by decide)⟩⟩
    show own_Q1 Z ai aj h0 n0 _ s₁.heap _
    rw [e0]
    have hl : aj = (own_max ai aj) := by simp [own_max, *]
    exact ⟨congrArg (fun w => some (Value.int w)) hl, N0, rfl⟩
  · refine own_of (S' := s₁.setTop (mkF m 5 #[.val (.int ai), .val (.int aj)] [])) (fun t k => XS.icmpNo X0.here hx rfl (hb hby own_d1_2) rfl (flt hc2).1 k) ?_
    refine own_of (S' := s₁.setTop (mkF m 6 #[.val (.int ai), .val (.int aj)] [(.int ai)])) (fun t k => XS.iloadN X0.here hx rfl (hb hby own_d1_5) rfl k) ?_
    refine own_of (S' := s₁.setTop (mkF m 10 #[.val (.int ai), .val (.int aj)] [(.int ai)])) (fun t k => XS.goto X0.here hx rfl (pc0 := 6) (pc' := 10) rfl (hb hby own_d1_6) (by decide) (by decide) k) ?_
    obtain ⟨fs, hr, hrun, hended, hW, hsame⟩ := X0.leave (v := some (.int ai)) (fun h => by rw [Bd.returns] at h; cases h)
    refine ⟨_, _, own_retI X0 hx Bd.returns (hb hby own_d1_10) hr, hrun, hended, hG _ _ ⟨_, _, rfl, ?_, ⟨_, rfl⟩, hW, hsame.mono (by decide) (by decide)⟩⟩
    show own_Q1 Z ai aj h0 n0 _ s₁.heap _
    rw [e0]
    have hl : ai = (own_max ai aj) := by simp [own_max, *]
    exact ⟨congrArg (fun w => some (Value.int w)) hl, N0, rfl⟩
theorem own_d2_0 : decode jdk_30_method_1_code 0 = .ok (.aload_n 0, 1) := by decide +kernel
theorem own_d2_1 : decode jdk_30_method_1_code 1 = .ok (.invokespecial 1, 3) := by decide +kernel
theorem own_d2_4 : decode jdk_30_method_1_code 4 = .ok (.return_, 1) := by decide +kernel
abbrev own_room2 : Room := { frames := 1, cells := 0, slots := 0, locals := 12 }
theorem own_pn2 : plainName "java/lang/Record" = true := by first | (simp [plainName, overriddenIn]; done) | decide +kernel
theorem own_ef2 (m : MethodId) (a0 : Addr) : entryFrame m #[(.ref a0)] 1 = mkF m 0 #[.val (.ref a0)] [] := by first | (simp [entryFrame, mkF, argsToLocals, Value.category]; done) | rfl
def own_Q2 (Z : State) (a0 : Addr) (h0 : Heap) (n0 : Nat) (v : Option Value) (h : Heap) (L : List Loc) : Prop := v = none ∧ Fr n0 L ∧ h = h0
set_option maxRecDepth 65536 in
set_option maxHeartbeats 40000000 in
theorem own_rm2 (l : Launch) (Z : State) (a0 : Array Value) (hw : ∀ d ∈ tables_1, d.before a0 Z = true) (ws : List Jvm.Cond) (a0 : Addr) (h0 : Heap) (n0 : Nat)  :
    MetFree l (⟨"java/lang/Record", "<init>", "()V"⟩ : MethodName) (head1 (Jvm.Cond.code (⟨"java/lang/Record", "<init>", "()V"⟩ : MethodName) jdk_30_method_1_code 1 none :: ws) (own_room2 : Room)) (fun a U => a = #[(.ref a0)] ∧ Z.Warmed39 U.vm ∧ U.heap = h0) (fun _ _ _ _ _ => True) (fun _ U o U' => ∃ v L, o = .returned v ∧ own_Q2 Z a0 h0 n0 v U'.heap L ∧ FrameEnd U o U' L (own_room2 : Room).cells (own_room2 : Room).slots) := by
  refine MetFree.of_bodySF (plainFor_of_name own_pn2) hisR ?_
  intro p e s m args below meth c s₁ Bd hml0 hP hK
  obtain ⟨rfl, hZ, hh⟩ := hP
  have hx := Bd.exec
  have hby := Bd.bytes
  have hml : c.maxLocals = 1 := hml0
  have hown : s.vm.findClass "java/lang/Record" = some m.cls := findClass_of_methodNamed Bd.named
  have hnm := (name_of_methodNamed Bd.named Bd.method).1
  have X0 : Stand p l e (own_room2 : Room) s m #[(.ref a0)] below meth c s₁ [] 0 0 := Stand.of_body Bd
  have e0 : s₁.heap = h0 := by rw [← hh, Bd.state]; rfl
  have N0 := Fr.nil n0
  refine own_out fun G hG => ?_
  rw [own_ef2 m a0]
  show own_Go p.tables e below G (s₁.setTop (mkF m 0 #[.val (.ref a0)] []))
  refine own_of (S' := s₁.setTop (mkF m 1 #[.val (.ref a0)] [(.ref a0)])) (fun t k => XS.aloadN X0.here hx rfl (hb hby own_d2_0) rfl rfl k) ?_
  obtain ⟨T2, X2, e2, st2⟩ := initO X0 hx hZ hown (hw _ (List.mem_of_getElem? (i := 17) rfl)) (hw _ (List.mem_of_getElem? (i := 18) rfl)) (hw _ (List.mem_of_getElem? (i := 19) rfl)) e0 (g := (mkF m 1 #[.val (.ref a0)] [(.ref a0)])) rfl (by rw [hml]; rfl) rfl (hb hby own_d2_1) (by decide) (W := 0) (by show 2 * 0 + _ ≤ _; exact Nat.le_of_eq rfl) (by decide)
  refine own_of (S' := T2.setTop (mkF m 4 #[.val (.ref a0)] [])) st2 ?_
  obtain ⟨fs, hr, hrun, hended, hW, hsame⟩ := X2.leave (v := none) (fun _ => rfl)
  refine ⟨_, _, X2.returnOut hx Bd.returns (hb hby own_d2_4) hr, hrun, hended, hG _ _ ⟨_, _, rfl, ?_, ⟨_, rfl⟩, hW, hsame.mono (by decide) (by decide)⟩⟩
  show own_Q2 Z a0 h0 n0 _ T2.heap _
  rw [e2]
  exact ⟨rfl, N0, rfl⟩
theorem own_d3_0 : decode prog_67_method_1_code 0 = .ok (.aload_n 0, 1) := by decide +kernel
theorem own_d3_1 : decode prog_67_method_1_code 1 = .ok (.invokespecial 1, 3) := by decide +kernel
theorem own_d3_4 : decode prog_67_method_1_code 4 = .ok (.iload_n 1, 1) := by decide +kernel
theorem own_d3_5 : decode prog_67_method_1_code 5 = .ok (.iconst 1, 1) := by decide +kernel
theorem own_d3_6 : decode prog_67_method_1_code 6 = .ok (.if_icmp .lt 12, 3) := by decide +kernel
theorem own_d3_9 : decode prog_67_method_1_code 9 = .ok (.iload_n 2, 1) := by decide +kernel
theorem own_d3_10 : decode prog_67_method_1_code 10 = .ok (.ifCond .lt 8, 3) := by decide +kernel
theorem own_d3_13 : decode prog_67_method_1_code 13 = .ok (.iload_n 2, 1) := by decide +kernel
theorem own_d3_14 : decode prog_67_method_1_code 14 = .ok (.iload_n 1, 1) := by decide +kernel
theorem own_d3_15 : decode prog_67_method_1_code 15 = .ok (.if_icmp .lt 18, 3) := by decide +kernel
theorem own_d3_33 : decode prog_67_method_1_code 33 = .ok (.aload_n 0, 1) := by decide +kernel
theorem own_d3_34 : decode prog_67_method_1_code 34 = .ok (.iload_n 1, 1) := by decide +kernel
theorem own_d3_35 : decode prog_67_method_1_code 35 = .ok (.putfield 16, 3) := by decide +kernel
theorem own_d3_38 : decode prog_67_method_1_code 38 = .ok (.aload_n 0, 1) := by decide +kernel
theorem own_d3_39 : decode prog_67_method_1_code 39 = .ok (.iload_n 2, 1) := by decide +kernel
theorem own_d3_40 : decode prog_67_method_1_code 40 = .ok (.putfield 22, 3) := by decide +kernel
theorem own_d3_43 : decode prog_67_method_1_code 43 = .ok (.return_, 1) := by decide +kernel
abbrev own_room3 : Room := { frames := 2, cells := 0, slots := 0, locals := 24 }
theorem own_pn3 : plainName "io/bucketry/Testnet$Every" = true := by first | (simp [plainName, overriddenIn]; done) | decide +kernel
theorem own_ef3 (m : MethodId) (a0 : Addr) (ev : Int32) (re : Int32) : entryFrame m #[(.ref a0), (.int ev), (.int re)] 3 = mkF m 0 #[.val (.ref a0), .val (.int ev), .val (.int re)] [] := by first | (simp [entryFrame, mkF, argsToLocals, Value.category]; done) | rfl
def own_Q3 (Z : State) (a0 : Addr) (ev : Int32) (re : Int32) (h0 : Heap) (n0 : Nat) (v : Option Value) (h : Heap) (L : List Loc) : Prop := v = none ∧ Fr n0 L ∧ Keep h0 h [a0] ∧ Exa Z h a0 "io/bucketry/Testnet$Every" ∧ Fld Z h a0 "io/bucketry/Testnet$Every" "every" "I" (.int ev) ∧ Fld Z h a0 "io/bucketry/Testnet$Every" "remainder" "I" (.int re)
set_option maxRecDepth 65536 in
set_option maxHeartbeats 40000000 in
theorem own_rm3 (l : Launch) (Z : State) (a0 : Array Value) (hw : ∀ d ∈ tables_1, d.before a0 Z = true) (ws : List Jvm.Cond) (a0 : Addr) (ev : Int32) (re : Int32) (h0 : Heap) (n0 : Nat) (F0 : Exa Z h0 a0 "io/bucketry/Testnet$Every") (F1 : Fld Z h0 a0 "io/bucketry/Testnet$Every" "every" "I" (.int (0 : Int32))) (F2 : Fld Z h0 a0 "io/bucketry/Testnet$Every" "remainder" "I" (.int (0 : Int32))) (g_a0 : n0 ≤ a0) (hp1 : ¬ (ev < (1 : Int32))) (hp2 : ¬ (re < (0 : Int32))) (hp3 : re < ev) :
    MetFree l (⟨"io/bucketry/Testnet$Every", "<init>", "(II)V"⟩ : MethodName) (head1 (Jvm.Cond.code (⟨"io/bucketry/Testnet$Every", "<init>", "(II)V"⟩ : MethodName) prog_67_method_1_code 3 none :: ws) (own_room3 : Room)) (fun a U => a = #[(.ref a0), (.int ev), (.int re)] ∧ Z.Warmed39 U.vm ∧ U.heap = h0) (fun _ _ _ _ _ => True) (fun _ U o U' => ∃ v L, o = .returned v ∧ own_Q3 Z a0 ev re h0 n0 v U'.heap L ∧ FrameEnd U o U' L (own_room3 : Room).cells (own_room3 : Room).slots) := by
  refine MetFree.of_bodySF (plainFor_of_name own_pn3) hisR ?_
  intro p e s m args below meth c s₁ Bd hml0 hP hK
  obtain ⟨rfl, hZ, hh⟩ := hP
  have hx := Bd.exec
  have hby := Bd.bytes
  have hml : c.maxLocals = 3 := hml0
  have hown : s.vm.findClass "io/bucketry/Testnet$Every" = some m.cls := findClass_of_methodNamed Bd.named
  have hnm := (name_of_methodNamed Bd.named Bd.method).1
  have X0 : Stand p l e (own_room3 : Room) s m #[(.ref a0), (.int ev), (.int re)] below meth c s₁ [] 0 0 := Stand.of_body Bd
  have e0 : s₁.heap = h0 := by rw [← hh, Bd.state]; rfl
  have N0 := Fr.nil n0
  have K0 := Keep.refl h0 [a0]
  refine own_out fun G hG => ?_
  rw [own_ef3 m a0 ev re]
  show own_Go p.tables e below G (s₁.setTop (mkF m 0 #[.val (.ref a0), .val (.int ev), .val (.int re)] []))
  refine own_of (S' := s₁.setTop (mkF m 1 #[.val (.ref a0), .val (.int ev), .val (.int re)] [(.ref a0)])) (fun t k => XS.aloadN X0.here hx rfl (hb hby own_d3_0) rfl rfl k) ?_
  obtain ⟨_, _, ⟨T3, L3, k3, n3⟩, -, X3, ⟨Lc3, hQ3, l3, y3, z3⟩, st3⟩ := X0.specialBack hx (y := (⟨"java/lang/Record", "<init>", "()V"⟩ : MethodName)) rfl hown (mvT hZ (hw _ (List.mem_of_getElem? (i := 12) rfl))) (mvT hZ (hw _ (List.mem_of_getElem? (i := 13) rfl))) (mvT hZ (hw _ (List.mem_of_getElem? (i := 16) rfl))) (by decide) (backOf (W := 0) (own_rm2 l Z _ hw [] a0 h0 n0 ) hZ (hw _ (List.mem_of_getElem? (i := 16) rfl)) (hw _ (List.mem_of_getElem? (i := 15) rfl)) (by decide) (by decide)) (g := (mkF m 1 #[.val (.ref a0), .val (.int ev), .val (.int re)] [(.ref a0)])) rfl (by rw [hml]; rfl) (Steps.refl _) (a := a0) (argsL := []) (rest := []) (lenOf own_pd0 rfl) rfl (by show 2 * 0 + _ ≤ _; exact Nat.le_of_eq rfl) (hb hby own_d3_1) (fun _ _ => ⟨rfl, e0, (by decide : 0 + 0 ≤ _), (by decide : 0 + 0 ≤ _)⟩)
  dsimp only [Pt.U, Pt.locs, Pt.cells, Pt.slots] at X3 l3 y3 z3 st3 hQ3
  subst l3 y3 z3
  obtain ⟨rfl, M3, eh3⟩ := hQ3
  have N3 := Fr.app N0 M3
  refine own_of (S' := T3.setTop (mkF m 4 #[.val (.ref a0), .val (.int ev), .val (.int re)] [])) (fun t k => st3.trans k) ?_
  refine own_of (S' := T3.setTop (mkF m 5 #[.val (.ref a0), .val (.int ev), .val (.int re)] [(.int ev)])) (fun t k => XS.iloadN X3.here hx rfl (hb hby own_d3_4) rfl k) ?_
  refine own_of (S' := T3.setTop (mkF m 6 #[.val (.ref a0), .val (.int ev), .val (.int re)] [(.int (1 : Int32)), (.int ev)])) (fun t k => XS.iconst X3.here hx rfl (hb hby own_d3_5) k) ?_
  have hc6 : ¬ (ev < (1 : Int32)) := by exact hp1
  refine own_of (S' := T3.setTop (mkF m 9 #[.val (.ref a0), .val (.int ev), .val (.int re)] [])) (fun t k => XS.icmpNo X3.here hx rfl (hb hby own_d3_6) rfl (flt hc6).1 k) ?_
  refine own_of (S' := T3.setTop (mkF m 10 #[.val (.ref a0), .val (.int ev), .val (.int re)] [(.int re)])) (fun t k => XS.iloadN X3.here hx rfl (hb hby own_d3_9) rfl k) ?_
  have hc10 : ¬ (re < (0 : Int32)) := by exact hp2
  refine own_of (S' := T3.setTop (mkF m 13 #[.val (.ref a0), .val (.int ev), .val (.int re)] [])) (fun t k => XS.ifNo X3.here hx rfl (hb hby own_d3_10) rfl ((if0 _ _).trans (flt hc10).1) k) ?_
  refine own_of (S' := T3.setTop (mkF m 14 #[.val (.ref a0), .val (.int ev), .val (.int re)] [(.int re)])) (fun t k => XS.iloadN X3.here hx rfl (hb hby own_d3_13) rfl k) ?_
  refine own_of (S' := T3.setTop (mkF m 15 #[.val (.ref a0), .val (.int ev), .val (.int re)] [(.int ev), (.int re)])) (fun t k => XS.iloadN X3.here hx rfl (hb hby own_d3_14) rfl k) ?_
  have hc15 : re < ev := by exact hp3
  refine own_of (S' := T3.setTop (mkF m 33 #[.val (.ref a0), .val (.int ev), .val (.int re)] [])) (fun t k => XS.icmpYes X3.here hx rfl (pc0 := 15) (pc' := 33) rfl (hb hby own_d3_15) rfl (tlt hc15).1 (by decide) (by decide) k) ?_
  refine own_of (S' := T3.setTop (mkF m 34 #[.val (.ref a0), .val (.int ev), .val (.int re)] [(.ref a0)])) (fun t k => XS.aloadN X3.here hx rfl (hb hby own_d3_33) rfl rfl k) ?_
  refine own_of (S' := T3.setTop (mkF m 35 #[.val (.ref a0), .val (.int ev), .val (.int re)] [(.int ev), (.ref a0)])) (fun t k => XS.iloadN X3.here hx rfl (hb hby own_d3_34) rfl k) ?_
  obtain ⟨T7, h7, X7, e7, W7, st7⟩ := putF X3 hx hZ hown (host := "") (Or.inl (hw _ (List.mem_of_getElem? (i := 20) rfl))) Via.refl eh3 F1 F0 (Or.inr ⟨(hw _ (List.mem_of_getElem? (i := 21) rfl)), rfl, hnm⟩) (hw _ (List.mem_of_getElem? (i := 7) rfl)) (ty := .int) (by decide) rfl rfl (g := (mkF m 35 #[.val (.ref a0), .val (.int ev), .val (.int re)] [(.int ev), (.ref a0)])) rfl rfl (hb hby own_d3_35)
  have f8 : Fld Z h7 a0 "io/bucketry/Testnet$Every" "every" "I" (.int ev) := F1.same W7
  have f9 : Exa Z h7 a0 "io/bucketry/Testnet$Every" := (F0.wr W7)
  have f10 : Fld Z h7 a0 "io/bucketry/Testnet$Every" "remainder" "I" (.int (0 : Int32)) := (F2.other W7 (Or.inr (slot_ne (Or.inr (hw _ (List.mem_of_getElem? (i := 23) rfl))) (Or.inr (hw _ (List.mem_of_getElem? (i := 21) rfl))) (by decide) (t := .int) (t' := .int) (by decide) (by decide))))
  have N7 := Fr.snoc X7 N3 g_a0
  have kk11 : Keep h0 h7 [a0] := K0.wr W7 (Or.inl (List.mem_of_getElem? (i := 0) rfl))
  refine own_of (S' := T7.setTop (mkF m 38 #[.val (.ref a0), .val (.int ev), .val (.int re)] [])) st7 ?_
  refine own_of (S' := T7.setTop (mkF m 39 #[.val (.ref a0), .val (.int ev), .val (.int re)] [(.ref a0)])) (fun t k => XS.aloadN X7.here hx rfl (hb hby own_d3_38) rfl rfl k) ?_
  refine own_of (S' := T7.setTop (mkF m 40 #[.val (.ref a0), .val (.int ev), .val (.int re)] [(.int re), (.ref a0)])) (fun t k => XS.iloadN X7.here hx rfl (hb hby own_d3_39) rfl k) ?_
  obtain ⟨T12, h12, X12, e12, W12, st12⟩ := putF X7 hx hZ hown (host := "") (Or.inl (hw _ (List.mem_of_getElem? (i := 22) rfl))) Via.refl e7 f10 f9 (Or.inr ⟨(hw _ (List.mem_of_getElem? (i := 23) rfl)), rfl, hnm⟩) (hw _ (List.mem_of_getElem? (i := 7) rfl)) (ty := .int) (by decide) rfl rfl (g := (mkF m 40 #[.val (.ref a0), .val (.int ev), .val (.int re)] [(.int re), (.ref a0)])) rfl rfl (hb hby own_d3_40)
  have f13 : Fld Z h12 a0 "io/bucketry/Testnet$Every" "remainder" "I" (.int re) := f10.same W12
  have f14 : Exa Z h12 a0 "io/bucketry/Testnet$Every" := (f9.wr W12)
  have f15 : Fld Z h12 a0 "io/bucketry/Testnet$Every" "every" "I" (.int ev) := (f8.other W12 (Or.inr (slot_ne (Or.inr (hw _ (List.mem_of_getElem? (i := 21) rfl))) (Or.inr (hw _ (List.mem_of_getElem? (i := 23) rfl))) (by decide) (t := .int) (t' := .int) (by decide) (by decide))))
  have N12 := Fr.snoc X12 N7 g_a0
  have kk16 : Keep h0 h12 [a0] := kk11.wr W12 (Or.inl (List.mem_of_getElem? (i := 0) rfl))
  refine own_of (S' := T12.setTop (mkF m 43 #[.val (.ref a0), .val (.int ev), .val (.int re)] [])) st12 ?_
  obtain ⟨fs, hr, hrun, hended, hW, hsame⟩ := X12.leave (v := none) (fun _ => rfl)
  refine ⟨_, _, X12.returnOut hx Bd.returns (hb hby own_d3_43) hr, hrun, hended, hG _ _ ⟨_, _, rfl, ?_, ⟨_, rfl⟩, hW, hsame.mono (by decide) (by decide)⟩⟩
  show own_Q3 Z a0 ev re h0 n0 _ T12.heap _
  rw [e12]
  exact ⟨rfl, N12, kk16, f14, f15, f13⟩
theorem own_d4_0 : decode prog_67_method_2_code 0 = .ok (.iload_n 1, 1) := by decide +kernel
theorem own_d4_1 : decode prog_67_method_2_code 1 = .ok (.aload_n 0, 1) := by decide +kernel
theorem own_d4_2 : decode prog_67_method_2_code 2 = .ok (.getfield 16, 3) := by decide +kernel
theorem own_d4_5 : decode prog_67_method_2_code 5 = .ok (.irem, 1) := by decide +kernel
theorem own_d4_6 : decode prog_67_method_2_code 6 = .ok (.aload_n 0, 1) := by decide +kernel
theorem own_d4_7 : decode prog_67_method_2_code 7 = .ok (.getfield 22, 3) := by decide +kernel
theorem own_d4_10 : decode prog_67_method_2_code 10 = .ok (.if_icmp .ne 7, 3) := by decide +kernel
theorem own_d4_13 : decode prog_67_method_2_code 13 = .ok (.iconst 1, 1) := by decide +kernel
theorem own_d4_14 : decode prog_67_method_2_code 14 = .ok (.goto 4, 3) := by decide +kernel
theorem own_d4_17 : decode prog_67_method_2_code 17 = .ok (.iconst 0, 1) := by decide +kernel
theorem own_d4_18 : decode prog_67_method_2_code 18 = .ok (.ireturn, 1) := by decide +kernel
abbrev own_room4 : Room := { frames := 0, cells := 0, slots := 0, locals := 0 }
theorem own_pn4 : plainName "io/bucketry/Testnet$Every" = true := by first | (simp [plainName, overriddenIn]; done) | decide +kernel
theorem own_ef4 (m : MethodId) (a0 : Addr) (ix : Int32) : entryFrame m #[(.ref a0), (.int ix)] 2 = mkF m 0 #[.val (.ref a0), .val (.int ix)] [] := by first | (simp [entryFrame, mkF, argsToLocals, Value.category]; done) | rfl
def own_Q4 (Z : State) (a0 : Addr) (ix : Int32) (ev : Int32) (re : Int32) (h0 : Heap) (n0 : Nat) (v : Option Value) (h : Heap) (L : List Loc) : Prop := v = some (.int (own_inc ix ev re)) ∧ Fr n0 L ∧ h = h0
set_option maxRecDepth 65536 in
set_option maxHeartbeats 40000000 in
theorem own_rm4 (l : Launch) (Z : State) (a0 : Array Value) (hw : ∀ d ∈ tables_1, d.before a0 Z = true) (ws : List Jvm.Cond) (a0 : Addr) (ix : Int32) (ev : Int32) (re : Int32) (h0 : Heap) (n0 : Nat) (F0 : Fld Z h0 a0 "io/bucketry/Testnet$Every" "every" "I" (.int ev)) (F1 : Fld Z h0 a0 "io/bucketry/Testnet$Every" "remainder" "I" (.int re)) (hp1 : ev ≠ (0 : Int32)) :
    MetFree l (⟨"io/bucketry/Testnet$Every", "includes", "(I)Z"⟩ : MethodName) (head1 (Jvm.Cond.code (⟨"io/bucketry/Testnet$Every", "includes", "(I)Z"⟩ : MethodName) prog_67_method_2_code 2 (some .boolean) :: ws) (own_room4 : Room)) (fun a U => a = #[(.ref a0), (.int ix)] ∧ Z.Warmed39 U.vm ∧ U.heap = h0) (fun _ _ _ _ _ => True) (fun _ U o U' => ∃ v L, o = .returned v ∧ own_Q4 Z a0 ix ev re h0 n0 v U'.heap L ∧ FrameEnd U o U' L (own_room4 : Room).cells (own_room4 : Room).slots) := by
  refine MetFree.of_bodySF (plainFor_of_name own_pn4) hisR ?_
  intro p e s m args below meth c s₁ Bd hml0 hP hK
  obtain ⟨rfl, hZ, hh⟩ := hP
  have hx := Bd.exec
  have hby := Bd.bytes
  have hml : c.maxLocals = 2 := hml0
  have hown : s.vm.findClass "io/bucketry/Testnet$Every" = some m.cls := findClass_of_methodNamed Bd.named
  have hnm := (name_of_methodNamed Bd.named Bd.method).1
  have X0 : Stand p l e (own_room4 : Room) s m #[(.ref a0), (.int ix)] below meth c s₁ [] 0 0 := Stand.of_body Bd
  have e0 : s₁.heap = h0 := by rw [← hh, Bd.state]; rfl
  have N0 := Fr.nil n0
  refine own_out fun G hG => ?_
  rw [own_ef4 m a0 ix]
  show own_Go p.tables e below G (s₁.setTop (mkF m 0 #[.val (.ref a0), .val (.int ix)] []))
  refine own_of (S' := s₁.setTop (mkF m 1 #[.val (.ref a0), .val (.int ix)] [(.int ix)])) (fun t k => XS.iloadN X0.here hx rfl (hb hby own_d4_0) rfl k) ?_
  refine own_of (S' := s₁.setTop (mkF m 2 #[.val (.ref a0), .val (.int ix)] [(.ref a0), (.int ix)])) (fun t k => XS.aloadN X0.here hx rfl (hb hby own_d4_1) rfl rfl k) ?_
  obtain ⟨T17, X17, e17, st17⟩ := getF X0 hx hZ hown (host := "") (Or.inl (hw _ (List.mem_of_getElem? (i := 20) rfl))) Via.refl e0 F0 (g := (mkF m 2 #[.val (.ref a0), .val (.int ix)] [(.ref a0), (.int ix)])) rfl rfl (hb hby own_d4_2)
  refine own_of (S' := T17.setTop (mkF m 5 #[.val (.ref a0), .val (.int ix)] [(.int ev), (.int ix)])) st17 ?_
  have hz18 : ev ≠ (0 : Int32) := by exact hp1
  refine own_of (S' := T17.setTop (mkF m 6 #[.val (.ref a0), .val (.int ix)] [(.int (ix % ev))])) (fun t k => iremM X17 hx rfl (hb hby own_d4_5) rfl hz18 k) ?_
  refine own_of (S' := T17.setTop (mkF m 7 #[.val (.ref a0), .val (.int ix)] [(.ref a0), (.int (ix % ev))])) (fun t k => XS.aloadN X17.here hx rfl (hb hby own_d4_6) rfl rfl k) ?_
  obtain ⟨T19, X19, e19, st19⟩ := getF X17 hx hZ hown (host := "") (Or.inl (hw _ (List.mem_of_getElem? (i := 22) rfl))) Via.refl e17 F1 (g := (mkF m 7 #[.val (.ref a0), .val (.int ix)] [(.ref a0), (.int (ix % ev))])) rfl rfl (hb hby own_d4_7)
  refine own_of (S' := T19.setTop (mkF m 10 #[.val (.ref a0), .val (.int ix)] [(.int re), (.int (ix % ev))])) st19 ?_
  by_cases hc10 : (ix % ev) = re
  · refine own_of (S' := T19.setTop (mkF m 13 #[.val (.ref a0), .val (.int ix)] [])) (fun t k => XS.icmpNo X19.here hx rfl (hb hby own_d4_10) rfl (teq hc10).2 k) ?_
    refine own_of (S' := T19.setTop (mkF m 14 #[.val (.ref a0), .val (.int ix)] [(.int (1 : Int32))])) (fun t k => XS.iconst X19.here hx rfl (hb hby own_d4_13) k) ?_
    refine own_of (S' := T19.setTop (mkF m 18 #[.val (.ref a0), .val (.int ix)] [(.int (1 : Int32))])) (fun t k => XS.goto X19.here hx rfl (pc0 := 14) (pc' := 18) rfl (hb hby own_d4_14) (by decide) (by decide) k) ?_
    obtain ⟨fs, hr, hrun, hended, hW, hsame⟩ := X19.leave (v := some (.int (nar .boolean (1 : Int32)))) (fun h => by rw [Bd.returns] at h; cases h)
    refine ⟨_, _, retN X19 hx (t := .boolean) Bd.returns (by simp) (hb hby own_d4_18) hr, hrun, hended, hG _ _ ⟨_, _, rfl, ?_, ⟨_, rfl⟩, hW, hsame.mono (by decide) (by decide)⟩⟩
    show own_Q4 Z a0 ix ev re h0 n0 _ T19.heap _
    rw [e19]
    have hl : nar .boolean (1 : Int32) = (own_inc ix ev re) := by simp [own_inc, nar, *]
    exact ⟨congrArg (fun w => some (Value.int w)) hl, N0, rfl⟩
  · refine own_of (S' := T19.setTop (mkF m 17 #[.val (.ref a0), .val (.int ix)] [])) (fun t k => XS.icmpYes X19.here hx rfl (pc0 := 10) (pc' := 17) rfl (hb hby own_d4_10) rfl (feq hc10).2 (by decide) (by decide) k) ?_
    refine own_of (S' := T19.setTop (mkF m 18 #[.val (.ref a0), .val (.int ix)] [(.int (0 : Int32))])) (fun t k => XS.iconst X19.here hx rfl (hb hby own_d4_17) k) ?_
    obtain ⟨fs, hr, hrun, hended, hW, hsame⟩ := X19.leave (v := some (.int (nar .boolean (0 : Int32)))) (fun h => by rw [Bd.returns] at h; cases h)
    refine ⟨_, _, retN X19 hx (t := .boolean) Bd.returns (by simp) (hb hby own_d4_18) hr, hrun, hended, hG _ _ ⟨_, _, rfl, ?_, ⟨_, rfl⟩, hW, hsame.mono (by decide) (by decide)⟩⟩
    show own_Q4 Z a0 ix ev re h0 n0 _ T19.heap _
    rw [e19]
    have hl : nar .boolean (0 : Int32) = (own_inc ix ev re) := by simp [own_inc, nar, *]
    exact ⟨congrArg (fun w => some (Value.int w)) hl, N0, rfl⟩
theorem own_pn0 : plainName "io/bucketry/EveryIncludesPinLaw" = true := by first | (simp [plainName, overriddenIn]; done) | decide +kernel
theorem own_ef0 (m : MethodId) (e_ : Int32) (r_ : Int32) (s_ : Int32) (q_ : Int32) (fl : Int32) : entryFrame m #[(.int e_), (.int r_), (.int s_), (.int q_), (.int fl)] maxLocals = mkF m 0 #[.val (.int e_), .val (.int r_), .val (.int s_), .val (.int q_), .val (.int fl), .unset, .unset, .unset, .unset, .unset, .unset, .unset, .unset, .unset, .unset] [] := by first | (simp [entryFrame, mkF, argsToLocals, Value.category, maxLocals]; done) | rfl
def own_Q0 (Z : State) (e_ : Int32) (r_ : Int32) (s_ : Int32) (q_ : Int32) (fl : Int32) (h0 : Heap) (n0 : Nat) (v : Option Value) (h : Heap) (L : List Loc) : Prop := v = some (.int 1) ∧ Fr n0 L
set_option maxRecDepth 65536 in
set_option maxHeartbeats 40000000 in
theorem own_rm0 (l : Launch) (Z : State) (a0 : Array Value) (hw : ∀ d ∈ tables_1, d.before a0 Z = true) (ws : List Jvm.Cond) (e_ : Int32) (r_ : Int32) (s_ : Int32) (q_ : Int32) (fl : Int32) (h0 : Heap) (n0 : Nat) (Z0 : n0 ≤ h0.size) :
    MetFree l x (head1 (Jvm.Cond.code x code maxLocals ret :: ws) room_1) (fun a U => a = #[(.int e_), (.int r_), (.int s_), (.int q_), (.int fl)] ∧ Z.Warmed39 U.vm ∧ U.heap = h0) (fun _ _ _ _ _ => True) (fun _ U o U' => ∃ v L, o = .returned v ∧ own_Q0 Z e_ r_ s_ q_ fl h0 n0 v U'.heap L ∧ FrameEnd U o U' L 1 2) := by
  refine MetFree.of_bodySF (plainFor_of_name own_pn0) hisR ?_
  intro p e s m args below meth c s₁ Bd hml0 hP hK
  obtain ⟨rfl, hZ, hh⟩ := hP
  have hx := Bd.exec
  have hby := Bd.bytes
  have hml : c.maxLocals = 15 := hml0
  have hown : s.vm.findClass "io/bucketry/EveryIncludesPinLaw" = some m.cls := findClass_of_methodNamed Bd.named
  have hnm := (name_of_methodNamed Bd.named Bd.method).1
  have X0 : Stand p l e room_1 s m #[(.int e_), (.int r_), (.int s_), (.int q_), (.int fl)] below meth c s₁ [] 0 0 := Stand.of_body Bd
  have e0 : s₁.heap = h0 := by rw [← hh, Bd.state]; rfl
  have N0 := Fr.nil n0
  refine own_out fun G hG => ?_
  rw [own_ef0 m e_ r_ s_ q_ fl]
  show own_Go p.tables e below G (s₁.setTop (mkF m 0 #[.val (.int e_), .val (.int r_), .val (.int s_), .val (.int q_), .val (.int fl), .unset, .unset, .unset, .unset, .unset, .unset, .unset, .unset, .unset, .unset] []))
  refine own_of (S' := s₁.setTop (mkF m 1 #[.val (.int e_), .val (.int r_), .val (.int s_), .val (.int q_), .val (.int fl), .unset, .unset, .unset, .unset, .unset, .unset, .unset, .unset, .unset, .unset] [(.int (1 : Int32))])) (fun t k => XS.iconst X0.here hx rfl (hb hby at_0) k) ?_
  refine own_of (S' := s₁.setTop (mkF m 2 #[.val (.int e_), .val (.int r_), .val (.int s_), .val (.int q_), .val (.int fl), .unset, .unset, .unset, .unset, .unset, .unset, .unset, .unset, .unset, .unset] [(.int e_), (.int (1 : Int32))])) (fun t k => XS.iloadN X0.here hx rfl (hb hby at_1) rfl k) ?_
  refine own_of (S' := s₁.setTop (mkF m 4 #[.val (.int e_), .val (.int r_), .val (.int s_), .val (.int q_), .val (.int fl), .unset, .unset, .unset, .unset, .unset, .unset, .unset, .unset, .unset, .unset] [(.int (2147483647 : Int32)), (.int e_), (.int (1 : Int32))])) (X0.ldcInt hx hown (mvT hZ (hw _ (List.mem_of_getElem? (i := 0) rfl))) (g := (mkF m 2 #[.val (.int e_), .val (.int r_), .val (.int s_), .val (.int q_), .val (.int fl), .unset, .unset, .unset, .unset, .unset, .unset, .unset, .unset, .unset, .unset] [(.int e_), (.int (1 : Int32))])) rfl (hb hby at_2)) ?_
  refine own_of (S' := s₁.setTop (mkF m 5 #[.val (.int e_), .val (.int r_), .val (.int s_), .val (.int q_), .val (.int fl), .unset, .unset, .unset, .unset, .unset, .unset, .unset, .unset, .unset, .unset] [(.int (e_ &&& (2147483647 : Int32))), (.int (1 : Int32))])) (fun t k => XS.iand X0.here hx rfl (hb hby at_4) rfl k) ?_
  obtain ⟨_, _, ⟨T21, L21, k21, n21⟩, -, X21, ⟨Lc21, hQ21, l21, y21, z21⟩, st21⟩ := Jvm.LawKit.callS X0 hx (y := (⟨"java/lang/Math", "max", "(II)I"⟩ : MethodName)) hown (mvT hZ (hw _ (List.mem_of_getElem? (i := 1) rfl))) (mvT hZ (hw _ (List.mem_of_getElem? (i := 2) rfl))) (mvT hZ (hw _ (List.mem_of_getElem? (i := 3) rfl))) (mvT hZ (hw _ (List.mem_of_getElem? (i := 4) rfl))) (by decide) (backOf (W := 0) (own_rm1 l Z _ hw [] (1 : Int32) (e_ &&& (2147483647 : Int32)) h0 n0 ) hZ (hw _ (List.mem_of_getElem? (i := 4) rfl)) (hw _ (List.mem_of_getElem? (i := 3) rfl)) (by decide) (by decide)) (g := (mkF m 5 #[.val (.int e_), .val (.int r_), .val (.int s_), .val (.int q_), .val (.int fl), .unset, .unset, .unset, .unset, .unset, .unset, .unset, .unset, .unset, .unset] [(.int (e_ &&& (2147483647 : Int32))), (.int (1 : Int32))])) rfl (by rw [hml]; rfl) (argsL := [(.int (1 : Int32)), (.int (e_ &&& (2147483647 : Int32)))]) (rest := []) (lenOf own_pd1 rfl) rfl (by show 2 * 0 + _ ≤ _; exact Nat.le_of_eq rfl) (hb hby at_5) (fun _ _ => ⟨rfl, e0, (by decide : 0 + 0 ≤ _), (by decide : 0 + 0 ≤ _)⟩)
  dsimp only [Pt.U, Pt.locs, Pt.cells, Pt.slots] at X21 l21 y21 z21 st21 hQ21
  subst l21 y21 z21
  obtain ⟨rfl, M21, eh21⟩ := hQ21
  have N21 := Fr.app N0 M21
  refine own_of (S' := T21.setTop (mkF m 8 #[.val (.int e_), .val (.int r_), .val (.int s_), .val (.int q_), .val (.int fl), .unset, .unset, .unset, .unset, .unset, .unset, .unset, .unset, .unset, .unset] [(.int (own_max (1 : Int32) (e_ &&& (2147483647 : Int32))))])) (fun t k => st21 _ k) ?_
  generalize q5 : (own_max (1 : Int32) (e_ &&& (2147483647 : Int32))) = r5
  refine own_of (S' := T21.setTop (mkF m 10 #[.val (.int e_), .val (.int r_), .val (.int s_), .val (.int q_), .val (.int fl), .val (.int r5), .unset, .unset, .unset, .unset, .unset, .unset, .unset, .unset, .unset] [])) (fun t k => XS.istore X21.here hx rfl (hb hby at_8) rfl (l' := #[.val (.int e_), .val (.int r_), .val (.int s_), .val (.int q_), .val (.int fl), .val (.int r5), .unset, .unset, .unset, .unset, .unset, .unset, .unset, .unset, .unset]) rfl k) ?_
  refine own_of (S' := T21.setTop (mkF m 11 #[.val (.int e_), .val (.int r_), .val (.int s_), .val (.int q_), .val (.int fl), .val (.int r5), .unset, .unset, .unset, .unset, .unset, .unset, .unset, .unset, .unset] [(.int r_)])) (fun t k => XS.iloadN X21.here hx rfl (hb hby at_10) rfl k) ?_
  refine own_of (S' := T21.setTop (mkF m 13 #[.val (.int e_), .val (.int r_), .val (.int s_), .val (.int q_), .val (.int fl), .val (.int r5), .unset, .unset, .unset, .unset, .unset, .unset, .unset, .unset, .unset] [(.int (2147483647 : Int32)), (.int r_)])) (X21.ldcInt hx hown (mvT hZ (hw _ (List.mem_of_getElem? (i := 0) rfl))) (g := (mkF m 11 #[.val (.int e_), .val (.int r_), .val (.int s_), .val (.int q_), .val (.int fl), .val (.int r5), .unset, .unset, .unset, .unset, .unset, .unset, .unset, .unset, .unset] [(.int r_)])) rfl (hb hby at_11)) ?_
  refine own_of (S' := T21.setTop (mkF m 14 #[.val (.int e_), .val (.int r_), .val (.int s_), .val (.int q_), .val (.int fl), .val (.int r5), .unset, .unset, .unset, .unset, .unset, .unset, .unset, .unset, .unset] [(.int (r_ &&& (2147483647 : Int32)))])) (fun t k => XS.iand X21.here hx rfl (hb hby at_13) rfl k) ?_
  refine own_of (S' := T21.setTop (mkF m 16 #[.val (.int e_), .val (.int r_), .val (.int s_), .val (.int q_), .val (.int fl), .val (.int r5), .unset, .unset, .unset, .unset, .unset, .unset, .unset, .unset, .unset] [(.int r5), (.int (r_ &&& (2147483647 : Int32)))])) (fun t k => XS.iload X21.here hx rfl (hb hby at_14) rfl k) ?_
  have hz22 : r5 ≠ (0 : Int32) := by exact (own_ev q5).2
  refine own_of (S' := T21.setTop (mkF m 17 #[.val (.int e_), .val (.int r_), .val (.int s_), .val (.int q_), .val (.int fl), .val (.int r5), .unset, .unset, .unset, .unset, .unset, .unset, .unset, .unset, .unset] [(.int ((r_ &&& (2147483647 : Int32)) % r5))])) (fun t k => iremM X21 hx rfl (hb hby at_16) rfl hz22 k) ?_
  generalize q17 : ((r_ &&& (2147483647 : Int32)) % r5) = x17
  refine own_of (S' := T21.setTop (mkF m 19 #[.val (.int e_), .val (.int r_), .val (.int s_), .val (.int q_), .val (.int fl), .val (.int r5), .val (.int x17), .unset, .unset, .unset, .unset, .unset, .unset, .unset, .unset] [])) (fun t k => XS.istore X21.here hx rfl (hb hby at_17) rfl (l' := #[.val (.int e_), .val (.int r_), .val (.int s_), .val (.int q_), .val (.int fl), .val (.int r5), .val (.int x17), .unset, .unset, .unset, .unset, .unset, .unset, .unset, .unset]) rfl k) ?_
  refine own_of (S' := T21.setTop (mkF m 21 #[.val (.int e_), .val (.int r_), .val (.int s_), .val (.int q_), .val (.int fl), .val (.int r5), .val (.int x17), .unset, .unset, .unset, .unset, .unset, .unset, .unset, .unset] [(.int fl)])) (fun t k => XS.iload X21.here hx rfl (hb hby at_19) rfl k) ?_
  refine own_of (S' := T21.setTop (mkF m 22 #[.val (.int e_), .val (.int r_), .val (.int s_), .val (.int q_), .val (.int fl), .val (.int r5), .val (.int x17), .unset, .unset, .unset, .unset, .unset, .unset, .unset, .unset] [(.int (1 : Int32)), (.int fl)])) (fun t k => XS.iconst X21.here hx rfl (hb hby at_21) k) ?_
  refine own_of (S' := T21.setTop (mkF m 23 #[.val (.int e_), .val (.int r_), .val (.int s_), .val (.int q_), .val (.int fl), .val (.int r5), .val (.int x17), .unset, .unset, .unset, .unset, .unset, .unset, .unset, .unset] [(.int (fl &&& (1 : Int32)))])) (fun t k => XS.iand X21.here hx rfl (hb hby at_22) rfl k) ?_
  obtain ⟨j38_s0, qj38_s0⟩ : ∃ z : Int32, z = (if (fl &&& (1 : Int32)) = (0 : Int32) then ((s_ &&& (2147483647 : Int32)) % r5) else x17) := ⟨_, rfl⟩
  suffices k25 : ∀ (T' : State) (locs' : List Loc), Stand p l e room_1 s m #[(.int e_), (.int r_), (.int s_), (.int q_), (.int fl)] below meth c T' locs' 0 0 → Fr n0 locs' → T'.heap = h0 → own_Go p.tables e below G (T'.setTop (mkF m 38 #[.val (.int e_), .val (.int r_), .val (.int s_), .val (.int q_), .val (.int fl), .val (.int r5), .val (.int x17), .unset, .unset, .unset, .unset, .unset, .unset, .unset, .unset] [(.int j38_s0)])) by
    by_cases hc23 : (fl &&& (1 : Int32)) = (0 : Int32)
    · refine own_of (S' := T21.setTop (mkF m 31 #[.val (.int e_), .val (.int r_), .val (.int s_), .val (.int q_), .val (.int fl), .val (.int r5), .val (.int x17), .unset, .unset, .unset, .unset, .unset, .unset, .unset, .unset] [])) (fun t k => XS.ifYes X21.here hx rfl (pc0 := 23) (pc' := 31) rfl (hb hby at_23) rfl ((if0 _ _).trans (teq hc23).1) (by decide) (by decide) k) ?_
      refine own_of (S' := T21.setTop (mkF m 32 #[.val (.int e_), .val (.int r_), .val (.int s_), .val (.int q_), .val (.int fl), .val (.int r5), .val (.int x17), .unset, .unset, .unset, .unset, .unset, .unset, .unset, .unset] [(.int s_)])) (fun t k => XS.iloadN X21.here hx rfl (hb hby at_31) rfl k) ?_
      refine own_of (S' := T21.setTop (mkF m 34 #[.val (.int e_), .val (.int r_), .val (.int s_), .val (.int q_), .val (.int fl), .val (.int r5), .val (.int x17), .unset, .unset, .unset, .unset, .unset, .unset, .unset, .unset] [(.int (2147483647 : Int32)), (.int s_)])) (X21.ldcInt hx hown (mvT hZ (hw _ (List.mem_of_getElem? (i := 0) rfl))) (g := (mkF m 32 #[.val (.int e_), .val (.int r_), .val (.int s_), .val (.int q_), .val (.int fl), .val (.int r5), .val (.int x17), .unset, .unset, .unset, .unset, .unset, .unset, .unset, .unset] [(.int s_)])) rfl (hb hby at_32)) ?_
      refine own_of (S' := T21.setTop (mkF m 35 #[.val (.int e_), .val (.int r_), .val (.int s_), .val (.int q_), .val (.int fl), .val (.int r5), .val (.int x17), .unset, .unset, .unset, .unset, .unset, .unset, .unset, .unset] [(.int (s_ &&& (2147483647 : Int32)))])) (fun t k => XS.iand X21.here hx rfl (hb hby at_34) rfl k) ?_
      refine own_of (S' := T21.setTop (mkF m 37 #[.val (.int e_), .val (.int r_), .val (.int s_), .val (.int q_), .val (.int fl), .val (.int r5), .val (.int x17), .unset, .unset, .unset, .unset, .unset, .unset, .unset, .unset] [(.int r5), (.int (s_ &&& (2147483647 : Int32)))])) (fun t k => XS.iload X21.here hx rfl (hb hby at_35) rfl k) ?_
      have hz24 : r5 ≠ (0 : Int32) := by exact (own_ev q5).2
      refine own_of (S' := T21.setTop (mkF m 38 #[.val (.int e_), .val (.int r_), .val (.int s_), .val (.int q_), .val (.int fl), .val (.int r5), .val (.int x17), .unset, .unset, .unset, .unset, .unset, .unset, .unset, .unset] [(.int ((s_ &&& (2147483647 : Int32)) % r5))])) (fun t k => iremM X21 hx rfl (hb hby at_37) rfl hz24 k) ?_
      have jw26 : j38_s0 = (((s_ &&& (2147483647 : Int32)) % r5) : Int32) := qj38_s0.trans (if_pos hc23)
      rw [jw26] at k25
      exact k25 T21 _ X21 N21 eh21
    · refine own_of (S' := T21.setTop (mkF m 26 #[.val (.int e_), .val (.int r_), .val (.int s_), .val (.int q_), .val (.int fl), .val (.int r5), .val (.int x17), .unset, .unset, .unset, .unset, .unset, .unset, .unset, .unset] [])) (fun t k => XS.ifNo X21.here hx rfl (hb hby at_23) rfl ((if0 _ _).trans (feq hc23).1) k) ?_
      refine own_of (S' := T21.setTop (mkF m 28 #[.val (.int e_), .val (.int r_), .val (.int s_), .val (.int q_), .val (.int fl), .val (.int r5), .val (.int x17), .unset, .unset, .unset, .unset, .unset, .unset, .unset, .unset] [(.int x17)])) (fun t k => XS.iload X21.here hx rfl (hb hby at_26) rfl k) ?_
      refine own_of (S' := T21.setTop (mkF m 38 #[.val (.int e_), .val (.int r_), .val (.int s_), .val (.int q_), .val (.int fl), .val (.int r5), .val (.int x17), .unset, .unset, .unset, .unset, .unset, .unset, .unset, .unset] [(.int x17)])) (fun t k => XS.goto X21.here hx rfl (pc0 := 28) (pc' := 38) rfl (hb hby at_28) (by decide) (by decide) k) ?_
      have jw27 : j38_s0 = (x17 : Int32) := qj38_s0.trans (if_neg hc23)
      rw [jw27] at k25
      exact k25 T21 _ X21 N21 eh21
  intro T25 locs25 X25 N25 e25
  refine own_of (S' := T25.setTop (mkF m 40 #[.val (.int e_), .val (.int r_), .val (.int s_), .val (.int q_), .val (.int fl), .val (.int r5), .val (.int x17), .val (.int j38_s0), .unset, .unset, .unset, .unset, .unset, .unset, .unset] [])) (fun t k => XS.istore X25.here hx rfl (hb hby at_38) rfl (l' := #[.val (.int e_), .val (.int r_), .val (.int s_), .val (.int q_), .val (.int fl), .val (.int r5), .val (.int x17), .val (.int j38_s0), .unset, .unset, .unset, .unset, .unset, .unset, .unset]) rfl k) ?_
  refine own_of (S' := T25.setTop (mkF m 43 #[.val (.int e_), .val (.int r_), .val (.int s_), .val (.int q_), .val (.int fl), .val (.int r5), .val (.int x17), .val (.int j38_s0), .unset, .unset, .unset, .unset, .unset, .unset, .unset] [(.long (2147483647 : Int64))])) (X25.ldc2Long hx hown (mvT hZ (hw _ (List.mem_of_getElem? (i := 5) rfl))) (g := (mkF m 40 #[.val (.int e_), .val (.int r_), .val (.int s_), .val (.int q_), .val (.int fl), .val (.int r5), .val (.int x17), .val (.int j38_s0), .unset, .unset, .unset, .unset, .unset, .unset, .unset] [])) rfl (hb hby at_40)) ?_
  refine own_of (S' := T25.setTop (mkF m 45 #[.val (.int e_), .val (.int r_), .val (.int s_), .val (.int q_), .val (.int fl), .val (.int r5), .val (.int x17), .val (.int j38_s0), .unset, .unset, .unset, .unset, .unset, .unset, .unset] [(.int j38_s0), (.long (2147483647 : Int64))])) (fun t k => XS.iload X25.here hx rfl (hb hby at_43) rfl k) ?_
  refine own_of (S' := T25.setTop (mkF m 46 #[.val (.int e_), .val (.int r_), .val (.int s_), .val (.int q_), .val (.int fl), .val (.int r5), .val (.int x17), .val (.int j38_s0), .unset, .unset, .unset, .unset, .unset, .unset, .unset] [(.long (j38_s0.toInt64)), (.long (2147483647 : Int64))])) (fun t k => XS.i2l X25.here hx rfl (hb hby at_45) rfl k) ?_
  refine own_of (S' := T25.setTop (mkF m 47 #[.val (.int e_), .val (.int r_), .val (.int s_), .val (.int q_), .val (.int fl), .val (.int r5), .val (.int x17), .val (.int j38_s0), .unset, .unset, .unset, .unset, .unset, .unset, .unset] [(.long ((2147483647 : Int64) - (j38_s0.toInt64)))])) (fun t k => XS.lsub X25.here hx rfl (hb hby at_46) rfl k) ?_
  refine own_of (S' := T25.setTop (mkF m 49 #[.val (.int e_), .val (.int r_), .val (.int s_), .val (.int q_), .val (.int fl), .val (.int r5), .val (.int x17), .val (.int j38_s0), .unset, .unset, .unset, .unset, .unset, .unset, .unset] [(.int r5), (.long ((2147483647 : Int64) - (j38_s0.toInt64)))])) (fun t k => XS.iload X25.here hx rfl (hb hby at_47) rfl k) ?_
  refine own_of (S' := T25.setTop (mkF m 50 #[.val (.int e_), .val (.int r_), .val (.int s_), .val (.int q_), .val (.int fl), .val (.int r5), .val (.int x17), .val (.int j38_s0), .unset, .unset, .unset, .unset, .unset, .unset, .unset] [(.long (r5.toInt64)), (.long ((2147483647 : Int64) - (j38_s0.toInt64)))])) (fun t k => XS.i2l X25.here hx rfl (hb hby at_49) rfl k) ?_
  have hz28 : (r5.toInt64) ≠ (0 : Int64) := by exact own_nz64 (own_ev q5).1
  refine own_of (S' := T25.setTop (mkF m 51 #[.val (.int e_), .val (.int r_), .val (.int s_), .val (.int q_), .val (.int fl), .val (.int r5), .val (.int x17), .val (.int j38_s0), .unset, .unset, .unset, .unset, .unset, .unset, .unset] [(.long (((2147483647 : Int64) - (j38_s0.toInt64)) / (r5.toInt64)))])) (fun t k => XS.ldiv X25.here hx rfl (hb hby at_50) rfl hz28 k) ?_
  refine own_of (S' := T25.setTop (mkF m 52 #[.val (.int e_), .val (.int r_), .val (.int s_), .val (.int q_), .val (.int fl), .val (.int r5), .val (.int x17), .val (.int j38_s0), .unset, .unset, .unset, .unset, .unset, .unset, .unset] [(.long (1 : Int64)), (.long (((2147483647 : Int64) - (j38_s0.toInt64)) / (r5.toInt64)))])) (fun t k => XS.lconst X25.here hx rfl (hb hby at_51) k) ?_
  refine own_of (S' := T25.setTop (mkF m 53 #[.val (.int e_), .val (.int r_), .val (.int s_), .val (.int q_), .val (.int fl), .val (.int r5), .val (.int x17), .val (.int j38_s0), .unset, .unset, .unset, .unset, .unset, .unset, .unset] [(.long ((((2147483647 : Int64) - (j38_s0.toInt64)) / (r5.toInt64)) + (1 : Int64)))])) (fun t k => XS.ladd X25.here hx rfl (hb hby at_52) rfl k) ?_
  generalize q53 : ((((2147483647 : Int64) - (j38_s0.toInt64)) / (r5.toInt64)) + (1 : Int64)) = x53
  refine own_of (S' := T25.setTop (mkF m 55 #[.val (.int e_), .val (.int r_), .val (.int s_), .val (.int q_), .val (.int fl), .val (.int r5), .val (.int x17), .val (.int j38_s0), .val (.long x53), .second, .unset, .unset, .unset, .unset, .unset] [])) (fun t k => XS.lstore X25.here hx rfl (hb hby at_53) rfl (l' := #[.val (.int e_), .val (.int r_), .val (.int s_), .val (.int q_), .val (.int fl), .val (.int r5), .val (.int x17), .val (.int j38_s0), .val (.long x53), .second, .unset, .unset, .unset, .unset, .unset]) rfl k) ?_
  refine own_of (S' := T25.setTop (mkF m 56 #[.val (.int e_), .val (.int r_), .val (.int s_), .val (.int q_), .val (.int fl), .val (.int r5), .val (.int x17), .val (.int j38_s0), .val (.long x53), .second, .unset, .unset, .unset, .unset, .unset] [(.int q_)])) (fun t k => XS.iloadN X25.here hx rfl (hb hby at_55) rfl k) ?_
  refine own_of (S' := T25.setTop (mkF m 57 #[.val (.int e_), .val (.int r_), .val (.int s_), .val (.int q_), .val (.int fl), .val (.int r5), .val (.int x17), .val (.int j38_s0), .val (.long x53), .second, .unset, .unset, .unset, .unset, .unset] [(.long (q_.toInt64))])) (fun t k => XS.i2l X25.here hx rfl (hb hby at_56) rfl k) ?_
  refine own_of (S' := T25.setTop (mkF m 60 #[.val (.int e_), .val (.int r_), .val (.int s_), .val (.int q_), .val (.int fl), .val (.int r5), .val (.int x17), .val (.int j38_s0), .val (.long x53), .second, .unset, .unset, .unset, .unset, .unset] [(.long (2147483647 : Int64)), (.long (q_.toInt64))])) (X25.ldc2Long hx hown (mvT hZ (hw _ (List.mem_of_getElem? (i := 5) rfl))) (g := (mkF m 57 #[.val (.int e_), .val (.int r_), .val (.int s_), .val (.int q_), .val (.int fl), .val (.int r5), .val (.int x17), .val (.int j38_s0), .val (.long x53), .second, .unset, .unset, .unset, .unset, .unset] [(.long (q_.toInt64))])) rfl (hb hby at_57)) ?_
  refine own_of (S' := T25.setTop (mkF m 61 #[.val (.int e_), .val (.int r_), .val (.int s_), .val (.int q_), .val (.int fl), .val (.int r5), .val (.int x17), .val (.int j38_s0), .val (.long x53), .second, .unset, .unset, .unset, .unset, .unset] [(.long ((q_.toInt64) &&& (2147483647 : Int64)))])) (fun t k => XS.land X25.here hx rfl (hb hby at_60) rfl k) ?_
  refine own_of (S' := T25.setTop (mkF m 63 #[.val (.int e_), .val (.int r_), .val (.int s_), .val (.int q_), .val (.int fl), .val (.int r5), .val (.int x17), .val (.int j38_s0), .val (.long x53), .second, .unset, .unset, .unset, .unset, .unset] [(.long x53), (.long ((q_.toInt64) &&& (2147483647 : Int64)))])) (fun t k => XS.lload X25.here hx rfl (hb hby at_61) rfl k) ?_
  have hz29 : x53 ≠ (0 : Int64) := by exact own_nzq (own_ev q5).1 (own_rp (own_ev q5).1 q17 qj38_s0) q53
  refine own_of (S' := T25.setTop (mkF m 64 #[.val (.int e_), .val (.int r_), .val (.int s_), .val (.int q_), .val (.int fl), .val (.int r5), .val (.int x17), .val (.int j38_s0), .val (.long x53), .second, .unset, .unset, .unset, .unset, .unset] [(.long (((q_.toInt64) &&& (2147483647 : Int64)) % x53))])) (fun t k => XS.lrem X25.here hx rfl (hb hby at_63) rfl hz29 (by rw [lrem_mod]; exact k)) ?_
  generalize q64 : (((q_.toInt64) &&& (2147483647 : Int64)) % x53) = x64
  refine own_of (S' := T25.setTop (mkF m 66 #[.val (.int e_), .val (.int r_), .val (.int s_), .val (.int q_), .val (.int fl), .val (.int r5), .val (.int x17), .val (.int j38_s0), .val (.long x53), .second, .val (.long x64), .second, .unset, .unset, .unset] [])) (fun t k => XS.lstore X25.here hx rfl (hb hby at_64) rfl (l' := #[.val (.int e_), .val (.int r_), .val (.int s_), .val (.int q_), .val (.int fl), .val (.int r5), .val (.int x17), .val (.int j38_s0), .val (.long x53), .second, .val (.long x64), .second, .unset, .unset, .unset]) rfl k) ?_
  refine own_of (S' := T25.setTop (mkF m 68 #[.val (.int e_), .val (.int r_), .val (.int s_), .val (.int q_), .val (.int fl), .val (.int r5), .val (.int x17), .val (.int j38_s0), .val (.long x53), .second, .val (.long x64), .second, .unset, .unset, .unset] [(.long x64)])) (fun t k => XS.lload X25.here hx rfl (hb hby at_66) rfl k) ?_
  refine own_of (S' := T25.setTop (mkF m 70 #[.val (.int e_), .val (.int r_), .val (.int s_), .val (.int q_), .val (.int fl), .val (.int r5), .val (.int x17), .val (.int j38_s0), .val (.long x53), .second, .val (.long x64), .second, .unset, .unset, .unset] [(.int r5), (.long x64)])) (fun t k => XS.iload X25.here hx rfl (hb hby at_68) rfl k) ?_
  refine own_of (S' := T25.setTop (mkF m 71 #[.val (.int e_), .val (.int r_), .val (.int s_), .val (.int q_), .val (.int fl), .val (.int r5), .val (.int x17), .val (.int j38_s0), .val (.long x53), .second, .val (.long x64), .second, .unset, .unset, .unset] [(.long (r5.toInt64)), (.long x64)])) (fun t k => XS.i2l X25.here hx rfl (hb hby at_70) rfl k) ?_
  refine own_of (S' := T25.setTop (mkF m 72 #[.val (.int e_), .val (.int r_), .val (.int s_), .val (.int q_), .val (.int fl), .val (.int r5), .val (.int x17), .val (.int j38_s0), .val (.long x53), .second, .val (.long x64), .second, .unset, .unset, .unset] [(.long (x64 * (r5.toInt64)))])) (fun t k => XS.lmul X25.here hx rfl (hb hby at_71) rfl k) ?_
  refine own_of (S' := T25.setTop (mkF m 74 #[.val (.int e_), .val (.int r_), .val (.int s_), .val (.int q_), .val (.int fl), .val (.int r5), .val (.int x17), .val (.int j38_s0), .val (.long x53), .second, .val (.long x64), .second, .unset, .unset, .unset] [(.int j38_s0), (.long (x64 * (r5.toInt64)))])) (fun t k => XS.iload X25.here hx rfl (hb hby at_72) rfl k) ?_
  refine own_of (S' := T25.setTop (mkF m 75 #[.val (.int e_), .val (.int r_), .val (.int s_), .val (.int q_), .val (.int fl), .val (.int r5), .val (.int x17), .val (.int j38_s0), .val (.long x53), .second, .val (.long x64), .second, .unset, .unset, .unset] [(.long (j38_s0.toInt64)), (.long (x64 * (r5.toInt64)))])) (fun t k => XS.i2l X25.here hx rfl (hb hby at_74) rfl k) ?_
  refine own_of (S' := T25.setTop (mkF m 76 #[.val (.int e_), .val (.int r_), .val (.int s_), .val (.int q_), .val (.int fl), .val (.int r5), .val (.int x17), .val (.int j38_s0), .val (.long x53), .second, .val (.long x64), .second, .unset, .unset, .unset] [(.long ((x64 * (r5.toInt64)) + (j38_s0.toInt64)))])) (fun t k => XS.ladd X25.here hx rfl (hb hby at_75) rfl k) ?_
  generalize q76 : ((x64 * (r5.toInt64)) + (j38_s0.toInt64)) = x76
  refine own_of (S' := T25.setTop (mkF m 78 #[.val (.int e_), .val (.int r_), .val (.int s_), .val (.int q_), .val (.int fl), .val (.int r5), .val (.int x17), .val (.int j38_s0), .val (.long x53), .second, .val (.long x64), .second, .val (.long x76), .second, .unset] [])) (fun t k => XS.lstore X25.here hx rfl (hb hby at_76) rfl (l' := #[.val (.int e_), .val (.int r_), .val (.int s_), .val (.int q_), .val (.int fl), .val (.int r5), .val (.int x17), .val (.int j38_s0), .val (.long x53), .second, .val (.long x64), .second, .val (.long x76), .second, .unset]) rfl k) ?_
  refine own_of (S' := T25.setTop (mkF m 80 #[.val (.int e_), .val (.int r_), .val (.int s_), .val (.int q_), .val (.int fl), .val (.int r5), .val (.int x17), .val (.int j38_s0), .val (.long x53), .second, .val (.long x64), .second, .val (.long x76), .second, .unset] [(.long x76)])) (fun t k => XS.lload X25.here hx rfl (hb hby at_78) rfl k) ?_
  refine own_of (S' := T25.setTop (mkF m 81 #[.val (.int e_), .val (.int r_), .val (.int s_), .val (.int q_), .val (.int fl), .val (.int r5), .val (.int x17), .val (.int j38_s0), .val (.long x53), .second, .val (.long x64), .second, .val (.long x76), .second, .unset] [(.long (0 : Int64)), (.long x76)])) (fun t k => XS.lconst X25.here hx rfl (hb hby at_80) k) ?_
  refine own_of (S' := T25.setTop (mkF m 82 #[.val (.int e_), .val (.int r_), .val (.int s_), .val (.int q_), .val (.int fl), .val (.int r5), .val (.int x17), .val (.int j38_s0), .val (.long x53), .second, .val (.long x64), .second, .val (.long x76), .second, .unset] [(.int (lcmpW x76 (0 : Int64)))])) (fun t k => XS.lcmp X25.here hx rfl (hb hby at_81) rfl k) ?_
  have hc82 : ¬ (x76 < (0 : Int64)) := by exact (own_idx (own_ev q5).1 (own_rp (own_ev q5).1 q17 qj38_s0) q53 q64 q76).1
  refine own_of (S' := T25.setTop (mkF m 85 #[.val (.int e_), .val (.int r_), .val (.int s_), .val (.int q_), .val (.int fl), .val (.int r5), .val (.int x17), .val (.int j38_s0), .val (.long x53), .second, .val (.long x64), .second, .val (.long x76), .second, .unset] [])) (fun t k => XS.ifNo X25.here hx rfl (hb hby at_82) rfl ((if0 _ _).trans (flt (fun q => hc82 ((lw_lt x76 (0 : Int64)).mp q))).1) k) ?_
  refine own_of (S' := T25.setTop (mkF m 87 #[.val (.int e_), .val (.int r_), .val (.int s_), .val (.int q_), .val (.int fl), .val (.int r5), .val (.int x17), .val (.int j38_s0), .val (.long x53), .second, .val (.long x64), .second, .val (.long x76), .second, .unset] [(.long x76)])) (fun t k => XS.lload X25.here hx rfl (hb hby at_85) rfl k) ?_
  refine own_of (S' := T25.setTop (mkF m 90 #[.val (.int e_), .val (.int r_), .val (.int s_), .val (.int q_), .val (.int fl), .val (.int r5), .val (.int x17), .val (.int j38_s0), .val (.long x53), .second, .val (.long x64), .second, .val (.long x76), .second, .unset] [(.long (2147483647 : Int64)), (.long x76)])) (X25.ldc2Long hx hown (mvT hZ (hw _ (List.mem_of_getElem? (i := 5) rfl))) (g := (mkF m 87 #[.val (.int e_), .val (.int r_), .val (.int s_), .val (.int q_), .val (.int fl), .val (.int r5), .val (.int x17), .val (.int j38_s0), .val (.long x53), .second, .val (.long x64), .second, .val (.long x76), .second, .unset] [(.long x76)])) rfl (hb hby at_87)) ?_
  refine own_of (S' := T25.setTop (mkF m 91 #[.val (.int e_), .val (.int r_), .val (.int s_), .val (.int q_), .val (.int fl), .val (.int r5), .val (.int x17), .val (.int j38_s0), .val (.long x53), .second, .val (.long x64), .second, .val (.long x76), .second, .unset] [(.int (lcmpW x76 (2147483647 : Int64)))])) (fun t k => XS.lcmp X25.here hx rfl (hb hby at_90) rfl k) ?_
  have hc91 : ¬ ((2147483647 : Int64) < x76) := by exact (own_idx (own_ev q5).1 (own_rp (own_ev q5).1 q17 qj38_s0) q53 q64 q76).2.1
  refine own_of (S' := T25.setTop (mkF m 96 #[.val (.int e_), .val (.int r_), .val (.int s_), .val (.int q_), .val (.int fl), .val (.int r5), .val (.int x17), .val (.int j38_s0), .val (.long x53), .second, .val (.long x64), .second, .val (.long x76), .second, .unset] [])) (fun t k => XS.ifYes X25.here hx rfl (pc0 := 91) (pc' := 96) rfl (hb hby at_91) rfl ((if0 _ _).trans (flt (fun q => hc91 ((lw_gt x76 (2147483647 : Int64)).mp q))).2.2.2) (by decide) (by decide) k) ?_
  obtain ⟨T32, h32, X32, e32, E32, A32, D32, -, st32⟩ := newO X25 hx hZ hown (hw _ (List.mem_of_getElem? (i := 6) rfl)) (hw _ (List.mem_of_getElem? (i := 7) rfl)) (hw _ (List.mem_of_getElem? (i := 8) rfl)) e25 (g := (mkF m 96 #[.val (.int e_), .val (.int r_), .val (.int s_), .val (.int q_), .val (.int fl), .val (.int r5), .val (.int x17), .val (.int j38_s0), .val (.long x53), .second, .val (.long x64), .second, .val (.long x76), .second, .unset] [])) rfl (hb hby at_96) (by decide) (by decide)
  obtain ⟨b32, g32⟩ : ∃ z, z = h0.size := ⟨_, rfl⟩
  have g_b32 : n0 ≤ b32 := Nat.le_trans Z0 (Nat.le_of_eq g32.symm)
  rw [← g32] at A32 D32 st32
  have f33 : Fld Z h32 b32 "io/bucketry/Testnet$Every" "every" "I" (.int (0 : Int32)) := D32 (Or.inr (hw _ (List.mem_of_getElem? (i := 21) rfl))) (ty := .int) (by decide)
  have f34 : Fld Z h32 b32 "io/bucketry/Testnet$Every" "remainder" "I" (.int (0 : Int32)) := D32 (Or.inr (hw _ (List.mem_of_getElem? (i := 23) rfl))) (ty := .int) (by decide)
  have z35 : n0 ≤ h32.size := Nat.le_trans Z0 E32.1
  refine own_of (S' := T32.setTop (mkF m 99 #[.val (.int e_), .val (.int r_), .val (.int s_), .val (.int q_), .val (.int fl), .val (.int r5), .val (.int x17), .val (.int j38_s0), .val (.long x53), .second, .val (.long x64), .second, .val (.long x76), .second, .unset] [(.ref b32)])) st32 ?_
  refine own_of (S' := T32.setTop (mkF m 100 #[.val (.int e_), .val (.int r_), .val (.int s_), .val (.int q_), .val (.int fl), .val (.int r5), .val (.int x17), .val (.int j38_s0), .val (.long x53), .second, .val (.long x64), .second, .val (.long x76), .second, .unset] [(.ref b32), (.ref b32)])) (fun t k => XS.dup X32.here hx rfl (hb hby at_99) rfl rfl k) ?_
  refine own_of (S' := T32.setTop (mkF m 102 #[.val (.int e_), .val (.int r_), .val (.int s_), .val (.int q_), .val (.int fl), .val (.int r5), .val (.int x17), .val (.int j38_s0), .val (.long x53), .second, .val (.long x64), .second, .val (.long x76), .second, .unset] [(.int r5), (.ref b32), (.ref b32)])) (fun t k => XS.iload X32.here hx rfl (hb hby at_100) rfl k) ?_
  refine own_of (S' := T32.setTop (mkF m 104 #[.val (.int e_), .val (.int r_), .val (.int s_), .val (.int q_), .val (.int fl), .val (.int r5), .val (.int x17), .val (.int j38_s0), .val (.long x53), .second, .val (.long x64), .second, .val (.long x76), .second, .unset] [(.int x17), (.int r5), (.ref b32), (.ref b32)])) (fun t k => XS.iload X32.here hx rfl (hb hby at_102) rfl k) ?_
  obtain ⟨_, _, ⟨T36, L36, k36, n36⟩, -, X36, ⟨Lc36, hQ36, l36, y36, z36⟩, st36⟩ := X32.specialBack hx (y := (⟨"io/bucketry/Testnet$Every", "<init>", "(II)V"⟩ : MethodName)) rfl hown (mvT hZ (hw _ (List.mem_of_getElem? (i := 9) rfl))) (mvT hZ (hw _ (List.mem_of_getElem? (i := 10) rfl))) (mvT hZ (hw _ (List.mem_of_getElem? (i := 11) rfl))) (by decide) (backOf (W := 1) (own_rm3 l Z _ hw [] b32 r5 x17 h32 n0 A32 f33 f34 g_b32 (own_ev1 (own_ev q5).1 : ¬ (r5 < (1 : Int32))) ((own_rem (own_ev q5).1 q17).1 : ¬ (x17 < (0 : Int32))) ((own_rem (own_ev q5).1 q17).2 : x17 < r5)) hZ (hw _ (List.mem_of_getElem? (i := 11) rfl)) (hw _ (List.mem_of_getElem? (i := 8) rfl)) (by decide) (by decide)) (g := (mkF m 104 #[.val (.int e_), .val (.int r_), .val (.int s_), .val (.int q_), .val (.int fl), .val (.int r5), .val (.int x17), .val (.int j38_s0), .val (.long x53), .second, .val (.long x64), .second, .val (.long x76), .second, .unset] [(.int x17), (.int r5), (.ref b32), (.ref b32)])) rfl (by rw [hml]; rfl) (Steps.refl _) (a := b32) (argsL := [(.int r5), (.int x17)]) (rest := [(.ref b32)]) (lenOf own_pd2 rfl) rfl (by show 2 * 0 + _ ≤ _; exact Nat.le_of_eq rfl) (hb hby at_104) (fun _ _ => ⟨rfl, e32, (by decide : 1 + 0 ≤ _), (by decide : 2 + 0 ≤ _)⟩)
  dsimp only [Pt.U, Pt.locs, Pt.cells, Pt.slots] at X36 l36 y36 z36 st36 hQ36
  subst l36 y36 z36
  obtain ⟨rfl, M36, K36, p36_0, p36_1, p36_2⟩ := hQ36
  have f37 : Exa Z T36.heap b32 "io/bucketry/Testnet$Every" := (A32.keep K36)
  have z38 : n0 ≤ T36.heap.size := Nat.le_trans z35 K36.1
  have N36 := Fr.app N25 M36
  refine own_of (S' := T36.setTop (mkF m 107 #[.val (.int e_), .val (.int r_), .val (.int s_), .val (.int q_), .val (.int fl), .val (.int r5), .val (.int x17), .val (.int j38_s0), .val (.long x53), .second, .val (.long x64), .second, .val (.long x76), .second, .unset] [(.ref b32)])) (fun t k => st36.trans k) ?_
  refine own_of (S' := T36.setTop (mkF m 109 #[.val (.int e_), .val (.int r_), .val (.int s_), .val (.int q_), .val (.int fl), .val (.int r5), .val (.int x17), .val (.int j38_s0), .val (.long x53), .second, .val (.long x64), .second, .val (.long x76), .second, .val (.ref b32)] [])) (fun t k => XS.astore X36.here hx rfl (hb hby at_107) rfl rfl (l' := #[.val (.int e_), .val (.int r_), .val (.int s_), .val (.int q_), .val (.int fl), .val (.int r5), .val (.int x17), .val (.int j38_s0), .val (.long x53), .second, .val (.long x64), .second, .val (.long x76), .second, .val (.ref b32)]) rfl k) ?_
  refine own_of (S' := T36.setTop (mkF m 111 #[.val (.int e_), .val (.int r_), .val (.int s_), .val (.int q_), .val (.int fl), .val (.int r5), .val (.int x17), .val (.int j38_s0), .val (.long x53), .second, .val (.long x64), .second, .val (.long x76), .second, .val (.ref b32)] [(.ref b32)])) (fun t k => XS.aload X36.here hx rfl (hb hby at_109) rfl rfl k) ?_
  refine own_of (S' := T36.setTop (mkF m 113 #[.val (.int e_), .val (.int r_), .val (.int s_), .val (.int q_), .val (.int fl), .val (.int r5), .val (.int x17), .val (.int j38_s0), .val (.long x53), .second, .val (.long x64), .second, .val (.long x76), .second, .val (.ref b32)] [(.long x76), (.ref b32)])) (fun t k => XS.lload X36.here hx rfl (hb hby at_111) rfl k) ?_
  refine own_of (S' := T36.setTop (mkF m 114 #[.val (.int e_), .val (.int r_), .val (.int s_), .val (.int q_), .val (.int fl), .val (.int r5), .val (.int x17), .val (.int j38_s0), .val (.long x53), .second, .val (.long x64), .second, .val (.long x76), .second, .val (.ref b32)] [(.int (x76.toInt32)), (.ref b32)])) (fun t k => XS.l2i X36.here hx rfl (hb hby at_113) rfl k) ?_
  obtain ⟨cq39, kq39, q39a, q39b, q39c⟩ := isOf hZ rfl p36_0
  obtain ⟨_, _, ⟨T39, L39, k39, n39⟩, -, X39, ⟨Lc39, hQ39, l39, y39, z39⟩, st39⟩ := X36.virtualBack hx (y := (⟨"io/bucketry/Testnet$Every", "includes", "(I)Z"⟩ : MethodName)) (z := (⟨"io/bucketry/Testnet$Every", "includes", "(I)Z"⟩ : MethodName)) hown (mvT hZ (hw _ (List.mem_of_getElem? (i := 24) rfl))) (mvT hZ (hw _ (List.mem_of_getElem? (i := 25) rfl))) (notFace_of_selects (args := #[]) (mvT hZ (hw _ (List.mem_of_getElem? (i := 27) rfl)))) (mvT hZ (hw _ (List.mem_of_getElem? (i := 27) rfl))) (mvT hZ (hw _ (List.mem_of_getElem? (i := 26) rfl))) (by decide) (backOf (W := 0) (own_rm4 l Z _ hw [] b32 (x76.toInt32) r5 x17 T36.heap n0 p36_1 p36_2 ((own_ev q5).2 : r5 ≠ (0 : Int32))) hZ (hw _ (List.mem_of_getElem? (i := 28) rfl)) (hw _ (List.mem_of_getElem? (i := 8) rfl)) (by decide) (by decide)) q39a q39c (g := (mkF m 114 #[.val (.int e_), .val (.int r_), .val (.int s_), .val (.int q_), .val (.int fl), .val (.int r5), .val (.int x17), .val (.int j38_s0), .val (.long x53), .second, .val (.long x64), .second, .val (.long x76), .second, .val (.ref b32)] [(.int (x76.toInt32)), (.ref b32)])) rfl (by rw [hml]; rfl) (Steps.refl _) (argsL := [(.int (x76.toInt32))]) (rest := []) (lenOf own_pd3 rfl) rfl (by show 2 * 0 + _ ≤ _; exact Nat.le_of_eq rfl) (hb hby at_114) (fun _ _ => ⟨rfl, rfl, (by decide : 1 + 0 ≤ _), (by decide : 2 + 0 ≤ _)⟩)
  dsimp only [Pt.U, Pt.locs, Pt.cells, Pt.slots] at X39 l39 y39 z39 st39 hQ39
  subst l39 y39 z39
  obtain ⟨rfl, M39, eh39⟩ := hQ39
  have N39 := Fr.app N36 M39
  refine own_of (S' := T39.setTop (mkF m 117 #[.val (.int e_), .val (.int r_), .val (.int s_), .val (.int q_), .val (.int fl), .val (.int r5), .val (.int x17), .val (.int j38_s0), .val (.long x53), .second, .val (.long x64), .second, .val (.long x76), .second, .val (.ref b32)] [(.int (own_inc (x76.toInt32) r5 x17))])) (fun t k => st39.trans k) ?_
  generalize q114 : (own_inc (x76.toInt32) r5 x17) = r114
  refine own_of (S' := T39.setTop (mkF m 119 #[.val (.int e_), .val (.int r_), .val (.int s_), .val (.int q_), .val (.int fl), .val (.int r5), .val (.int x17), .val (.int j38_s0), .val (.long x53), .second, .val (.long x64), .second, .val (.long x76), .second, .val (.ref b32)] [(.int j38_s0), (.int r114)])) (fun t k => XS.iload X39.here hx rfl (hb hby at_117) rfl k) ?_
  refine own_of (S' := T39.setTop (mkF m 121 #[.val (.int e_), .val (.int r_), .val (.int s_), .val (.int q_), .val (.int fl), .val (.int r5), .val (.int x17), .val (.int j38_s0), .val (.long x53), .second, .val (.long x64), .second, .val (.long x76), .second, .val (.ref b32)] [(.int x17), (.int j38_s0), (.int r114)])) (fun t k => XS.iload X39.here hx rfl (hb hby at_119) rfl k) ?_
  obtain ⟨j129_s0, qj129_s0⟩ : ∃ z : Int32, z = (if j38_s0 = x17 then (1 : Int32) else (0 : Int32)) := ⟨_, rfl⟩
  suffices k41 : ∀ (T' : State) (locs' : List Loc), Stand p l e room_1 s m #[(.int e_), (.int r_), (.int s_), (.int q_), (.int fl)] below meth c T' locs' 1 2 → Fr n0 locs' → T'.heap = T36.heap → own_Go p.tables e below G (T'.setTop (mkF m 129 #[.val (.int e_), .val (.int r_), .val (.int s_), .val (.int q_), .val (.int fl), .val (.int r5), .val (.int x17), .val (.int j38_s0), .val (.long x53), .second, .val (.long x64), .second, .val (.long x76), .second, .val (.ref b32)] [(.int j129_s0), (.int r114)])) by
    by_cases hc121 : j38_s0 = x17
    · refine own_of (S' := T39.setTop (mkF m 124 #[.val (.int e_), .val (.int r_), .val (.int s_), .val (.int q_), .val (.int fl), .val (.int r5), .val (.int x17), .val (.int j38_s0), .val (.long x53), .second, .val (.long x64), .second, .val (.long x76), .second, .val (.ref b32)] [(.int r114)])) (fun t k => XS.icmpNo X39.here hx rfl (hb hby at_121) rfl (teq hc121).2 k) ?_
      refine own_of (S' := T39.setTop (mkF m 125 #[.val (.int e_), .val (.int r_), .val (.int s_), .val (.int q_), .val (.int fl), .val (.int r5), .val (.int x17), .val (.int j38_s0), .val (.long x53), .second, .val (.long x64), .second, .val (.long x76), .second, .val (.ref b32)] [(.int (1 : Int32)), (.int r114)])) (fun t k => XS.iconst X39.here hx rfl (hb hby at_124) k) ?_
      refine own_of (S' := T39.setTop (mkF m 129 #[.val (.int e_), .val (.int r_), .val (.int s_), .val (.int q_), .val (.int fl), .val (.int r5), .val (.int x17), .val (.int j38_s0), .val (.long x53), .second, .val (.long x64), .second, .val (.long x76), .second, .val (.ref b32)] [(.int (1 : Int32)), (.int r114)])) (fun t k => XS.goto X39.here hx rfl (pc0 := 125) (pc' := 129) rfl (hb hby at_125) (by decide) (by decide) k) ?_
      have jw42 : j129_s0 = ((1 : Int32) : Int32) := qj129_s0.trans (if_pos hc121)
      rw [jw42] at k41
      exact k41 T39 _ X39 N39 eh39
    · refine own_of (S' := T39.setTop (mkF m 128 #[.val (.int e_), .val (.int r_), .val (.int s_), .val (.int q_), .val (.int fl), .val (.int r5), .val (.int x17), .val (.int j38_s0), .val (.long x53), .second, .val (.long x64), .second, .val (.long x76), .second, .val (.ref b32)] [(.int r114)])) (fun t k => XS.icmpYes X39.here hx rfl (pc0 := 121) (pc' := 128) rfl (hb hby at_121) rfl (feq hc121).2 (by decide) (by decide) k) ?_
      refine own_of (S' := T39.setTop (mkF m 129 #[.val (.int e_), .val (.int r_), .val (.int s_), .val (.int q_), .val (.int fl), .val (.int r5), .val (.int x17), .val (.int j38_s0), .val (.long x53), .second, .val (.long x64), .second, .val (.long x76), .second, .val (.ref b32)] [(.int (0 : Int32)), (.int r114)])) (fun t k => XS.iconst X39.here hx rfl (hb hby at_128) k) ?_
      have jw43 : j129_s0 = ((0 : Int32) : Int32) := qj129_s0.trans (if_neg hc121)
      rw [jw43] at k41
      exact k41 T39 _ X39 N39 eh39
  intro T41 locs41 X41 N41 e41
  have hc129 : r114 = j129_s0 := by rw [← q114, qj129_s0]; exact own_fin (own_idx (own_ev q5).1 (own_rp (own_ev q5).1 q17 qj38_s0) q53 q64 q76).2.2
  refine own_of (S' := T41.setTop (mkF m 132 #[.val (.int e_), .val (.int r_), .val (.int s_), .val (.int q_), .val (.int fl), .val (.int r5), .val (.int x17), .val (.int j38_s0), .val (.long x53), .second, .val (.long x64), .second, .val (.long x76), .second, .val (.ref b32)] [])) (fun t k => XS.icmpNo X41.here hx rfl (hb hby at_129) rfl (teq hc129).2 k) ?_
  refine own_of (S' := T41.setTop (mkF m 133 #[.val (.int e_), .val (.int r_), .val (.int s_), .val (.int q_), .val (.int fl), .val (.int r5), .val (.int x17), .val (.int j38_s0), .val (.long x53), .second, .val (.long x64), .second, .val (.long x76), .second, .val (.ref b32)] [(.int (1 : Int32))])) (fun t k => XS.iconst X41.here hx rfl (hb hby at_132) k) ?_
  refine own_of (S' := T41.setTop (mkF m 137 #[.val (.int e_), .val (.int r_), .val (.int s_), .val (.int q_), .val (.int fl), .val (.int r5), .val (.int x17), .val (.int j38_s0), .val (.long x53), .second, .val (.long x64), .second, .val (.long x76), .second, .val (.ref b32)] [(.int (1 : Int32))])) (fun t k => XS.goto X41.here hx rfl (pc0 := 133) (pc' := 137) rfl (hb hby at_133) (by decide) (by decide) k) ?_
  obtain ⟨fs, hr, hrun, hended, hW, hsame⟩ := X41.leave (v := some (.int (nar .boolean (1 : Int32)))) (fun h => by rw [Bd.returns] at h; cases h)
  refine ⟨_, _, retN X41 hx (t := .boolean) Bd.returns (by simp) (hb hby at_137) hr, hrun, hended, hG _ _ ⟨_, _, rfl, ?_, ⟨_, rfl⟩, hW, hsame.mono (by decide) (by decide)⟩⟩
  show own_Q0 Z e_ r_ s_ q_ fl h0 n0 _ T41.heap _
  rw [e41]
  exact ⟨rfl, N41⟩
set_option maxRecDepth 65536 in
set_option maxHeartbeats 40000000 in
theorem own_comes {Post : Tables → Env → Array Value → State → Outcome → State → Prop} (hpost : ∀ tb e args s v u, (limb_1_1.after args s (.returned v) u = true ∧ limb_1_2.after args s (.returned v) u = true ∧ True) → FrameEnd s (.returned v) u (Jvm.fieldLocs frame_1_writes args s ++ Jvm.arrayLocs frame_1_arrays args s ++ Jvm.staticLocs frame_1_statics s) 16 128 → Post tb e args s (.returned v) u) :
    ArmFor flags0 classFile x code maxLocals ret World_1 tables_1 room_1 Calls_1 rest_1 Pre_1 Post := by
  intro l hfl _ _ p e ha hc hk s m args below hf hA hF happ hP
  obtain ⟨hcalls, hrest, hpre⟩ := hP
  obtain ⟨-, -, -, hnamed, -, -, -, hat⟩ := (Spec.applies_iff hf).mp happ
  obtain ⟨hg, hn⟩ := and_e (Cond.before_iff.mp (show (Jvm.Cond.and given_1 narrow_1).before args s = true from hpre))
  obtain ⟨hcount, hg0⟩ := and_e hg
  obtain ⟨ha0, hg1⟩ := and_e hg0
  obtain ⟨ha1, hg2⟩ := and_e hg1
  obtain ⟨ha2, hg3⟩ := and_e hg2
  obtain ⟨ha3, hg4⟩ := and_e hg3
  obtain ⟨w0, w1, w2, w3, w4, rfl⟩ : ∃ w0 w1 w2 w3 w4 : Value, args = #[w0, w1, w2, w3, w4] := by
    have hs : args.size = 5 := by simpa [Cond.value, given_1] using hcount
    obtain ⟨L⟩ := args
    match L, hs with
    | [w0, w1, w2, w3, w4], _ => exact ⟨w0, w1, w2, w3, w4, rfl⟩
  have hw := fun d (hd : d ∈ tables_1) => atoms_spec (ws := Jvm.Cond.code x code maxLocals ret :: tables_1) hat d (List.mem_cons_of_mem _ hd)
  obtain ⟨i0, ei0⟩ := is_v ha0
  obtain rfl : w0 = (.int i0) := Option.some.inj ei0
  obtain ⟨i1, ei1⟩ := is_v ha1
  obtain rfl : w1 = (.int i1) := Option.some.inj ei1
  obtain ⟨i2, ei2⟩ := is_v ha2
  obtain rfl : w2 = (.int i2) := Option.some.inj ei2
  obtain ⟨i3, ei3⟩ := is_v ha3
  obtain rfl : w3 = (.int i3) := Option.some.inj ei3
  obtain ⟨i4, ei4⟩ := is_v hg4
  obtain rfl : w4 = (.int i4) := Option.some.inj ei4
  obtain ⟨n, o, h1, h2, h3, _, L, rfl, ⟨rfl, N⟩, hq⟩ := own_rm0 l s _ hw tables_1 i0 i1 i2 i3 i4 s.heap s.heap.size (Nat.le_refl _) p e ha hc hk s m _ below hf ((Spec.applies_iff_loose hf).mp happ).1 ⟨rfl, State.Warmed39.refl s, rfl⟩ trivial
  exact ⟨n, _, h1, h2, h3, hpost _ _ _ _ _ _ ⟨Cond.after_iff.mpr rfl, Cond.after_iff.mpr (eq_i res_at (Term.int_eval (1)) rfl), trivial⟩ ⟨hq.1, hq.2.1, (hq.2.2.sift fun y hy => Or.inr (N y hy)).mono (by decide) (by decide)⟩⟩
theorem main_1_1 : Claimed_1_1 := own_comes fun _ _ _ _ _ _ h hF => ⟨h.1, hF⟩
theorem main_1_2 : Claimed_1_2 := own_comes fun _ _ _ _ _ _ h hF => ⟨h.2.1, hF⟩
end Jvm.Pilot.@@N@@
namespace Jvm.Pilot.@@N@@
open Jvm Jvm.ClassFile Sem Op Lib Jvm.Free Jvm.Stand Jvm.Pilot.@@N@@.Jvm.D
/-! MADE BY PROGRAM (witnessworld.py) out of the Statement's table words and the real class files: 11 classes; the members and pool entries that the words name. The judged class is class 1, her method 1. -/
namespace start1
open Jvm.ClassFile
def u (s : String) : CpInfo := .utf8 (stringToUtf16 s)
/-- a pool by its gaps: so many unusable entries, then the entry; so many at the end -/
def gap : Nat → List CpInfo → List CpInfo
  | 0, r => r
  | n + 1, r => .unusable :: gap n r
def poolList (es : List (Nat × CpInfo)) (last : Nat) : List CpInfo := es.foldr (fun e r => gap e.1 (e.2 :: r)) (gap last [])
def pool (es : List (Nat × CpInfo)) (last : Nat) : Array CpInfo := ⟨poolList es last⟩
def fileOf (pool : Array CpInfo) (this : Nat) (attrs : Array Attribute := #[]) (ms : Array MethodInfo := #[]) (fl : Nat := 33) (sup : Nat := 0) (ifs : Array Nat := #[]) (fds : Array FieldInfo := #[]) : ClassFile where
  minorVersion := 0
  majorVersion := 65
  constantPool := pool
  accessFlags := fl
  thisClass := this
  superClass := sup
  interfaces := ifs
  fields := fds
  methods := ms
  attributes := attrs
def plain (name : String) (sup : Option ClassId) : Class where
  name := name
  kind := .ordinary
  loader := none
  accessFlags := 33
  super := sup
  interfaces := #[]
  cf := none
  fields := #[]
  methods := #[]
  instanceTypes := #[]
  staticTypes := #[]
  resolved := #[]
  callSites := []
  init := .initialized
  statics := none
  mirror := none

def pool0 : Array CpInfo := pool [(5, u "<init>"), (0, u "()V"), (1, .class_ 10), (1, u "java/lang/Object")] 113

def k0c0 : Code := { maxStack := 0, maxLocals := 1, code := object_method_1_code, exceptionTable := #[], attributes := #[] }
def k0m0 : Method := { name := "<init>", desc := "()V", sig := { parameters := [], returnType := none }, accessFlags := 1, code := some k0c0 }
/-- java/lang/Object -/
def k0 : Class := { plain "java/lang/Object" none with
  accessFlags := 33
  interfaces := #[]
  cf := some (fileOf pool0 8 #[] #[{ accessFlags := 1, nameIndex := 5, descriptorIndex := 6, attributes := #[] }] 33 0 #[] #[])
  fields := #[]
  methods := #[k0m0]
  instanceTypes := #[]
  staticTypes := #[]
  resolved := Array.replicate 124 none
  statics := none }

def pool1 : Array CpInfo := pool [(2, .class_ 4), (1, u "java/lang/Object"), (0, u "<init>"), (0, u "()V"), (0, .integer 2147483647), (0, .methodref 9 10), (0, .class_ 11), (0, .nameAndType 12 13), (0, u "java/lang/Math"), (0, u "max"), (0, u "(II)I"), (2, .long 2147483647), (1, .class_ 19), (0, u "io/bucketry/Testnet$Every"), (0, .methodref 18 21), (0, .nameAndType 5 22), (0, u "(II)V"), (0, .methodref 18 24), (0, .nameAndType 25 26), (0, u "includes"), (0, u "(I)Z"), (0, .class_ 28), (0, u "io/bucketry/EveryIncludesPinLaw"), (2, u "law"), (0, u "(IIIII)Z")] 7

def k1m0 : Method := { name := "<init>", desc := "()V", sig := { parameters := [], returnType := none }, accessFlags := 2, code := none }
def k1c1 : Code := { maxStack := 4, maxLocals := 15, code := code, exceptionTable := #[], attributes := #[] }
def k1m1 : Method := { name := "law", desc := "(IIIII)Z", sig := { parameters := [.int, .int, .int, .int, .int], returnType := some .boolean }, accessFlags := 9, code := some k1c1 }
/-- io/bucketry/EveryIncludesPinLaw -/
def k1 : Class := { plain "io/bucketry/EveryIncludesPinLaw" (some 0) with
  accessFlags := 49
  interfaces := #[]
  cf := some (fileOf pool1 27 #[] #[{ accessFlags := 2, nameIndex := 5, descriptorIndex := 6, attributes := #[] }, { accessFlags := 9, nameIndex := 31, descriptorIndex := 32, attributes := #[] }] 49 2 #[] #[])
  fields := #[]
  methods := #[k1m0, k1m1]
  instanceTypes := #[]
  staticTypes := #[]
  resolved := Array.replicate 40 none
  statics := none }

def pool2 : Array CpInfo := pool [(1, .class_ 2), (0, u "java/lang/Math"), (1, .class_ 6), (1, u "java/lang/Object"), (0, u "<init>"), (0, u "()V"), (89, .class_ 100), (1, u "java/lang/Math$RandomNumberGeneratorHolder"), (71, u "negativeZeroFloatBits"), (0, u "J"), (2, u "negativeZeroDoubleBits"), (21, u "max"), (46, u "$assertionsDisabled"), (0, u "Z"), (88, u "(II)I"), (2, u "twoToTheDoubleScaleDown"), (0, u "D"), (4, u "twoToTheDoubleScaleUp"), (9, u "E"), (3, u "PI"), (2, u "TAU"), (2, u "DEGREES_TO_RADIANS"), (0, u "RADIANS_TO_DEGREES")] 94

def k2m0 : Method := { name := "<init>", desc := "()V", sig := { parameters := [], returnType := none }, accessFlags := 2, code := none }
def k2c1 : Code := { maxStack := 2, maxLocals := 2, code := jdk_29_method_65_code, exceptionTable := #[], attributes := #[] }
def k2m1 : Method := { name := "max", desc := "(II)I", sig := { parameters := [.int, .int], returnType := some .int }, accessFlags := 9, code := some k2c1 }
/-- java/lang/Math -/
def k2 : Class := { plain "java/lang/Math" (some 0) with
  accessFlags := 49
  interfaces := #[]
  cf := some (fileOf pool2 1 #[.nestMembers #[98]] #[{ accessFlags := 2, nameIndex := 7, descriptorIndex := 8, attributes := #[] }, { accessFlags := 9, nameIndex := 198, descriptorIndex := 335, attributes := #[] }] 49 4 #[] #[{ accessFlags := 25, nameIndex := 354, descriptorIndex := 339, attributes := #[] }, { accessFlags := 25, nameIndex := 358, descriptorIndex := 339, attributes := #[] }, { accessFlags := 25, nameIndex := 361, descriptorIndex := 339, attributes := #[] }, { accessFlags := 26, nameIndex := 364, descriptorIndex := 339, attributes := #[] }, { accessFlags := 26, nameIndex := 365, descriptorIndex := 339, attributes := #[] }, { accessFlags := 26, nameIndex := 172, descriptorIndex := 173, attributes := #[] }, { accessFlags := 26, nameIndex := 176, descriptorIndex := 173, attributes := #[] }, { accessFlags := 8, nameIndex := 344, descriptorIndex := 339, attributes := #[] }, { accessFlags := 8, nameIndex := 338, descriptorIndex := 339, attributes := #[] }, { accessFlags := 4120, nameIndex := 245, descriptorIndex := 246, attributes := #[] }])
  fields := #[{ name := "E", type := .double, accessFlags := 25, slot := 0, constantValue := 0 }, { name := "PI", type := .double, accessFlags := 25, slot := 1, constantValue := 0 }, { name := "TAU", type := .double, accessFlags := 25, slot := 2, constantValue := 0 }, { name := "DEGREES_TO_RADIANS", type := .double, accessFlags := 26, slot := 3, constantValue := 0 }, { name := "RADIANS_TO_DEGREES", type := .double, accessFlags := 26, slot := 4, constantValue := 0 }, { name := "negativeZeroFloatBits", type := .long, accessFlags := 26, slot := 5, constantValue := 0 }, { name := "negativeZeroDoubleBits", type := .long, accessFlags := 26, slot := 6, constantValue := 0 }, { name := "twoToTheDoubleScaleUp", type := .double, accessFlags := 8, slot := 7, constantValue := 0 }, { name := "twoToTheDoubleScaleDown", type := .double, accessFlags := 8, slot := 8, constantValue := 0 }, { name := "$assertionsDisabled", type := .boolean, accessFlags := 4120, slot := 9, constantValue := 0 }]
  methods := #[k2m0, k2m1]
  instanceTypes := #[]
  staticTypes := #[.double, .double, .double, .double, .double, .long, .long, .double, .double, .boolean]
  resolved := Array.replicate 460 none
  statics := none }

def pool3 : Array CpInfo := pool [(1, .methodref 2 3), (0, .class_ 4), (0, .nameAndType 5 6), (0, u "java/lang/Object"), (0, u "<init>"), (0, u "()V"), (0, .class_ 8), (0, u "java/lang/Record")] 13

def k3c0 : Code := { maxStack := 1, maxLocals := 1, code := jdk_30_method_1_code, exceptionTable := #[], attributes := #[] }
def k3m0 : Method := { name := "<init>", desc := "()V", sig := { parameters := [], returnType := none }, accessFlags := 4, code := some k3c0 }
/-- java/lang/Record -/
def k3 : Class := { plain "java/lang/Record" (some 0) with
  accessFlags := 1057
  interfaces := #[]
  cf := some (fileOf pool3 7 #[] #[{ accessFlags := 4, nameIndex := 5, descriptorIndex := 6, attributes := #[] }] 1057 2 #[] #[])
  fields := #[]
  methods := #[k3m0]
  instanceTypes := #[]
  staticTypes := #[]
  resolved := Array.replicate 22 none
  statics := none }

def pool4 : Array CpInfo := pool [(1, .methodref 2 3), (0, .class_ 4), (0, .nameAndType 5 6), (0, u "java/lang/Record"), (0, u "<init>"), (0, u "()V"), (9, .fieldref 17 18), (0, .class_ 19), (0, .nameAndType 20 21), (0, u "io/bucketry/Testnet$Every"), (0, u "every"), (0, u "I"), (0, .fieldref 17 23), (0, .nameAndType 24 21), (0, u "remainder"), (12, u "(II)V"), (4, u "includes"), (0, u "(I)Z"), (6, .class_ 51), (0, u "io/bucketry/Testnet")] 28

def k4c0 : Code := { maxStack := 4, maxLocals := 3, code := prog_67_method_1_code, exceptionTable := #[], attributes := #[] }
def k4m0 : Method := { name := "<init>", desc := "(II)V", sig := { parameters := [.int, .int], returnType := none }, accessFlags := 0, code := some k4c0 }
def k4c1 : Code := { maxStack := 2, maxLocals := 2, code := prog_67_method_2_code, exceptionTable := #[], attributes := #[] }
def k4m1 : Method := { name := "includes", desc := "(I)Z", sig := { parameters := [.int], returnType := some .boolean }, accessFlags := 0, code := some k4c1 }
/-- io/bucketry/Testnet$Every -/
def k4 : Class := { plain "io/bucketry/Testnet$Every" (some 3) with
  accessFlags := 48
  interfaces := #[]
  cf := some (fileOf pool4 17 #[.nestHost 50] #[{ accessFlags := 0, nameIndex := 5, descriptorIndex := 37, attributes := #[] }, { accessFlags := 0, nameIndex := 42, descriptorIndex := 43, attributes := #[] }] 48 2 #[] #[{ accessFlags := 18, nameIndex := 20, descriptorIndex := 21, attributes := #[] }, { accessFlags := 18, nameIndex := 24, descriptorIndex := 21, attributes := #[] }])
  fields := #[{ name := "every", type := .int, accessFlags := 18, slot := 0, constantValue := 0 }, { name := "remainder", type := .int, accessFlags := 18, slot := 1, constantValue := 0 }]
  methods := #[k4m0, k4m1]
  instanceTypes := #[.int, .int]
  staticTypes := #[]
  resolved := Array.replicate 80 none
  statics := none }

def pool5 : Array CpInfo := pool [(1, u "java/lang/Cloneable"), (0, .class_ 1), (0, u "java/lang/Object"), (0, .class_ 3)] 3

/-- java/lang/Cloneable -/
def k5 : Class := { plain "java/lang/Cloneable" (some 0) with
  accessFlags := 1537
  interfaces := #[]
  cf := some (fileOf pool5 2 #[] #[] 1537 4 #[] #[])
  fields := #[]
  methods := #[]
  instanceTypes := #[]
  staticTypes := #[]
  resolved := Array.replicate 8 none
  statics := none }

def pool6 : Array CpInfo := pool [(1, u "java/io/Serializable"), (0, .class_ 1), (0, u "java/lang/Object"), (0, .class_ 3)] 3

/-- java/io/Serializable -/
def k6 : Class := { plain "java/io/Serializable" (some 0) with
  accessFlags := 1537
  interfaces := #[]
  cf := some (fileOf pool6 2 #[] #[] 1537 4 #[] #[])
  fields := #[]
  methods := #[]
  instanceTypes := #[]
  staticTypes := #[]
  resolved := Array.replicate 8 none
  statics := none }

/-- the primitive byte -/
def k7 : Class := { plain "byte" none with kind := .primitive 'B', accessFlags := 0x411 }
/-- [B -/
def k8 : Class := { plain "[B" (some 0) with kind := .array 7 .byte, interfaces := #[5, 6], accessFlags := 1041 }

/-- the primitive int -/
def k9 : Class := { plain "int" none with kind := .primitive 'I', accessFlags := 0x411 }
/-- [I -/
def k10 : Class := { plain "[I" (some 0) with kind := .array 9 .int, interfaces := #[5, 6], accessFlags := 1041 }

def heap : Heap := #[]
def classes : Array Class := #[k0, k1, k2, k3, k4, k5, k6, k7, k8, k9, k10]
def interned : List (Array UInt16 × Addr) := []
def slotsUsed : Nat := 0
def theMethod : MethodId := ⟨1, 1⟩
def args0 : Array Value := #[.int 5, .int 7, .int 2, .int 9, .int 1]
def aboutOver (below : List Frame) : State where
  vm := { classes := classes, interned := interned.toArray }
  heap := heap
  slotsUsed := slotsUsed
  threads := #[{ frames := .invoking theMethod args0 :: below }]
def below0 : List Frame := [.native { method := ⟨0, 0⟩, args := #[] }]
def about1 : State := aboutOver below0
def p0 : Program := .bare "" "" ""
def e0 : Env := launch0.env 0 0 0
theorem w_frames : about1.frames = Frame.invoking theMethod args0 :: below0 := rfl
set_option maxRecDepth 65536 in
theorem w_args : argsFit about1.vm theMethod args0 = true := by decide +kernel
set_option maxRecDepth 65536 in
theorem w_heap : heapFits about1 = true := by decide +kernel
set_option maxRecDepth 65536 in
theorem w_runnable : about1.curStatus? = some .runnable := by decide +kernel
set_option maxRecDepth 65536 in
theorem w_alone : about1.alone = true := by decide +kernel
set_option maxRecDepth 65536 in
theorem w_named : about1.methodNamed? x = some theMethod := by decide +kernel
set_option maxRecDepth 65536 in
theorem w_hears : about1.hears theMethod below0 = true := by decide +kernel
set_option maxRecDepth 65536 in
theorem w_ripe : about1.ripe theMethod args0 below0 = true := by decide +kernel
theorem w_running : about1.status = .running := rfl
set_option maxRecDepth 65536 in
theorem w_room : about1.hasRoom e0.platform room_1 = true :=
  launch0.hasRoom_least _ room_1 (by decide +kernel) (by decide +kernel) (by decide +kernel) (by decide +kernel) (by decide +kernel) (by decide +kernel)
theorem allAtoms_all (ts : List Jvm.Cond) (a : Array Jvm.Value) (st : Jvm.State) : (allAtoms ts).before a st = ts.all (fun c => c.before a st) := by
  induction ts with
  | nil => rfl
  | cons c t ih =>
    show (Jvm.Cond.and c (allAtoms t)).before a st = _
    rw [Jvm.Cond.before_and, ih, List.all_cons]
def words1 : List Jvm.Cond := Jvm.Cond.code x code maxLocals ret :: tables_1
/-- a 'code' word, met by the world's own term for the bytes: nothing is compared byte by byte -/
theorem code_word {y : MethodName} {bytes : ByteArray} {mx : Nat} {rt : Option FieldType} {a : Array Value} {s : State} {m : MethodId} {meth : Method} {c : Code} (h1 : s.methodNamed? y = some m) (h2 : s.vm.method? m = some meth) (h3 : meth.code = some c) (h4 : c.code = bytes)
    (h5 : (c.maxLocals == mx && c.exceptionTable.isEmpty && decide (c.maxStack ≤ mostOperands) && decide (meth.sig.returnType = rt) && !meth.locks && decide (parseMethodDescriptor y.desc = some meth.sig)) = true) : (Jvm.Cond.code y bytes mx rt).before a s = true := by
  simp only [Bool.and_eq_true, beq_iff_eq, Bool.not_eq_true', decide_eq_true_eq] at h5
  obtain ⟨⟨⟨⟨⟨g1, g2⟩, g3⟩, g4⟩, g5⟩, g6⟩ := h5
  simp [Cond.before, Cond.holds, Cond.value, h1, h2, h3, h4, g1, g2, g3, g4, g5, g6]
def isCode : Jvm.Cond → Bool
  | .code _ _ _ _ => true
  | _ => false
theorem all_split {L : List Jvm.Cond} {P : Jvm.Cond → Bool} (h1 : L.all (fun c => isCode c || P c) = true) (h2 : ∀ c ∈ L.filter isCode, P c = true) : L.all P = true := by
  refine List.all_eq_true.mpr fun c hc => ?_
  have h := List.all_eq_true.mp h1 c hc
  rcases Bool.eq_false_or_eq_true (isCode c) with hi | hi
  · exact h2 c (List.mem_filter.mpr ⟨hc, hi⟩)
  · simpa [hi] using h
set_option maxRecDepth 65536 in
theorem w_c0 : (Jvm.Cond.code x code maxLocals ret).before args0 about1 = true := code_word (m := ⟨1, 1⟩) (meth := k1m1) (c := k1c1) (by decide +kernel) rfl rfl rfl (by decide +kernel)
set_option maxRecDepth 65536 in
theorem w_c1 : (Jvm.Cond.code ({ cls := "java/lang/Math", name := "max", desc := "(II)I" } : Jvm.MethodName) jdk_29_method_65_code (2 : Nat) (Option.some Jvm.ClassFile.FieldType.int)).before args0 about1 = true := code_word (m := ⟨2, 1⟩) (meth := k2m1) (c := k2c1) (by decide +kernel) rfl rfl rfl (by decide +kernel)
set_option maxRecDepth 65536 in
theorem w_c2 : (Jvm.Cond.code ({ cls := "io/bucketry/Testnet$Every", name := "<init>", desc := "(II)V" } : Jvm.MethodName) prog_67_method_1_code (3 : Nat) (Option.none : Option Jvm.ClassFile.FieldType)).before args0 about1 = true := code_word (m := ⟨4, 0⟩) (meth := k4m0) (c := k4c0) (by decide +kernel) rfl rfl rfl (by decide +kernel)
set_option maxRecDepth 65536 in
theorem w_c3 : (Jvm.Cond.code ({ cls := "java/lang/Record", name := "<init>", desc := "()V" } : Jvm.MethodName) jdk_30_method_1_code (1 : Nat) (Option.none : Option Jvm.ClassFile.FieldType)).before args0 about1 = true := code_word (m := ⟨3, 0⟩) (meth := k3m0) (c := k3c0) (by decide +kernel) rfl rfl rfl (by decide +kernel)
set_option maxRecDepth 65536 in
theorem w_c4 : (Jvm.Cond.code ({ cls := "java/lang/Object", name := "<init>", desc := "()V" } : Jvm.MethodName) object_method_1_code (1 : Nat) (Option.none : Option Jvm.ClassFile.FieldType)).before args0 about1 = true := code_word (m := ⟨0, 0⟩) (meth := k0m0) (c := k0c0) (by decide +kernel) rfl rfl rfl (by decide +kernel)
set_option maxRecDepth 65536 in
theorem w_c5 : (Jvm.Cond.code ({ cls := "io/bucketry/Testnet$Every", name := "includes", desc := "(I)Z" } : Jvm.MethodName) prog_67_method_2_code (2 : Nat) (Option.some Jvm.ClassFile.FieldType.boolean)).before args0 about1 = true := code_word (m := ⟨4, 1⟩) (meth := k4m1) (c := k4c1) (by decide +kernel) rfl rfl rfl (by decide +kernel)
def codes1 : List Jvm.Cond := [Jvm.Cond.code x code maxLocals ret, Jvm.Cond.code ({ cls := "java/lang/Math", name := "max", desc := "(II)I" } : Jvm.MethodName) jdk_29_method_65_code (2 : Nat) (Option.some Jvm.ClassFile.FieldType.int), Jvm.Cond.code ({ cls := "io/bucketry/Testnet$Every", name := "<init>", desc := "(II)V" } : Jvm.MethodName) prog_67_method_1_code (3 : Nat) (Option.none : Option Jvm.ClassFile.FieldType), Jvm.Cond.code ({ cls := "java/lang/Record", name := "<init>", desc := "()V" } : Jvm.MethodName) jdk_30_method_1_code (1 : Nat) (Option.none : Option Jvm.ClassFile.FieldType), Jvm.Cond.code ({ cls := "java/lang/Object", name := "<init>", desc := "()V" } : Jvm.MethodName) object_method_1_code (1 : Nat) (Option.none : Option Jvm.ClassFile.FieldType), Jvm.Cond.code ({ cls := "io/bucketry/Testnet$Every", name := "includes", desc := "(I)Z" } : Jvm.MethodName) prog_67_method_2_code (2 : Nat) (Option.some Jvm.ClassFile.FieldType.boolean)]
set_option maxRecDepth 65536 in
theorem codes_eq : words1.filter isCode = codes1 := rfl
theorem w_codes : ∀ c ∈ words1.filter isCode, c.before args0 about1 = true := by
  rw [codes_eq]
  intro c hc
  simp only [codes1, List.mem_cons, List.not_mem_nil, or_false] at hc
  rcases hc with rfl | rfl | rfl | rfl | rfl | rfl
  · exact w_c0
  · exact w_c1
  · exact w_c2
  · exact w_c3
  · exact w_c4
  · exact w_c5
set_option maxRecDepth 65536 in
theorem w_t1 : (words1.take 24).all (fun c => isCode c || c.before args0 about1) = true := by decide +kernel
set_option maxRecDepth 65536 in
theorem w_t2 : (words1.drop 24).all (fun c => isCode c || c.before args0 about1) = true := by decide +kernel
theorem w_tables : (allAtoms (Jvm.Cond.code x code maxLocals ret :: tables_1)).before args0 about1 = true := by
  rw [allAtoms_all]
  show words1.all (fun c => c.before args0 about1) = true
  refine all_split ?_ w_codes
  rw [← List.take_append_drop 24 words1, List.all_append, w_t1, w_t2]
  rfl
set_option maxRecDepth 65536 in
theorem w_case : (Jvm.Cond.and given_1 narrow_1).before args0 about1 = true := by decide +kernel
theorem w_applies : (headSpec (Jvm.Cond.code x code maxLocals ret :: tables_1) room_1).applies x e0.platform about1 = true :=
  (Spec.applies_iff w_frames).mpr ⟨w_running, w_runnable, w_alone, w_named, w_hears, w_ripe, w_room, w_tables⟩
theorem atStart : AtStart classFile x code maxLocals ret World_1 tables_1 room_1 Calls_1 rest_1 Pre_1 launch0 p0 e0 about1 theMethod args0 below0 :=
  ⟨lists_1, trivial, launch0.admits_env _ _ _, launch0.least_env, fairChoices_fair.cas, fairChoices_fair.clock, w_frames, w_args, w_heap, w_applies, trivial, trivial, w_case⟩
end start1
theorem witness_1 : WitnessClaimed_1 := ⟨start1.p0, start1.e0, start1.about1, start1.theMethod, start1.args0, start1.below0, start1.atStart⟩
end Jvm.Pilot.@@N@@
