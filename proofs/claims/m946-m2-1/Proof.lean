import JvmDerived
import JvmDerived.Pilot.@@N@@Statement
import JvmDerived.Pilot.@@N@@Code
set_option linter.unusedVariables false
set_option linter.unusedSimpArgs false
namespace Jvm.Pilot.@@N@@
open Jvm Jvm.ClassFile Sem Op Lib Jvm.Free Jvm.Stand Jvm.LawKit Jvm.RoadKit Bundle Jvm.Pilot.@@N@@.Jvm.D
section Own
variable {p : Program} {l : Launch} {e : Env} {R : Room} {s : State} {m : MethodId} {args : Array Value} {below : List Frame} {meth : Method} {c : Code} {T : State} {locs : List Loc} {cells slots : Nat} {Z : State} {h h' : Heap} {a b : Addr} {k k' : ClassId} {ty : FieldType} {n : Int32}
/-- from the state S the run ends, and G holds of the end -/
def own_Go (tb : Tables) (e : Env) (below : List Frame) (G : State → Outcome → Prop) (S : State) : Prop := ∃ s₂ o, Steps tb e below S s₂ ∧ s₂.status = .running ∧ Ended s₂ below o ∧ G s₂ o
theorem own_of {tb : Tables} {G : State → Outcome → Prop} {S S' : State} (f : ∀ t, Steps tb e below S' t → Steps tb e below S t) (g : own_Go tb e below G S') : own_Go tb e below G S := by
  obtain ⟨x, y, h1, h2⟩ := g
  exact ⟨x, y, f x h1, h2⟩
theorem own_out {tb : Tables} {Q : State → Outcome → Prop} {S : State} (f : ∀ G : State → Outcome → Prop, (∀ s₂ o, Q s₂ o → G s₂ o) → own_Go tb e below G S) : ∃ s₂ o, Steps tb e below S s₂ ∧ s₂.status = .running ∧ Ended s₂ below o ∧ Q s₂ o := f Q fun _ _ q => q
theorem own_retI (X : Stand p l e R s m args below meth c T locs cells slots) (hx : p.tables.exec = Jvm.exec) {pc : Nat} {Ls : Array Slot} {z : Int32} {rest : List Value} (hret : meth.sig.returnType = some .int) (hd : decode c.code pc = .ok (.ireturn, 1)) {fs : List Frame}
    (hl : ∀ (f : JFrame) (acts : List Action), f.method = m → f.locked = none → f.entered = [] → (doReturn e (T.setTop f) acts (some (.int z))).1 = T.setFrames fs) : Steps p.tables e below (T.setTop (mkF m pc Ls (.int z :: rest))) (T.setFrames fs) :=
  retOut X hx hret rfl (Or.inl ⟨rfl, Or.inl rfl, z, rfl⟩) hd hl
theorem own_retL (X : Stand p l e R s m args below meth c T locs cells slots) (hx : p.tables.exec = Jvm.exec) {pc : Nat} {Ls : Array Slot} {z : Int64} {rest : List Value} (hret : meth.sig.returnType = some .long) (hd : decode c.code pc = .ok (.lreturn, 1)) {fs : List Frame}
    (hl : ∀ (f : JFrame) (acts : List Action), f.method = m → f.locked = none → f.entered = [] → (doReturn e (T.setTop f) acts (some (.long z))).1 = T.setFrames fs) : Steps p.tables e below (T.setTop (mkF m pc Ls (.long z :: rest))) (T.setFrames fs) :=
  retOut X hx hret rfl (Or.inr (Or.inl ⟨rfl, rfl, z, rfl⟩)) hd hl
theorem own_retA (X : Stand p l e R s m args below meth c T locs cells slots) (hx : p.tables.exec = Jvm.exec) {pc : Nat} {Ls : Array Slot} {z : Addr} {C : String} {rest : List Value} (hret : meth.sig.returnType = some (.object C)) (hd : decode c.code pc = .ok (.areturn, 1)) {fs : List Frame}
    (hl : ∀ (f : JFrame) (acts : List Action), f.method = m → f.locked = none → f.entered = [] → (doReturn e (T.setTop f) acts (some (.ref z))).1 = T.setFrames fs) : Steps p.tables e below (T.setTop (mkF m pc Ls (.ref z :: rest))) (T.setFrames fs) :=
  retOut X hx hret rfl (Or.inr (Or.inr (Or.inr (Or.inr ⟨rfl, rfl, rfl⟩)))) hd hl
/-- an array of ints (or bytes) at a, whole: its class, element type, length and values -/
def own_AI (Z : State) (h : Heap) (a : Addr) (k : ClassId) (ty : FieldType) (n : Int32) (xs : List Int32) : Prop := Arv Z h a k ty n (xs.map Value.int) (.int 0) ∧ xs.length = n.toNatClampNeg
theorem own_AI.ext {xs : List Int32} (F : own_AI Z h a k ty n xs) (E : Ext h h') : own_AI Z h' a k ty n xs := ⟨F.1.ext E, F.2⟩
theorem own_AI.other {xs : List Int32} {sl : Nat} {v : Value} (F : own_AI Z h b k ty n xs) (W : Wr h h' a sl v) (q : b ≠ a) : own_AI Z h' b k ty n xs := ⟨F.1.other W q, F.2⟩
theorem own_AI.keep {xs : List Int32} {ws : List Addr} (F : own_AI Z h a k ty n xs) (K : Keep h h' ws) (q : a ∉ ws) : own_AI Z h' a k ty n xs := ⟨F.1.keep K q, F.2⟩
theorem own_AI.lt {xs : List Int32} (F : own_AI Z h a k ty n xs) : a < h.size := F.1.lt
def own_AJ (Z : State) (h : Heap) (a : Addr) (k : ClassId) (n : Int32) (xs : List Int64) : Prop := Arv Z h a k .long n (xs.map Value.long) (.long 0) ∧ xs.length = n.toNatClampNeg
theorem own_AJ.ext {xs : List Int64} (F : own_AJ Z h a k n xs) (E : Ext h h') : own_AJ Z h' a k n xs := ⟨F.1.ext E, F.2⟩
theorem own_AJ.other {xs : List Int64} {sl : Nat} {v : Value} (F : own_AJ Z h b k n xs) (W : Wr h h' a sl v) (q : b ≠ a) : own_AJ Z h' b k n xs := ⟨F.1.other W q, F.2⟩
theorem own_AJ.keep {xs : List Int64} {ws : List Addr} (F : own_AJ Z h a k n xs) (K : Keep h h' ws) (q : a ∉ ws) : own_AJ Z h' a k n xs := ⟨F.1.keep K q, F.2⟩
theorem own_AJ.lt {xs : List Int64} (F : own_AJ Z h a k n xs) : a < h.size := F.1.lt
theorem own_ltn {j n : Int32} (q : ¬ j < 0 ∧ j < n) : j.toNatClampNeg < n.toNatClampNeg := by
  obtain ⟨q1, q2⟩ := q
  rw [Int32.lt_iff_toInt_lt] at q1 q2
  have e0 : (0 : Int32).toInt = 0 := rfl
  simp only [Int32.toNatClampNeg]; omega
theorem own_newI (A : Arr Z h a (newA k ty n) ty) (q : ¬ n < 0) (cnt : Nat) (hc : n.toNatClampNeg = cnt) (hd : defaultValue ty = .int 0) : own_AI Z h a k ty n (List.replicate cnt 0) := by
  have F := Arv.new A q
  rw [hd] at F
  exact ⟨by rw [List.map_replicate]; exact F.pad (pad_rep [] (.int 0) cnt), by rw [List.length_replicate, hc]⟩
theorem own_newJ (A : Arr Z h a (newA k .long n) .long) (q : ¬ n < 0) (cnt : Nat) (hc : n.toNatClampNeg = cnt) : own_AJ Z h a k n (List.replicate cnt 0) := by
  have F := Arv.new A q
  exact ⟨by rw [List.map_replicate]; exact F.pad (pad_rep [] (.long 0) cnt), by rw [List.length_replicate, hc]⟩
theorem own_stI (X : Stand p l e R s m args below meth c T locs cells slots) (hx : p.tables.exec = Jvm.exec) (hZ : Z.Warmed39 s.vm) (eT : T.heap = h) {xs : List Int32} (F : own_AI Z h a k .int n xs) {j x : Int32} (q : ¬ j < 0 ∧ j < n) {g : JFrame} (hg : g.method = m) {rest : List Value} (hs : g.stack = .int x :: .int j :: .ref a :: rest) (hd : decode c.code g.pc = .ok (.iastore, 1)) :
    ∃ T' h', Stand p l e R s m args below meth c T' (locs ++ [⟨a, j.toNatClampNeg⟩]) cells slots ∧ T'.heap = h' ∧ Wr h h' a j.toNatClampNeg (.int x) ∧ own_AI Z h' a k .int n (xs.set j.toNatClampNeg x) ∧ ∀ target, Steps p.tables e below (T'.setTop { g with pc := g.pc + 1, stack := rest }) target → Steps p.tables e below (T.setTop g) target := by
  obtain ⟨⟨cl, A, q1, S, q3, H, G⟩, hl⟩ := F
  obtain ⟨T', h', X', e', W, st⟩ := stI X hx hZ eT A (inb_of S q) hg hs hd
  refine ⟨T', h', X', e', W, ⟨?_, by rw [List.length_set]; exact hl⟩, st⟩
  rw [List.map_set]
  exact Arv.set A q1 S q3 H G rfl W _ rfl (by rw [List.length_map, hl]; exact own_ltn q)
theorem own_stB (X : Stand p l e R s m args below meth c T locs cells slots) (hx : p.tables.exec = Jvm.exec) (hZ : Z.Warmed39 s.vm) (eT : T.heap = h) {xs : List Int32} (F : own_AI Z h a k .byte n xs) {j x : Int32} (q : ¬ j < 0 ∧ j < n) {g : JFrame} (hg : g.method = m) {rest : List Value} (hs : g.stack = .int x :: .int j :: .ref a :: rest) (hd : decode c.code g.pc = .ok (.bastore, 1)) :
    ∃ T' h', Stand p l e R s m args below meth c T' (locs ++ [⟨a, j.toNatClampNeg⟩]) cells slots ∧ T'.heap = h' ∧ Wr h h' a j.toNatClampNeg (.int x.toInt8.toInt32) ∧ own_AI Z h' a k .byte n (xs.set j.toNatClampNeg x.toInt8.toInt32) ∧ ∀ target, Steps p.tables e below (T'.setTop { g with pc := g.pc + 1, stack := rest }) target → Steps p.tables e below (T.setTop g) target := by
  obtain ⟨⟨cl, A, q1, S, q3, H, G⟩, hl⟩ := F
  obtain ⟨T', h', X', e', W, st⟩ := stB X hx hZ eT A (inb_of S q) hg hs hd
  refine ⟨T', h', X', e', W, ⟨?_, by rw [List.length_set]; exact hl⟩, st⟩
  rw [List.map_set]
  exact Arv.set A q1 S q3 H G (fits_nar_byte _) W _ rfl (by rw [List.length_map, hl]; exact own_ltn q)
theorem own_stJ (X : Stand p l e R s m args below meth c T locs cells slots) (hx : p.tables.exec = Jvm.exec) (hZ : Z.Warmed39 s.vm) (eT : T.heap = h) {xs : List Int64} (F : own_AJ Z h a k n xs) {j : Int32} {x : Int64} (q : ¬ j < 0 ∧ j < n) {g : JFrame} (hg : g.method = m) {rest : List Value} (hs : g.stack = .long x :: .int j :: .ref a :: rest) (hd : decode c.code g.pc = .ok (.lastore, 1)) :
    ∃ T' h', Stand p l e R s m args below meth c T' (locs ++ [⟨a, j.toNatClampNeg⟩]) cells slots ∧ T'.heap = h' ∧ Wr h h' a j.toNatClampNeg (.long x) ∧ own_AJ Z h' a k n (xs.set j.toNatClampNeg x) ∧ ∀ target, Steps p.tables e below (T'.setTop { g with pc := g.pc + 1, stack := rest }) target → Steps p.tables e below (T.setTop g) target := by
  obtain ⟨⟨cl, A, q1, S, q3, H, G⟩, hl⟩ := F
  obtain ⟨T', h', X', e', W, st⟩ := stJ X hx hZ eT A (inb_of S q) hg hs hd
  refine ⟨T', h', X', e', W, ⟨?_, by rw [List.length_set]; exact hl⟩, st⟩
  rw [List.map_set]
  exact Arv.set A q1 S q3 H G rfl W _ rfl (by rw [List.length_map, hl]; exact own_ltn q)
theorem own_getI (xs : List Int32) (i : Nat) : (xs.map Value.int).getD i (.int 0) = .int (xs.getD i 0) := by
  simp only [List.getD_eq_getElem?_getD, List.getElem?_map]
  cases xs[i]? <;> rfl
theorem own_getJ (xs : List Int64) (i : Nat) : (xs.map Value.long).getD i (.long 0) = .long (xs.getD i 0) := by
  simp only [List.getD_eq_getElem?_getD, List.getElem?_map]
  cases xs[i]? <;> rfl
theorem own_ldI (X : Stand p l e R s m args below meth c T locs cells slots) (hx : p.tables.exec = Jvm.exec) (hZ : Z.Warmed39 s.vm) (eT : T.heap = h) {xs : List Int32} (F : own_AI Z h a k .int n xs) {j : Int32} (q : ¬ j < 0 ∧ j < n) {g : JFrame} (hg : g.method = m) {rest : List Value} (hs : g.stack = .int j :: .ref a :: rest) (hd : decode c.code g.pc = .ok (.iaload, 1)) :
    ∀ target, Steps p.tables e below (T.setTop { g with pc := g.pc + 1, stack := .int (xs.getD j.toNatClampNeg 0) :: rest }) target → Steps p.tables e below (T.setTop g) target := by
  obtain ⟨⟨cl, A, q1, S, q3, H, G⟩, hl⟩ := F
  intro target hr
  exact X.iaload hx (by rw [eT]; exact A.1) (State.isArrayOf_alike hZ.alike A.2.1) A.2.2 (inb_of S q) (H.at (inb_of S q) (own_getI xs _)) hg hs hd target hr
theorem own_ldB (X : Stand p l e R s m args below meth c T locs cells slots) (hx : p.tables.exec = Jvm.exec) (hZ : Z.Warmed39 s.vm) (eT : T.heap = h) {xs : List Int32} (F : own_AI Z h a k .byte n xs) {j : Int32} (q : ¬ j < 0 ∧ j < n) {g : JFrame} (hg : g.method = m) {rest : List Value} (hs : g.stack = .int j :: .ref a :: rest) (hd : decode c.code g.pc = .ok (.baload, 1)) :
    ∀ target, Steps p.tables e below (T.setTop { g with pc := g.pc + 1, stack := .int (xs.getD j.toNatClampNeg 0) :: rest }) target → Steps p.tables e below (T.setTop g) target := by
  obtain ⟨⟨cl, A, q1, S, q3, H, G⟩, hl⟩ := F
  intro target hr
  exact X.baloadBytes hx (by rw [eT]; exact A.1) (State.isArrayOf_alike hZ.alike A.2.1) A.2.2 (inb_of S q) (H.at (inb_of S q) (own_getI xs _)) hg hs hd target hr
theorem own_ldJ (X : Stand p l e R s m args below meth c T locs cells slots) (hx : p.tables.exec = Jvm.exec) (hZ : Z.Warmed39 s.vm) (eT : T.heap = h) {xs : List Int64} (F : own_AJ Z h a k n xs) {j : Int32} (q : ¬ j < 0 ∧ j < n) {g : JFrame} (hg : g.method = m) {rest : List Value} (hs : g.stack = .int j :: .ref a :: rest) (hd : decode c.code g.pc = .ok (.laload, 1)) :
    ∀ target, Steps p.tables e below (T.setTop { g with pc := g.pc + 1, stack := .long (xs.getD j.toNatClampNeg 0) :: rest }) target → Steps p.tables e below (T.setTop g) target := by
  obtain ⟨⟨cl, A, q1, S, q3, H, G⟩, hl⟩ := F
  intro target hr
  exact X.laload hx (by rw [eT]; exact A.1) (State.isArrayOf_alike hZ.alike A.2.1) A.2.2 (inb_of S q) (H.at (inb_of S q) (own_getJ xs _)) hg hs hd target hr
theorem own_lenJ (X : Stand p l e R s m args below meth c T locs cells slots) (hx : p.tables.exec = Jvm.exec) (hZ : Z.Warmed39 s.vm) (eT : T.heap = h) {xs : List Int64} (F : own_AJ Z h a k n xs) {g : JFrame} (hg : g.method = m) {rest : List Value} (hs : g.stack = .ref a :: rest) (hd : decode c.code g.pc = .ok (.arraylength, 1)) :
    ∀ target, Steps p.tables e below (T.setTop { g with pc := g.pc + 1, stack := .int n :: rest }) target → Steps p.tables e below (T.setTop g) target := by
  obtain ⟨⟨cl, A, q1, S, q3, H, G⟩, hl⟩ := F
  intro target hr
  refine X.arraylength hx (by rw [eT]; exact A.1) (State.isArrayOf_alike hZ.alike A.2.1) hg hs hd target ?_
  rw [len_of S q3]; exact hr
theorem own_rng {α : Type} (d : α) (xs : List α) (n : Nat) (hn : xs.length = n) : (List.range n).map (fun i => xs.getD (0 + i) d) = xs := by
  subst hn
  apply List.ext_getElem?
  intro i
  simp only [List.getElem?_map, List.getD_eq_getElem?_getD, Nat.zero_add]
  by_cases q : i < xs.length
  · simp [List.getElem?_range q, List.getElem?_eq_getElem q]
  · have q' : xs.length ≤ i := Nat.le_of_not_lt q
    rw [List.getElem?_eq_none (by simpa using q'), List.getElem?_eq_none q']; rfl
theorem own_cpJ (X : Stand p l e R s m args below meth c T locs cells slots) (hx : p.tables.exec = Jvm.exec) (hZ : Z.Warmed39 s.vm) {a0 : Array Value} {own : String} {index : Nat} (hown : s.vm.findClass own = some m.cls)
    (w1 : (Cond.methodLink own index Jvm.Stand.acN).before a0 Z = true) (w2 : (Cond.native Jvm.Stand.acN).before a0 Z = true) (w3 : (Cond.static Jvm.Stand.acN).before a0 Z = true) (w4 : (Cond.initialized "java/lang/System").before a0 Z = true) (eT : T.heap = h)
    {xs ys : List Int64} (A : own_AJ Z h a k n xs) (B : own_AJ Z h b k' n ys) (h3 : ¬ n < 0) (h4 : (0 : Int32).toNatClampNeg = 0) {n0 : Nat} (N : Fr n0 locs) (ge : n0 ≤ b)
    {g : JFrame} (hg : g.method = m) (hsize : g.locals.size = c.maxLocals) {rest : List Value} (hs : g.stack = .int n :: .int 0 :: .ref b :: .int 0 :: .ref a :: rest) (hd : decode c.code g.pc = .ok (.invokestatic index, 3))
    (hf : 1 ≤ R.frames) {W : Nat} (hW : 2 * g.monitorRoom + (rest.map fun v => v.category).sum ≤ W) (hlo : W + (nativeFrameWords "java/lang/System" "arraycopy" 5 + 11) ≤ R.locals) :
    ∃ T' h' L, Stand p l e R s m args below meth c T' L cells slots ∧ T'.heap = h' ∧ Fr n0 L ∧ Keep h h' [b] ∧ own_AJ Z h' b k' n xs ∧
      ∀ target, Steps p.tables e below (T'.setTop { g with pc := g.pc + 3, stack := rest }) target → Steps p.tables e below (T.setTop g) target := by
  obtain ⟨A, la⟩ := A
  obtain ⟨B, lb⟩ := B
  obtain ⟨T', h', L, X', e', N', K', V', st⟩ := cpA X hx hZ hown w1 w2 w3 w4 eT A B (Or.inl ⟨rfl, rfl⟩) (sp := 0) (dp := 0) (nn := n) (by decide) (by decide) h3 (by rw [h4]; omega) (by rw [h4]; omega) rfl (by rw [h4, List.length_map, lb]; omega) N ge hg hsize hs hd hf hW hlo
  refine ⟨T', h', L, X', e', N', K', ⟨?_, la⟩, st⟩
  rw [h4] at V'
  rw [own_rng (.long 0) (xs.map Value.long) _ (by rw [List.length_map, la])] at V'
  have q : List.drop (0 + n.toNatClampNeg) (ys.map Value.long) = [] := by rw [List.drop_eq_nil_iff, List.length_map, lb]; omega
  rw [q] at V'
  simpa using V'
end Own

def own_desc (u1 u2 u3 : Int32) (u4 u5 : Int64) (u6 w1 w2 w3 : Int32) (w4 w5 : Int64) (w6 : Int32) : Int32 := if u1 = w1 then (if u2 = w2 then (if u3 = w3 then (if u4 = w4 then (if u5 = w5 then (if u6 = w6 then 1 else 0) else 0) else 0) else 0) else 0) else 0
theorem own_sym (u1 u2 u3 : Int32) (u4 u5 : Int64) (u6 w1 w2 w3 : Int32) (w4 w5 : Int64) (w6 : Int32) : own_desc w1 w2 w3 w4 w5 w6 u1 u2 u3 u4 u5 u6 = own_desc u1 u2 u3 u4 u5 u6 w1 w2 w3 w4 w5 w6 := by
  unfold own_desc
  simp only [eq_comm (a := w1), eq_comm (a := w2), eq_comm (a := w3), eq_comm (a := w4), eq_comm (a := w5), eq_comm (a := w6)]
theorem own_rg {a x : Int32} (h : (a &&& (7 : Int32)) = x) : 0 ≤ x.toInt ∧ x.toInt < 8 := by
  have q : (a &&& (7 : Int32)).toInt = a.toInt % (2 ^ 3 : Nat) := c_mask a 7 3 (by decide) (by decide)
  rw [← h, q]; omega
theorem own_ai (c d : Int32) : (c = c + d) ↔ d = 0 := by
  constructor
  · intro h
    have q := c_iadd c d
    rw [← h] at q
    have r := rng32 d
    apply Int32.toInt_inj.mp
    have e0 : (0 : Int32).toInt = 0 := rfl
    omega
  · rintro rfl; simp
theorem own_al (c d : Int64) : (c = c + d) ↔ d = 0 := by
  constructor
  · intro h
    have q := c_ladd c d
    rw [← h] at q
    have r := rng64 d
    apply Int64.toInt_inj.mp
    have e0 : (0 : Int64).toInt = 0 := rfl
    omega
  · rintro rfl; simp
theorem own_key {s c m r k di : Int32} {n b d : Int64} (h : 0 ≤ s.toInt ∧ s.toInt < 8) :
    own_desc c m r n b k (if s = (0 : Int32) then (c + di) else c) (if s = (1 : Int32) then (m + di) else m) (if s = (2 : Int32) then (r + di) else r) (if s = (3 : Int32) then (n + d) else n) (if s = (4 : Int32) then (b + d) else b) (if s = (5 : Int32) then (k + di) else k)
      = (if s = (3 : Int32) then (if d = (0 : Int64) then (1 : Int32) else (0 : Int32)) else (if s = (4 : Int32) then (if d = (0 : Int64) then (1 : Int32) else (0 : Int32)) else (if s < (6 : Int32) then (if di = (0 : Int32) then (1 : Int32) else (0 : Int32)) else (1 : Int32)))) := by
  have h8 : s = 0 ∨ s = 1 ∨ s = 2 ∨ s = 3 ∨ s = 4 ∨ s = 5 ∨ s = 6 ∨ s = 7 := by
    have e : ∀ k : Int32, s.toInt = k.toInt → s = k := fun k q => Int32.toInt_inj.mp q
    have := h.1
    have := h.2
    rcases (show s.toInt = 0 ∨ s.toInt = 1 ∨ s.toInt = 2 ∨ s.toInt = 3 ∨ s.toInt = 4 ∨ s.toInt = 5 ∨ s.toInt = 6 ∨ s.toInt = 7 by omega) with q | q | q | q | q | q | q | q
    · exact Or.inl (e 0 q)
    · exact Or.inr (Or.inl (e 1 q))
    · exact Or.inr (Or.inr (Or.inl (e 2 q)))
    · exact Or.inr (Or.inr (Or.inr (Or.inl (e 3 q))))
    · exact Or.inr (Or.inr (Or.inr (Or.inr (Or.inl (e 4 q)))))
    · exact Or.inr (Or.inr (Or.inr (Or.inr (Or.inr (Or.inl (e 5 q))))))
    · exact Or.inr (Or.inr (Or.inr (Or.inr (Or.inr (Or.inr (Or.inl (e 6 q)))))))
    · exact Or.inr (Or.inr (Or.inr (Or.inr (Or.inr (Or.inr (Or.inr (e 7 q)))))))
  rcases h8 with rfl | rfl | rfl | rfl | rfl | rfl | rfl | rfl <;> simp +decide [own_desc, own_ai, own_al]
theorem own_pd0 : parseMethodDescriptor "()V" = some ⟨[], none⟩ := by decide +kernel
theorem own_pd1 : parseMethodDescriptor "(IIIJJIJ)V" = some ⟨[.int, .int, .int, .long, .long, .int, .long], none⟩ := by decide +kernel
theorem own_pd2 : parseMethodDescriptor "(Lcom/example/firstlight/firstlight/SegmentFile$Header;)Z" = some ⟨[(.object "com/example/firstlight/firstlight/SegmentFile$Header")], some .boolean⟩ := by decide +kernel
theorem own_d1_0 : decode jdk_30_method_1_code 0 = .ok (.aload_n 0, 1) := by decide +kernel
theorem own_d1_1 : decode jdk_30_method_1_code 1 = .ok (.invokespecial 1, 3) := by decide +kernel
theorem own_d1_4 : decode jdk_30_method_1_code 4 = .ok (.return_, 1) := by decide +kernel
abbrev own_room1 : Room := { frames := 1, cells := 0, slots := 0, locals := 12 }
theorem own_pn1 : plainName "java/lang/Record" = true := by first | (simp [plainName, overriddenIn]; done) | decide +kernel
theorem own_ef1 (m : MethodId) (a0 : Addr) : entryFrame m #[(.ref a0)] 1 = mkF m 0 #[.val (.ref a0)] [] := by first | (simp [entryFrame, mkF, argsToLocals, Value.category]; done) | rfl
def own_Q1 (Z : State) (a0 : Addr) (h0 : Heap) (n0 : Nat) (v : Option Value) (h : Heap) (L : List Loc) : Prop := v = none ∧ Fr n0 L ∧ h = h0
set_option maxRecDepth 65536 in
set_option maxHeartbeats 40000000 in
theorem own_rm1 (l : Launch) (Z : State) (a0 : Array Value) (hw : ∀ d ∈ tables_1, d.before a0 Z = true) (ws : List Jvm.Cond) (a0 : Addr) (h0 : Heap) (n0 : Nat)  :
    MetFree l (⟨"java/lang/Record", "<init>", "()V"⟩ : MethodName) (head1 (Jvm.Cond.code (⟨"java/lang/Record", "<init>", "()V"⟩ : MethodName) jdk_30_method_1_code 1 none :: ws) (own_room1 : Room)) (fun a U => a = #[(.ref a0)] ∧ Z.Warmed39 U.vm ∧ U.heap = h0) (fun _ _ _ _ _ => True) (fun _ U o U' => ∃ v L, o = .returned v ∧ own_Q1 Z a0 h0 n0 v U'.heap L ∧ FrameEnd U o U' L (own_room1 : Room).cells (own_room1 : Room).slots) := by
  refine MetFree.of_bodySF (plainFor_of_name own_pn1) hisR ?_
  intro p e s m args below meth c s₁ Bd hml0 hP hK
  obtain ⟨rfl, hZ, hh⟩ := hP
  have hx := Bd.exec
  have hby := Bd.bytes
  have hml : c.maxLocals = 1 := hml0
  have hown : s.vm.findClass "java/lang/Record" = some m.cls := findClass_of_methodNamed Bd.named
  have hnm := (name_of_methodNamed Bd.named Bd.method).1
  have X0 : Stand p l e (own_room1 : Room) s m #[(.ref a0)] below meth c s₁ [] 0 0 := Stand.of_body Bd
  have e0 : s₁.heap = h0 := by rw [← hh, Bd.state]; rfl
  have N0 := Fr.nil n0
  refine own_out fun G hG => ?_
  rw [own_ef1 m a0]
  show own_Go p.tables e below G (s₁.setTop (mkF m 0 #[.val (.ref a0)] []))
  refine own_of (S' := s₁.setTop (mkF m 1 #[.val (.ref a0)] [(.ref a0)])) (fun t k => XS.aloadN X0.here hx rfl (hb hby own_d1_0) rfl rfl k) ?_
  obtain ⟨T1, X1, e1, st1⟩ := initO X0 hx hZ hown (hw _ (List.mem_of_getElem? (i := 11) rfl)) (hw _ (List.mem_of_getElem? (i := 12) rfl)) (hw _ (List.mem_of_getElem? (i := 13) rfl)) e0 (g := (mkF m 1 #[.val (.ref a0)] [(.ref a0)])) rfl (by rw [hml]; rfl) rfl (hb hby own_d1_1) (by decide) (W := 0) (by show 2 * 0 + _ ≤ _; exact Nat.le_of_eq rfl) (by decide)
  refine own_of (S' := T1.setTop (mkF m 4 #[.val (.ref a0)] [])) st1 ?_
  obtain ⟨fs, hr, hrun, hended, hW, hsame⟩ := X1.leave (v := none) (fun _ => rfl)
  refine ⟨_, _, X1.returnOut hx Bd.returns (hb hby own_d1_4) hr, hrun, hended, hG _ _ ⟨_, _, rfl, ?_, ⟨_, rfl⟩, hW, hsame.mono (by decide) (by decide)⟩⟩
  show own_Q1 Z a0 h0 n0 _ T1.heap _
  rw [e1]
  exact ⟨rfl, N0, rfl⟩
theorem own_d2_0 : decode prog_51_method_1_code 0 = .ok (.aload_n 0, 1) := by decide +kernel
theorem own_d2_1 : decode prog_51_method_1_code 1 = .ok (.invokespecial 1, 3) := by decide +kernel
theorem own_d2_4 : decode prog_51_method_1_code 4 = .ok (.aload_n 0, 1) := by decide +kernel
theorem own_d2_5 : decode prog_51_method_1_code 5 = .ok (.iload_n 1, 1) := by decide +kernel
theorem own_d2_6 : decode prog_51_method_1_code 6 = .ok (.putfield 7, 3) := by decide +kernel
theorem own_d2_9 : decode prog_51_method_1_code 9 = .ok (.aload_n 0, 1) := by decide +kernel
theorem own_d2_10 : decode prog_51_method_1_code 10 = .ok (.iload_n 2, 1) := by decide +kernel
theorem own_d2_11 : decode prog_51_method_1_code 11 = .ok (.putfield 13, 3) := by decide +kernel
theorem own_d2_14 : decode prog_51_method_1_code 14 = .ok (.aload_n 0, 1) := by decide +kernel
theorem own_d2_15 : decode prog_51_method_1_code 15 = .ok (.iload_n 3, 1) := by decide +kernel
theorem own_d2_16 : decode prog_51_method_1_code 16 = .ok (.putfield 16, 3) := by decide +kernel
theorem own_d2_19 : decode prog_51_method_1_code 19 = .ok (.aload_n 0, 1) := by decide +kernel
theorem own_d2_20 : decode prog_51_method_1_code 20 = .ok (.lload 4, 2) := by decide +kernel
theorem own_d2_22 : decode prog_51_method_1_code 22 = .ok (.putfield 19, 3) := by decide +kernel
theorem own_d2_25 : decode prog_51_method_1_code 25 = .ok (.aload_n 0, 1) := by decide +kernel
theorem own_d2_26 : decode prog_51_method_1_code 26 = .ok (.lload 6, 2) := by decide +kernel
theorem own_d2_28 : decode prog_51_method_1_code 28 = .ok (.putfield 23, 3) := by decide +kernel
theorem own_d2_31 : decode prog_51_method_1_code 31 = .ok (.aload_n 0, 1) := by decide +kernel
theorem own_d2_32 : decode prog_51_method_1_code 32 = .ok (.iload 8, 2) := by decide +kernel
theorem own_d2_34 : decode prog_51_method_1_code 34 = .ok (.putfield 26, 3) := by decide +kernel
theorem own_d2_37 : decode prog_51_method_1_code 37 = .ok (.aload_n 0, 1) := by decide +kernel
theorem own_d2_38 : decode prog_51_method_1_code 38 = .ok (.lload 9, 2) := by decide +kernel
theorem own_d2_40 : decode prog_51_method_1_code 40 = .ok (.putfield 29, 3) := by decide +kernel
theorem own_d2_43 : decode prog_51_method_1_code 43 = .ok (.return_, 1) := by decide +kernel
abbrev own_room2 : Room := { frames := 2, cells := 0, slots := 0, locals := 24 }
theorem own_pn2 : plainName "com/example/firstlight/firstlight/SegmentFile$Header" = true := by first | (simp [plainName, overriddenIn]; done) | decide +kernel
theorem own_ef2 (m : MethodId) (a0 : Addr) (c1 : Int32) (c2 : Int32) (c3 : Int32) (c4 : Int64) (c5 : Int64) (c6 : Int32) (c7 : Int64) : entryFrame m #[(.ref a0), (.int c1), (.int c2), (.int c3), (.long c4), (.long c5), (.int c6), (.long c7)] 11 = mkF m 0 #[.val (.ref a0), .val (.int c1), .val (.int c2), .val (.int c3), .val (.long c4), .second, .val (.long c5), .second, .val (.int c6), .val (.long c7), .second] [] := by first | (simp [entryFrame, mkF, argsToLocals, Value.category]; done) | rfl
def own_Q2 (Z : State) (a0 : Addr) (c1 : Int32) (c2 : Int32) (c3 : Int32) (c4 : Int64) (c5 : Int64) (c6 : Int32) (c7 : Int64) (h0 : Heap) (n0 : Nat) (v : Option Value) (h : Heap) (L : List Loc) : Prop := v = none ∧ Fr n0 L ∧ Keep h0 h [a0] ∧ Exa Z h a0 "com/example/firstlight/firstlight/SegmentFile$Header" ∧ Fld Z h a0 "com/example/firstlight/firstlight/SegmentFile$Header" "capacity" "I" (.int c1) ∧ Fld Z h a0 "com/example/firstlight/firstlight/SegmentFile$Header" "maxSegments" "I" (.int c2) ∧ Fld Z h a0 "com/example/firstlight/firstlight/SegmentFile$Header" "rule" "I" (.int c3) ∧ Fld Z h a0 "com/example/firstlight/firstlight/SegmentFile$Header" "number" "J" (.long c4) ∧ Fld Z h a0 "com/example/firstlight/firstlight/SegmentFile$Header" "base" "J" (.long c5) ∧ Fld Z h a0 "com/example/firstlight/firstlight/SegmentFile$Header" "documents" "I" (.int c6) ∧ Fld Z h a0 "com/example/firstlight/firstlight/SegmentFile$Header" "length" "J" (.long c7)
set_option maxRecDepth 65536 in
set_option maxHeartbeats 40000000 in
theorem own_rm2 (l : Launch) (Z : State) (a0 : Array Value) (hw : ∀ d ∈ tables_1, d.before a0 Z = true) (ws : List Jvm.Cond) (a0 : Addr) (c1 : Int32) (c2 : Int32) (c3 : Int32) (c4 : Int64) (c5 : Int64) (c6 : Int32) (c7 : Int64) (h0 : Heap) (n0 : Nat) (F0 : Exa Z h0 a0 "com/example/firstlight/firstlight/SegmentFile$Header") (F1 : Fld Z h0 a0 "com/example/firstlight/firstlight/SegmentFile$Header" "capacity" "I" (.int (0 : Int32))) (F2 : Fld Z h0 a0 "com/example/firstlight/firstlight/SegmentFile$Header" "maxSegments" "I" (.int (0 : Int32))) (F3 : Fld Z h0 a0 "com/example/firstlight/firstlight/SegmentFile$Header" "rule" "I" (.int (0 : Int32))) (F4 : Fld Z h0 a0 "com/example/firstlight/firstlight/SegmentFile$Header" "number" "J" (.long (0 : Int64))) (F5 : Fld Z h0 a0 "com/example/firstlight/firstlight/SegmentFile$Header" "base" "J" (.long (0 : Int64))) (F6 : Fld Z h0 a0 "com/example/firstlight/firstlight/SegmentFile$Header" "documents" "I" (.int (0 : Int32))) (F7 : Fld Z h0 a0 "com/example/firstlight/firstlight/SegmentFile$Header" "length" "J" (.long (0 : Int64))) (g_a0 : n0 ≤ a0) :
    MetFree l (⟨"com/example/firstlight/firstlight/SegmentFile$Header", "<init>", "(IIIJJIJ)V"⟩ : MethodName) (head1 (Jvm.Cond.code (⟨"com/example/firstlight/firstlight/SegmentFile$Header", "<init>", "(IIIJJIJ)V"⟩ : MethodName) prog_51_method_1_code 11 none :: ws) (own_room2 : Room)) (fun a U => a = #[(.ref a0), (.int c1), (.int c2), (.int c3), (.long c4), (.long c5), (.int c6), (.long c7)] ∧ Z.Warmed39 U.vm ∧ U.heap = h0) (fun _ _ _ _ _ => True) (fun _ U o U' => ∃ v L, o = .returned v ∧ own_Q2 Z a0 c1 c2 c3 c4 c5 c6 c7 h0 n0 v U'.heap L ∧ FrameEnd U o U' L (own_room2 : Room).cells (own_room2 : Room).slots) := by
  refine MetFree.of_bodySF (plainFor_of_name own_pn2) hisR ?_
  intro p e s m args below meth c s₁ Bd hml0 hP hK
  obtain ⟨rfl, hZ, hh⟩ := hP
  have hx := Bd.exec
  have hby := Bd.bytes
  have hml : c.maxLocals = 11 := hml0
  have hown : s.vm.findClass "com/example/firstlight/firstlight/SegmentFile$Header" = some m.cls := findClass_of_methodNamed Bd.named
  have hnm := (name_of_methodNamed Bd.named Bd.method).1
  have X0 : Stand p l e (own_room2 : Room) s m #[(.ref a0), (.int c1), (.int c2), (.int c3), (.long c4), (.long c5), (.int c6), (.long c7)] below meth c s₁ [] 0 0 := Stand.of_body Bd
  have e0 : s₁.heap = h0 := by rw [← hh, Bd.state]; rfl
  have N0 := Fr.nil n0
  have K0 := Keep.refl h0 [a0]
  refine own_out fun G hG => ?_
  rw [own_ef2 m a0 c1 c2 c3 c4 c5 c6 c7]
  show own_Go p.tables e below G (s₁.setTop (mkF m 0 #[.val (.ref a0), .val (.int c1), .val (.int c2), .val (.int c3), .val (.long c4), .second, .val (.long c5), .second, .val (.int c6), .val (.long c7), .second] []))
  refine own_of (S' := s₁.setTop (mkF m 1 #[.val (.ref a0), .val (.int c1), .val (.int c2), .val (.int c3), .val (.long c4), .second, .val (.long c5), .second, .val (.int c6), .val (.long c7), .second] [(.ref a0)])) (fun t k => XS.aloadN X0.here hx rfl (hb hby own_d2_0) rfl rfl k) ?_
  obtain ⟨_, _, ⟨T2, L2, k2, n2⟩, -, X2, ⟨Lc2, hQ2, l2, y2, z2⟩, st2⟩ := X0.specialBack hx (y := (⟨"java/lang/Record", "<init>", "()V"⟩ : MethodName)) rfl hown (mvT hZ (hw _ (List.mem_of_getElem? (i := 6) rfl))) (mvT hZ (hw _ (List.mem_of_getElem? (i := 7) rfl))) (mvT hZ (hw _ (List.mem_of_getElem? (i := 10) rfl))) (by decide) (backOf (W := 0) (own_rm1 l Z _ hw [] a0 h0 n0 ) hZ (hw _ (List.mem_of_getElem? (i := 10) rfl)) (hw _ (List.mem_of_getElem? (i := 9) rfl)) (by decide) (by decide)) (g := (mkF m 1 #[.val (.ref a0), .val (.int c1), .val (.int c2), .val (.int c3), .val (.long c4), .second, .val (.long c5), .second, .val (.int c6), .val (.long c7), .second] [(.ref a0)])) rfl (by rw [hml]; rfl) (Steps.refl _) (a := a0) (argsL := []) (rest := []) (lenOf own_pd0 rfl) rfl (by show 2 * 0 + _ ≤ _; exact Nat.le_of_eq rfl) (hb hby own_d2_1) (fun _ _ => ⟨rfl, e0, (by decide : 0 + 0 ≤ _), (by decide : 0 + 0 ≤ _)⟩)
  dsimp only [Pt.U, Pt.locs, Pt.cells, Pt.slots] at X2 l2 y2 z2 st2 hQ2
  subst l2 y2 z2
  obtain ⟨rfl, M2, eh2⟩ := hQ2
  have N2 := Fr.app N0 M2
  refine own_of (S' := T2.setTop (mkF m 4 #[.val (.ref a0), .val (.int c1), .val (.int c2), .val (.int c3), .val (.long c4), .second, .val (.long c5), .second, .val (.int c6), .val (.long c7), .second] [])) (fun t k => st2.trans k) ?_
  refine own_of (S' := T2.setTop (mkF m 5 #[.val (.ref a0), .val (.int c1), .val (.int c2), .val (.int c3), .val (.long c4), .second, .val (.long c5), .second, .val (.int c6), .val (.long c7), .second] [(.ref a0)])) (fun t k => XS.aloadN X2.here hx rfl (hb hby own_d2_4) rfl rfl k) ?_
  refine own_of (S' := T2.setTop (mkF m 6 #[.val (.ref a0), .val (.int c1), .val (.int c2), .val (.int c3), .val (.long c4), .second, .val (.long c5), .second, .val (.int c6), .val (.long c7), .second] [(.int c1), (.ref a0)])) (fun t k => XS.iloadN X2.here hx rfl (hb hby own_d2_5) rfl k) ?_
  obtain ⟨T3, h3, X3, e3, W3, st3⟩ := putF X2 hx hZ hown (host := "") (Or.inl (hw _ (List.mem_of_getElem? (i := 14) rfl))) Via.refl eh2 F1 F0 (Or.inr ⟨(hw _ (List.mem_of_getElem? (i := 15) rfl)), rfl, hnm⟩) (hw _ (List.mem_of_getElem? (i := 1) rfl)) (ty := .int) (by decide) rfl rfl (g := (mkF m 6 #[.val (.ref a0), .val (.int c1), .val (.int c2), .val (.int c3), .val (.long c4), .second, .val (.long c5), .second, .val (.int c6), .val (.long c7), .second] [(.int c1), (.ref a0)])) rfl rfl (hb hby own_d2_6)
  have f4 : Fld Z h3 a0 "com/example/firstlight/firstlight/SegmentFile$Header" "capacity" "I" (.int c1) := F1.same W3
  have f5 : Exa Z h3 a0 "com/example/firstlight/firstlight/SegmentFile$Header" := (F0.wr W3)
  have f6 : Fld Z h3 a0 "com/example/firstlight/firstlight/SegmentFile$Header" "maxSegments" "I" (.int (0 : Int32)) := (F2.other W3 (Or.inr (slot_ne (Or.inr (hw _ (List.mem_of_getElem? (i := 17) rfl))) (Or.inr (hw _ (List.mem_of_getElem? (i := 15) rfl))) (by decide) (t := .int) (t' := .int) (by decide) (by decide))))
  have f7 : Fld Z h3 a0 "com/example/firstlight/firstlight/SegmentFile$Header" "rule" "I" (.int (0 : Int32)) := (F3.other W3 (Or.inr (slot_ne (Or.inr (hw _ (List.mem_of_getElem? (i := 19) rfl))) (Or.inr (hw _ (List.mem_of_getElem? (i := 15) rfl))) (by decide) (t := .int) (t' := .int) (by decide) (by decide))))
  have f8 : Fld Z h3 a0 "com/example/firstlight/firstlight/SegmentFile$Header" "number" "J" (.long (0 : Int64)) := (F4.other W3 (Or.inr (slot_ne (Or.inr (hw _ (List.mem_of_getElem? (i := 21) rfl))) (Or.inr (hw _ (List.mem_of_getElem? (i := 15) rfl))) (by decide) (t := .long) (t' := .int) (by decide) (by decide))))
  have f9 : Fld Z h3 a0 "com/example/firstlight/firstlight/SegmentFile$Header" "base" "J" (.long (0 : Int64)) := (F5.other W3 (Or.inr (slot_ne (Or.inr (hw _ (List.mem_of_getElem? (i := 23) rfl))) (Or.inr (hw _ (List.mem_of_getElem? (i := 15) rfl))) (by decide) (t := .long) (t' := .int) (by decide) (by decide))))
  have f10 : Fld Z h3 a0 "com/example/firstlight/firstlight/SegmentFile$Header" "documents" "I" (.int (0 : Int32)) := (F6.other W3 (Or.inr (slot_ne (Or.inr (hw _ (List.mem_of_getElem? (i := 25) rfl))) (Or.inr (hw _ (List.mem_of_getElem? (i := 15) rfl))) (by decide) (t := .int) (t' := .int) (by decide) (by decide))))
  have f11 : Fld Z h3 a0 "com/example/firstlight/firstlight/SegmentFile$Header" "length" "J" (.long (0 : Int64)) := (F7.other W3 (Or.inr (slot_ne (Or.inr (hw _ (List.mem_of_getElem? (i := 27) rfl))) (Or.inr (hw _ (List.mem_of_getElem? (i := 15) rfl))) (by decide) (t := .long) (t' := .int) (by decide) (by decide))))
  have N3 := Fr.snoc X3 N2 g_a0
  have kk12 : Keep h0 h3 [a0] := K0.wr W3 (Or.inl (List.mem_of_getElem? (i := 0) rfl))
  refine own_of (S' := T3.setTop (mkF m 9 #[.val (.ref a0), .val (.int c1), .val (.int c2), .val (.int c3), .val (.long c4), .second, .val (.long c5), .second, .val (.int c6), .val (.long c7), .second] [])) st3 ?_
  refine own_of (S' := T3.setTop (mkF m 10 #[.val (.ref a0), .val (.int c1), .val (.int c2), .val (.int c3), .val (.long c4), .second, .val (.long c5), .second, .val (.int c6), .val (.long c7), .second] [(.ref a0)])) (fun t k => XS.aloadN X3.here hx rfl (hb hby own_d2_9) rfl rfl k) ?_
  refine own_of (S' := T3.setTop (mkF m 11 #[.val (.ref a0), .val (.int c1), .val (.int c2), .val (.int c3), .val (.long c4), .second, .val (.long c5), .second, .val (.int c6), .val (.long c7), .second] [(.int c2), (.ref a0)])) (fun t k => XS.iloadN X3.here hx rfl (hb hby own_d2_10) rfl k) ?_
  obtain ⟨T13, h13, X13, e13, W13, st13⟩ := putF X3 hx hZ hown (host := "") (Or.inl (hw _ (List.mem_of_getElem? (i := 16) rfl))) Via.refl e3 f6 f5 (Or.inr ⟨(hw _ (List.mem_of_getElem? (i := 17) rfl)), rfl, hnm⟩) (hw _ (List.mem_of_getElem? (i := 1) rfl)) (ty := .int) (by decide) rfl rfl (g := (mkF m 11 #[.val (.ref a0), .val (.int c1), .val (.int c2), .val (.int c3), .val (.long c4), .second, .val (.long c5), .second, .val (.int c6), .val (.long c7), .second] [(.int c2), (.ref a0)])) rfl rfl (hb hby own_d2_11)
  have f14 : Fld Z h13 a0 "com/example/firstlight/firstlight/SegmentFile$Header" "maxSegments" "I" (.int c2) := f6.same W13
  have f15 : Exa Z h13 a0 "com/example/firstlight/firstlight/SegmentFile$Header" := (f5.wr W13)
  have f16 : Fld Z h13 a0 "com/example/firstlight/firstlight/SegmentFile$Header" "rule" "I" (.int (0 : Int32)) := (f7.other W13 (Or.inr (slot_ne (Or.inr (hw _ (List.mem_of_getElem? (i := 19) rfl))) (Or.inr (hw _ (List.mem_of_getElem? (i := 17) rfl))) (by decide) (t := .int) (t' := .int) (by decide) (by decide))))
  have f17 : Fld Z h13 a0 "com/example/firstlight/firstlight/SegmentFile$Header" "number" "J" (.long (0 : Int64)) := (f8.other W13 (Or.inr (slot_ne (Or.inr (hw _ (List.mem_of_getElem? (i := 21) rfl))) (Or.inr (hw _ (List.mem_of_getElem? (i := 17) rfl))) (by decide) (t := .long) (t' := .int) (by decide) (by decide))))
  have f18 : Fld Z h13 a0 "com/example/firstlight/firstlight/SegmentFile$Header" "base" "J" (.long (0 : Int64)) := (f9.other W13 (Or.inr (slot_ne (Or.inr (hw _ (List.mem_of_getElem? (i := 23) rfl))) (Or.inr (hw _ (List.mem_of_getElem? (i := 17) rfl))) (by decide) (t := .long) (t' := .int) (by decide) (by decide))))
  have f19 : Fld Z h13 a0 "com/example/firstlight/firstlight/SegmentFile$Header" "documents" "I" (.int (0 : Int32)) := (f10.other W13 (Or.inr (slot_ne (Or.inr (hw _ (List.mem_of_getElem? (i := 25) rfl))) (Or.inr (hw _ (List.mem_of_getElem? (i := 17) rfl))) (by decide) (t := .int) (t' := .int) (by decide) (by decide))))
  have f20 : Fld Z h13 a0 "com/example/firstlight/firstlight/SegmentFile$Header" "length" "J" (.long (0 : Int64)) := (f11.other W13 (Or.inr (slot_ne (Or.inr (hw _ (List.mem_of_getElem? (i := 27) rfl))) (Or.inr (hw _ (List.mem_of_getElem? (i := 17) rfl))) (by decide) (t := .long) (t' := .int) (by decide) (by decide))))
  have f21 : Fld Z h13 a0 "com/example/firstlight/firstlight/SegmentFile$Header" "capacity" "I" (.int c1) := (f4.other W13 (Or.inr (slot_ne (Or.inr (hw _ (List.mem_of_getElem? (i := 15) rfl))) (Or.inr (hw _ (List.mem_of_getElem? (i := 17) rfl))) (by decide) (t := .int) (t' := .int) (by decide) (by decide))))
  have N13 := Fr.snoc X13 N3 g_a0
  have kk22 : Keep h0 h13 [a0] := kk12.wr W13 (Or.inl (List.mem_of_getElem? (i := 0) rfl))
  refine own_of (S' := T13.setTop (mkF m 14 #[.val (.ref a0), .val (.int c1), .val (.int c2), .val (.int c3), .val (.long c4), .second, .val (.long c5), .second, .val (.int c6), .val (.long c7), .second] [])) st13 ?_
  refine own_of (S' := T13.setTop (mkF m 15 #[.val (.ref a0), .val (.int c1), .val (.int c2), .val (.int c3), .val (.long c4), .second, .val (.long c5), .second, .val (.int c6), .val (.long c7), .second] [(.ref a0)])) (fun t k => XS.aloadN X13.here hx rfl (hb hby own_d2_14) rfl rfl k) ?_
  refine own_of (S' := T13.setTop (mkF m 16 #[.val (.ref a0), .val (.int c1), .val (.int c2), .val (.int c3), .val (.long c4), .second, .val (.long c5), .second, .val (.int c6), .val (.long c7), .second] [(.int c3), (.ref a0)])) (fun t k => XS.iloadN X13.here hx rfl (hb hby own_d2_15) rfl k) ?_
  obtain ⟨T23, h23, X23, e23, W23, st23⟩ := putF X13 hx hZ hown (host := "") (Or.inl (hw _ (List.mem_of_getElem? (i := 18) rfl))) Via.refl e13 f16 f15 (Or.inr ⟨(hw _ (List.mem_of_getElem? (i := 19) rfl)), rfl, hnm⟩) (hw _ (List.mem_of_getElem? (i := 1) rfl)) (ty := .int) (by decide) rfl rfl (g := (mkF m 16 #[.val (.ref a0), .val (.int c1), .val (.int c2), .val (.int c3), .val (.long c4), .second, .val (.long c5), .second, .val (.int c6), .val (.long c7), .second] [(.int c3), (.ref a0)])) rfl rfl (hb hby own_d2_16)
  have f24 : Fld Z h23 a0 "com/example/firstlight/firstlight/SegmentFile$Header" "rule" "I" (.int c3) := f16.same W23
  have f25 : Exa Z h23 a0 "com/example/firstlight/firstlight/SegmentFile$Header" := (f15.wr W23)
  have f26 : Fld Z h23 a0 "com/example/firstlight/firstlight/SegmentFile$Header" "number" "J" (.long (0 : Int64)) := (f17.other W23 (Or.inr (slot_ne (Or.inr (hw _ (List.mem_of_getElem? (i := 21) rfl))) (Or.inr (hw _ (List.mem_of_getElem? (i := 19) rfl))) (by decide) (t := .long) (t' := .int) (by decide) (by decide))))
  have f27 : Fld Z h23 a0 "com/example/firstlight/firstlight/SegmentFile$Header" "base" "J" (.long (0 : Int64)) := (f18.other W23 (Or.inr (slot_ne (Or.inr (hw _ (List.mem_of_getElem? (i := 23) rfl))) (Or.inr (hw _ (List.mem_of_getElem? (i := 19) rfl))) (by decide) (t := .long) (t' := .int) (by decide) (by decide))))
  have f28 : Fld Z h23 a0 "com/example/firstlight/firstlight/SegmentFile$Header" "documents" "I" (.int (0 : Int32)) := (f19.other W23 (Or.inr (slot_ne (Or.inr (hw _ (List.mem_of_getElem? (i := 25) rfl))) (Or.inr (hw _ (List.mem_of_getElem? (i := 19) rfl))) (by decide) (t := .int) (t' := .int) (by decide) (by decide))))
  have f29 : Fld Z h23 a0 "com/example/firstlight/firstlight/SegmentFile$Header" "length" "J" (.long (0 : Int64)) := (f20.other W23 (Or.inr (slot_ne (Or.inr (hw _ (List.mem_of_getElem? (i := 27) rfl))) (Or.inr (hw _ (List.mem_of_getElem? (i := 19) rfl))) (by decide) (t := .long) (t' := .int) (by decide) (by decide))))
  have f30 : Fld Z h23 a0 "com/example/firstlight/firstlight/SegmentFile$Header" "capacity" "I" (.int c1) := (f21.other W23 (Or.inr (slot_ne (Or.inr (hw _ (List.mem_of_getElem? (i := 15) rfl))) (Or.inr (hw _ (List.mem_of_getElem? (i := 19) rfl))) (by decide) (t := .int) (t' := .int) (by decide) (by decide))))
  have f31 : Fld Z h23 a0 "com/example/firstlight/firstlight/SegmentFile$Header" "maxSegments" "I" (.int c2) := (f14.other W23 (Or.inr (slot_ne (Or.inr (hw _ (List.mem_of_getElem? (i := 17) rfl))) (Or.inr (hw _ (List.mem_of_getElem? (i := 19) rfl))) (by decide) (t := .int) (t' := .int) (by decide) (by decide))))
  have N23 := Fr.snoc X23 N13 g_a0
  have kk32 : Keep h0 h23 [a0] := kk22.wr W23 (Or.inl (List.mem_of_getElem? (i := 0) rfl))
  refine own_of (S' := T23.setTop (mkF m 19 #[.val (.ref a0), .val (.int c1), .val (.int c2), .val (.int c3), .val (.long c4), .second, .val (.long c5), .second, .val (.int c6), .val (.long c7), .second] [])) st23 ?_
  refine own_of (S' := T23.setTop (mkF m 20 #[.val (.ref a0), .val (.int c1), .val (.int c2), .val (.int c3), .val (.long c4), .second, .val (.long c5), .second, .val (.int c6), .val (.long c7), .second] [(.ref a0)])) (fun t k => XS.aloadN X23.here hx rfl (hb hby own_d2_19) rfl rfl k) ?_
  refine own_of (S' := T23.setTop (mkF m 22 #[.val (.ref a0), .val (.int c1), .val (.int c2), .val (.int c3), .val (.long c4), .second, .val (.long c5), .second, .val (.int c6), .val (.long c7), .second] [(.long c4), (.ref a0)])) (fun t k => XS.lload X23.here hx rfl (hb hby own_d2_20) rfl k) ?_
  obtain ⟨T33, h33, X33, e33, W33, st33⟩ := putF X23 hx hZ hown (host := "") (Or.inl (hw _ (List.mem_of_getElem? (i := 20) rfl))) Via.refl e23 f26 f25 (Or.inr ⟨(hw _ (List.mem_of_getElem? (i := 21) rfl)), rfl, hnm⟩) (hw _ (List.mem_of_getElem? (i := 1) rfl)) (ty := .long) (by decide) rfl rfl (g := (mkF m 22 #[.val (.ref a0), .val (.int c1), .val (.int c2), .val (.int c3), .val (.long c4), .second, .val (.long c5), .second, .val (.int c6), .val (.long c7), .second] [(.long c4), (.ref a0)])) rfl rfl (hb hby own_d2_22)
  have f34 : Fld Z h33 a0 "com/example/firstlight/firstlight/SegmentFile$Header" "number" "J" (.long c4) := f26.same W33
  have f35 : Exa Z h33 a0 "com/example/firstlight/firstlight/SegmentFile$Header" := (f25.wr W33)
  have f36 : Fld Z h33 a0 "com/example/firstlight/firstlight/SegmentFile$Header" "base" "J" (.long (0 : Int64)) := (f27.other W33 (Or.inr (slot_ne (Or.inr (hw _ (List.mem_of_getElem? (i := 23) rfl))) (Or.inr (hw _ (List.mem_of_getElem? (i := 21) rfl))) (by decide) (t := .long) (t' := .long) (by decide) (by decide))))
  have f37 : Fld Z h33 a0 "com/example/firstlight/firstlight/SegmentFile$Header" "documents" "I" (.int (0 : Int32)) := (f28.other W33 (Or.inr (slot_ne (Or.inr (hw _ (List.mem_of_getElem? (i := 25) rfl))) (Or.inr (hw _ (List.mem_of_getElem? (i := 21) rfl))) (by decide) (t := .int) (t' := .long) (by decide) (by decide))))
  have f38 : Fld Z h33 a0 "com/example/firstlight/firstlight/SegmentFile$Header" "length" "J" (.long (0 : Int64)) := (f29.other W33 (Or.inr (slot_ne (Or.inr (hw _ (List.mem_of_getElem? (i := 27) rfl))) (Or.inr (hw _ (List.mem_of_getElem? (i := 21) rfl))) (by decide) (t := .long) (t' := .long) (by decide) (by decide))))
  have f39 : Fld Z h33 a0 "com/example/firstlight/firstlight/SegmentFile$Header" "capacity" "I" (.int c1) := (f30.other W33 (Or.inr (slot_ne (Or.inr (hw _ (List.mem_of_getElem? (i := 15) rfl))) (Or.inr (hw _ (List.mem_of_getElem? (i := 21) rfl))) (by decide) (t := .int) (t' := .long) (by decide) (by decide))))
  have f40 : Fld Z h33 a0 "com/example/firstlight/firstlight/SegmentFile$Header" "maxSegments" "I" (.int c2) := (f31.other W33 (Or.inr (slot_ne (Or.inr (hw _ (List.mem_of_getElem? (i := 17) rfl))) (Or.inr (hw _ (List.mem_of_getElem? (i := 21) rfl))) (by decide) (t := .int) (t' := .long) (by decide) (by decide))))
  have f41 : Fld Z h33 a0 "com/example/firstlight/firstlight/SegmentFile$Header" "rule" "I" (.int c3) := (f24.other W33 (Or.inr (slot_ne (Or.inr (hw _ (List.mem_of_getElem? (i := 19) rfl))) (Or.inr (hw _ (List.mem_of_getElem? (i := 21) rfl))) (by decide) (t := .int) (t' := .long) (by decide) (by decide))))
  have N33 := Fr.snoc X33 N23 g_a0
  have kk42 : Keep h0 h33 [a0] := kk32.wr W33 (Or.inl (List.mem_of_getElem? (i := 0) rfl))
  refine own_of (S' := T33.setTop (mkF m 25 #[.val (.ref a0), .val (.int c1), .val (.int c2), .val (.int c3), .val (.long c4), .second, .val (.long c5), .second, .val (.int c6), .val (.long c7), .second] [])) st33 ?_
  refine own_of (S' := T33.setTop (mkF m 26 #[.val (.ref a0), .val (.int c1), .val (.int c2), .val (.int c3), .val (.long c4), .second, .val (.long c5), .second, .val (.int c6), .val (.long c7), .second] [(.ref a0)])) (fun t k => XS.aloadN X33.here hx rfl (hb hby own_d2_25) rfl rfl k) ?_
  refine own_of (S' := T33.setTop (mkF m 28 #[.val (.ref a0), .val (.int c1), .val (.int c2), .val (.int c3), .val (.long c4), .second, .val (.long c5), .second, .val (.int c6), .val (.long c7), .second] [(.long c5), (.ref a0)])) (fun t k => XS.lload X33.here hx rfl (hb hby own_d2_26) rfl k) ?_
  obtain ⟨T43, h43, X43, e43, W43, st43⟩ := putF X33 hx hZ hown (host := "") (Or.inl (hw _ (List.mem_of_getElem? (i := 22) rfl))) Via.refl e33 f36 f35 (Or.inr ⟨(hw _ (List.mem_of_getElem? (i := 23) rfl)), rfl, hnm⟩) (hw _ (List.mem_of_getElem? (i := 1) rfl)) (ty := .long) (by decide) rfl rfl (g := (mkF m 28 #[.val (.ref a0), .val (.int c1), .val (.int c2), .val (.int c3), .val (.long c4), .second, .val (.long c5), .second, .val (.int c6), .val (.long c7), .second] [(.long c5), (.ref a0)])) rfl rfl (hb hby own_d2_28)
  have f44 : Fld Z h43 a0 "com/example/firstlight/firstlight/SegmentFile$Header" "base" "J" (.long c5) := f36.same W43
  have f45 : Exa Z h43 a0 "com/example/firstlight/firstlight/SegmentFile$Header" := (f35.wr W43)
  have f46 : Fld Z h43 a0 "com/example/firstlight/firstlight/SegmentFile$Header" "documents" "I" (.int (0 : Int32)) := (f37.other W43 (Or.inr (slot_ne (Or.inr (hw _ (List.mem_of_getElem? (i := 25) rfl))) (Or.inr (hw _ (List.mem_of_getElem? (i := 23) rfl))) (by decide) (t := .int) (t' := .long) (by decide) (by decide))))
  have f47 : Fld Z h43 a0 "com/example/firstlight/firstlight/SegmentFile$Header" "length" "J" (.long (0 : Int64)) := (f38.other W43 (Or.inr (slot_ne (Or.inr (hw _ (List.mem_of_getElem? (i := 27) rfl))) (Or.inr (hw _ (List.mem_of_getElem? (i := 23) rfl))) (by decide) (t := .long) (t' := .long) (by decide) (by decide))))
  have f48 : Fld Z h43 a0 "com/example/firstlight/firstlight/SegmentFile$Header" "capacity" "I" (.int c1) := (f39.other W43 (Or.inr (slot_ne (Or.inr (hw _ (List.mem_of_getElem? (i := 15) rfl))) (Or.inr (hw _ (List.mem_of_getElem? (i := 23) rfl))) (by decide) (t := .int) (t' := .long) (by decide) (by decide))))
  have f49 : Fld Z h43 a0 "com/example/firstlight/firstlight/SegmentFile$Header" "maxSegments" "I" (.int c2) := (f40.other W43 (Or.inr (slot_ne (Or.inr (hw _ (List.mem_of_getElem? (i := 17) rfl))) (Or.inr (hw _ (List.mem_of_getElem? (i := 23) rfl))) (by decide) (t := .int) (t' := .long) (by decide) (by decide))))
  have f50 : Fld Z h43 a0 "com/example/firstlight/firstlight/SegmentFile$Header" "rule" "I" (.int c3) := (f41.other W43 (Or.inr (slot_ne (Or.inr (hw _ (List.mem_of_getElem? (i := 19) rfl))) (Or.inr (hw _ (List.mem_of_getElem? (i := 23) rfl))) (by decide) (t := .int) (t' := .long) (by decide) (by decide))))
  have f51 : Fld Z h43 a0 "com/example/firstlight/firstlight/SegmentFile$Header" "number" "J" (.long c4) := (f34.other W43 (Or.inr (slot_ne (Or.inr (hw _ (List.mem_of_getElem? (i := 21) rfl))) (Or.inr (hw _ (List.mem_of_getElem? (i := 23) rfl))) (by decide) (t := .long) (t' := .long) (by decide) (by decide))))
  have N43 := Fr.snoc X43 N33 g_a0
  have kk52 : Keep h0 h43 [a0] := kk42.wr W43 (Or.inl (List.mem_of_getElem? (i := 0) rfl))
  refine own_of (S' := T43.setTop (mkF m 31 #[.val (.ref a0), .val (.int c1), .val (.int c2), .val (.int c3), .val (.long c4), .second, .val (.long c5), .second, .val (.int c6), .val (.long c7), .second] [])) st43 ?_
  refine own_of (S' := T43.setTop (mkF m 32 #[.val (.ref a0), .val (.int c1), .val (.int c2), .val (.int c3), .val (.long c4), .second, .val (.long c5), .second, .val (.int c6), .val (.long c7), .second] [(.ref a0)])) (fun t k => XS.aloadN X43.here hx rfl (hb hby own_d2_31) rfl rfl k) ?_
  refine own_of (S' := T43.setTop (mkF m 34 #[.val (.ref a0), .val (.int c1), .val (.int c2), .val (.int c3), .val (.long c4), .second, .val (.long c5), .second, .val (.int c6), .val (.long c7), .second] [(.int c6), (.ref a0)])) (fun t k => XS.iload X43.here hx rfl (hb hby own_d2_32) rfl k) ?_
  obtain ⟨T53, h53, X53, e53, W53, st53⟩ := putF X43 hx hZ hown (host := "") (Or.inl (hw _ (List.mem_of_getElem? (i := 24) rfl))) Via.refl e43 f46 f45 (Or.inr ⟨(hw _ (List.mem_of_getElem? (i := 25) rfl)), rfl, hnm⟩) (hw _ (List.mem_of_getElem? (i := 1) rfl)) (ty := .int) (by decide) rfl rfl (g := (mkF m 34 #[.val (.ref a0), .val (.int c1), .val (.int c2), .val (.int c3), .val (.long c4), .second, .val (.long c5), .second, .val (.int c6), .val (.long c7), .second] [(.int c6), (.ref a0)])) rfl rfl (hb hby own_d2_34)
  have f54 : Fld Z h53 a0 "com/example/firstlight/firstlight/SegmentFile$Header" "documents" "I" (.int c6) := f46.same W53
  have f55 : Exa Z h53 a0 "com/example/firstlight/firstlight/SegmentFile$Header" := (f45.wr W53)
  have f56 : Fld Z h53 a0 "com/example/firstlight/firstlight/SegmentFile$Header" "length" "J" (.long (0 : Int64)) := (f47.other W53 (Or.inr (slot_ne (Or.inr (hw _ (List.mem_of_getElem? (i := 27) rfl))) (Or.inr (hw _ (List.mem_of_getElem? (i := 25) rfl))) (by decide) (t := .long) (t' := .int) (by decide) (by decide))))
  have f57 : Fld Z h53 a0 "com/example/firstlight/firstlight/SegmentFile$Header" "capacity" "I" (.int c1) := (f48.other W53 (Or.inr (slot_ne (Or.inr (hw _ (List.mem_of_getElem? (i := 15) rfl))) (Or.inr (hw _ (List.mem_of_getElem? (i := 25) rfl))) (by decide) (t := .int) (t' := .int) (by decide) (by decide))))
  have f58 : Fld Z h53 a0 "com/example/firstlight/firstlight/SegmentFile$Header" "maxSegments" "I" (.int c2) := (f49.other W53 (Or.inr (slot_ne (Or.inr (hw _ (List.mem_of_getElem? (i := 17) rfl))) (Or.inr (hw _ (List.mem_of_getElem? (i := 25) rfl))) (by decide) (t := .int) (t' := .int) (by decide) (by decide))))
  have f59 : Fld Z h53 a0 "com/example/firstlight/firstlight/SegmentFile$Header" "rule" "I" (.int c3) := (f50.other W53 (Or.inr (slot_ne (Or.inr (hw _ (List.mem_of_getElem? (i := 19) rfl))) (Or.inr (hw _ (List.mem_of_getElem? (i := 25) rfl))) (by decide) (t := .int) (t' := .int) (by decide) (by decide))))
  have f60 : Fld Z h53 a0 "com/example/firstlight/firstlight/SegmentFile$Header" "number" "J" (.long c4) := (f51.other W53 (Or.inr (slot_ne (Or.inr (hw _ (List.mem_of_getElem? (i := 21) rfl))) (Or.inr (hw _ (List.mem_of_getElem? (i := 25) rfl))) (by decide) (t := .long) (t' := .int) (by decide) (by decide))))
  have f61 : Fld Z h53 a0 "com/example/firstlight/firstlight/SegmentFile$Header" "base" "J" (.long c5) := (f44.other W53 (Or.inr (slot_ne (Or.inr (hw _ (List.mem_of_getElem? (i := 23) rfl))) (Or.inr (hw _ (List.mem_of_getElem? (i := 25) rfl))) (by decide) (t := .long) (t' := .int) (by decide) (by decide))))
  have N53 := Fr.snoc X53 N43 g_a0
  have kk62 : Keep h0 h53 [a0] := kk52.wr W53 (Or.inl (List.mem_of_getElem? (i := 0) rfl))
  refine own_of (S' := T53.setTop (mkF m 37 #[.val (.ref a0), .val (.int c1), .val (.int c2), .val (.int c3), .val (.long c4), .second, .val (.long c5), .second, .val (.int c6), .val (.long c7), .second] [])) st53 ?_
  refine own_of (S' := T53.setTop (mkF m 38 #[.val (.ref a0), .val (.int c1), .val (.int c2), .val (.int c3), .val (.long c4), .second, .val (.long c5), .second, .val (.int c6), .val (.long c7), .second] [(.ref a0)])) (fun t k => XS.aloadN X53.here hx rfl (hb hby own_d2_37) rfl rfl k) ?_
  refine own_of (S' := T53.setTop (mkF m 40 #[.val (.ref a0), .val (.int c1), .val (.int c2), .val (.int c3), .val (.long c4), .second, .val (.long c5), .second, .val (.int c6), .val (.long c7), .second] [(.long c7), (.ref a0)])) (fun t k => XS.lload X53.here hx rfl (hb hby own_d2_38) rfl k) ?_
  obtain ⟨T63, h63, X63, e63, W63, st63⟩ := putF X53 hx hZ hown (host := "") (Or.inl (hw _ (List.mem_of_getElem? (i := 26) rfl))) Via.refl e53 f56 f55 (Or.inr ⟨(hw _ (List.mem_of_getElem? (i := 27) rfl)), rfl, hnm⟩) (hw _ (List.mem_of_getElem? (i := 1) rfl)) (ty := .long) (by decide) rfl rfl (g := (mkF m 40 #[.val (.ref a0), .val (.int c1), .val (.int c2), .val (.int c3), .val (.long c4), .second, .val (.long c5), .second, .val (.int c6), .val (.long c7), .second] [(.long c7), (.ref a0)])) rfl rfl (hb hby own_d2_40)
  have f64 : Fld Z h63 a0 "com/example/firstlight/firstlight/SegmentFile$Header" "length" "J" (.long c7) := f56.same W63
  have f65 : Exa Z h63 a0 "com/example/firstlight/firstlight/SegmentFile$Header" := (f55.wr W63)
  have f66 : Fld Z h63 a0 "com/example/firstlight/firstlight/SegmentFile$Header" "capacity" "I" (.int c1) := (f57.other W63 (Or.inr (slot_ne (Or.inr (hw _ (List.mem_of_getElem? (i := 15) rfl))) (Or.inr (hw _ (List.mem_of_getElem? (i := 27) rfl))) (by decide) (t := .int) (t' := .long) (by decide) (by decide))))
  have f67 : Fld Z h63 a0 "com/example/firstlight/firstlight/SegmentFile$Header" "maxSegments" "I" (.int c2) := (f58.other W63 (Or.inr (slot_ne (Or.inr (hw _ (List.mem_of_getElem? (i := 17) rfl))) (Or.inr (hw _ (List.mem_of_getElem? (i := 27) rfl))) (by decide) (t := .int) (t' := .long) (by decide) (by decide))))
  have f68 : Fld Z h63 a0 "com/example/firstlight/firstlight/SegmentFile$Header" "rule" "I" (.int c3) := (f59.other W63 (Or.inr (slot_ne (Or.inr (hw _ (List.mem_of_getElem? (i := 19) rfl))) (Or.inr (hw _ (List.mem_of_getElem? (i := 27) rfl))) (by decide) (t := .int) (t' := .long) (by decide) (by decide))))
  have f69 : Fld Z h63 a0 "com/example/firstlight/firstlight/SegmentFile$Header" "number" "J" (.long c4) := (f60.other W63 (Or.inr (slot_ne (Or.inr (hw _ (List.mem_of_getElem? (i := 21) rfl))) (Or.inr (hw _ (List.mem_of_getElem? (i := 27) rfl))) (by decide) (t := .long) (t' := .long) (by decide) (by decide))))
  have f70 : Fld Z h63 a0 "com/example/firstlight/firstlight/SegmentFile$Header" "base" "J" (.long c5) := (f61.other W63 (Or.inr (slot_ne (Or.inr (hw _ (List.mem_of_getElem? (i := 23) rfl))) (Or.inr (hw _ (List.mem_of_getElem? (i := 27) rfl))) (by decide) (t := .long) (t' := .long) (by decide) (by decide))))
  have f71 : Fld Z h63 a0 "com/example/firstlight/firstlight/SegmentFile$Header" "documents" "I" (.int c6) := (f54.other W63 (Or.inr (slot_ne (Or.inr (hw _ (List.mem_of_getElem? (i := 25) rfl))) (Or.inr (hw _ (List.mem_of_getElem? (i := 27) rfl))) (by decide) (t := .int) (t' := .long) (by decide) (by decide))))
  have N63 := Fr.snoc X63 N53 g_a0
  have kk72 : Keep h0 h63 [a0] := kk62.wr W63 (Or.inl (List.mem_of_getElem? (i := 0) rfl))
  refine own_of (S' := T63.setTop (mkF m 43 #[.val (.ref a0), .val (.int c1), .val (.int c2), .val (.int c3), .val (.long c4), .second, .val (.long c5), .second, .val (.int c6), .val (.long c7), .second] [])) st63 ?_
  obtain ⟨fs, hr, hrun, hended, hW, hsame⟩ := X63.leave (v := none) (fun _ => rfl)
  refine ⟨_, _, X63.returnOut hx Bd.returns (hb hby own_d2_43) hr, hrun, hended, hG _ _ ⟨_, _, rfl, ?_, ⟨_, rfl⟩, hW, hsame.mono (by decide) (by decide)⟩⟩
  show own_Q2 Z a0 c1 c2 c3 c4 c5 c6 c7 h0 n0 _ T63.heap _
  rw [e63]
  exact ⟨rfl, N63, kk72, f65, f66, f67, f68, f69, f70, f71, f64⟩
theorem own_d3_0 : decode prog_51_method_2_code 0 = .ok (.aload_n 0, 1) := by decide +kernel
theorem own_d3_1 : decode prog_51_method_2_code 1 = .ok (.getfield 7, 3) := by decide +kernel
theorem own_d3_4 : decode prog_51_method_2_code 4 = .ok (.aload_n 1, 1) := by decide +kernel
theorem own_d3_5 : decode prog_51_method_2_code 5 = .ok (.getfield 7, 3) := by decide +kernel
theorem own_d3_8 : decode prog_51_method_2_code 8 = .ok (.if_icmp .ne 64, 3) := by decide +kernel
theorem own_d3_11 : decode prog_51_method_2_code 11 = .ok (.aload_n 0, 1) := by decide +kernel
theorem own_d3_12 : decode prog_51_method_2_code 12 = .ok (.getfield 13, 3) := by decide +kernel
theorem own_d3_15 : decode prog_51_method_2_code 15 = .ok (.aload_n 1, 1) := by decide +kernel
theorem own_d3_16 : decode prog_51_method_2_code 16 = .ok (.getfield 13, 3) := by decide +kernel
theorem own_d3_19 : decode prog_51_method_2_code 19 = .ok (.if_icmp .ne 53, 3) := by decide +kernel
theorem own_d3_22 : decode prog_51_method_2_code 22 = .ok (.aload_n 0, 1) := by decide +kernel
theorem own_d3_23 : decode prog_51_method_2_code 23 = .ok (.getfield 16, 3) := by decide +kernel
theorem own_d3_26 : decode prog_51_method_2_code 26 = .ok (.aload_n 1, 1) := by decide +kernel
theorem own_d3_27 : decode prog_51_method_2_code 27 = .ok (.getfield 16, 3) := by decide +kernel
theorem own_d3_30 : decode prog_51_method_2_code 30 = .ok (.if_icmp .ne 42, 3) := by decide +kernel
theorem own_d3_33 : decode prog_51_method_2_code 33 = .ok (.aload_n 0, 1) := by decide +kernel
theorem own_d3_34 : decode prog_51_method_2_code 34 = .ok (.getfield 19, 3) := by decide +kernel
theorem own_d3_37 : decode prog_51_method_2_code 37 = .ok (.aload_n 1, 1) := by decide +kernel
theorem own_d3_38 : decode prog_51_method_2_code 38 = .ok (.getfield 19, 3) := by decide +kernel
theorem own_d3_41 : decode prog_51_method_2_code 41 = .ok (.lcmp, 1) := by decide +kernel
theorem own_d3_42 : decode prog_51_method_2_code 42 = .ok (.ifCond .ne 30, 3) := by decide +kernel
theorem own_d3_45 : decode prog_51_method_2_code 45 = .ok (.aload_n 0, 1) := by decide +kernel
theorem own_d3_46 : decode prog_51_method_2_code 46 = .ok (.getfield 23, 3) := by decide +kernel
theorem own_d3_49 : decode prog_51_method_2_code 49 = .ok (.aload_n 1, 1) := by decide +kernel
theorem own_d3_50 : decode prog_51_method_2_code 50 = .ok (.getfield 23, 3) := by decide +kernel
theorem own_d3_53 : decode prog_51_method_2_code 53 = .ok (.lcmp, 1) := by decide +kernel
theorem own_d3_54 : decode prog_51_method_2_code 54 = .ok (.ifCond .ne 18, 3) := by decide +kernel
theorem own_d3_57 : decode prog_51_method_2_code 57 = .ok (.aload_n 0, 1) := by decide +kernel
theorem own_d3_58 : decode prog_51_method_2_code 58 = .ok (.getfield 26, 3) := by decide +kernel
theorem own_d3_61 : decode prog_51_method_2_code 61 = .ok (.aload_n 1, 1) := by decide +kernel
theorem own_d3_62 : decode prog_51_method_2_code 62 = .ok (.getfield 26, 3) := by decide +kernel
theorem own_d3_65 : decode prog_51_method_2_code 65 = .ok (.if_icmp .ne 7, 3) := by decide +kernel
theorem own_d3_68 : decode prog_51_method_2_code 68 = .ok (.iconst 1, 1) := by decide +kernel
theorem own_d3_69 : decode prog_51_method_2_code 69 = .ok (.goto 4, 3) := by decide +kernel
theorem own_d3_72 : decode prog_51_method_2_code 72 = .ok (.iconst 0, 1) := by decide +kernel
theorem own_d3_73 : decode prog_51_method_2_code 73 = .ok (.ireturn, 1) := by decide +kernel
abbrev own_room3 : Room := { frames := 0, cells := 0, slots := 0, locals := 0 }
theorem own_pn3 : plainName "com/example/firstlight/firstlight/SegmentFile$Header" = true := by first | (simp [plainName, overriddenIn]; done) | decide +kernel
theorem own_ef3 (m : MethodId) (a0 : Addr) (a1 : Addr) : entryFrame m #[(.ref a0), (.ref a1)] 2 = mkF m 0 #[.val (.ref a0), .val (.ref a1)] [] := by first | (simp [entryFrame, mkF, argsToLocals, Value.category]; done) | rfl
def own_Q3 (Z : State) (a0 : Addr) (a1 : Addr) (u1 : Int32) (u2 : Int32) (u3 : Int32) (u4 : Int64) (u5 : Int64) (u6 : Int32) (w1 : Int32) (w2 : Int32) (w3 : Int32) (w4 : Int64) (w5 : Int64) (w6 : Int32) (h0 : Heap) (n0 : Nat) (v : Option Value) (h : Heap) (L : List Loc) : Prop := v = some (.int (own_desc u1 u2 u3 u4 u5 u6 w1 w2 w3 w4 w5 w6)) ∧ Fr n0 L ∧ h = h0
set_option maxRecDepth 65536 in
set_option maxHeartbeats 40000000 in
theorem own_rm3 (l : Launch) (Z : State) (a0 : Array Value) (hw : ∀ d ∈ tables_1, d.before a0 Z = true) (ws : List Jvm.Cond) (a0 : Addr) (a1 : Addr) (u1 : Int32) (u2 : Int32) (u3 : Int32) (u4 : Int64) (u5 : Int64) (u6 : Int32) (w1 : Int32) (w2 : Int32) (w3 : Int32) (w4 : Int64) (w5 : Int64) (w6 : Int32) (h0 : Heap) (n0 : Nat) (F0 : Fld Z h0 a0 "com/example/firstlight/firstlight/SegmentFile$Header" "capacity" "I" (.int u1)) (F1 : Fld Z h0 a0 "com/example/firstlight/firstlight/SegmentFile$Header" "maxSegments" "I" (.int u2)) (F2 : Fld Z h0 a0 "com/example/firstlight/firstlight/SegmentFile$Header" "rule" "I" (.int u3)) (F3 : Fld Z h0 a0 "com/example/firstlight/firstlight/SegmentFile$Header" "number" "J" (.long u4)) (F4 : Fld Z h0 a0 "com/example/firstlight/firstlight/SegmentFile$Header" "base" "J" (.long u5)) (F5 : Fld Z h0 a0 "com/example/firstlight/firstlight/SegmentFile$Header" "documents" "I" (.int u6)) (F6 : Fld Z h0 a1 "com/example/firstlight/firstlight/SegmentFile$Header" "capacity" "I" (.int w1)) (F7 : Fld Z h0 a1 "com/example/firstlight/firstlight/SegmentFile$Header" "maxSegments" "I" (.int w2)) (F8 : Fld Z h0 a1 "com/example/firstlight/firstlight/SegmentFile$Header" "rule" "I" (.int w3)) (F9 : Fld Z h0 a1 "com/example/firstlight/firstlight/SegmentFile$Header" "number" "J" (.long w4)) (F10 : Fld Z h0 a1 "com/example/firstlight/firstlight/SegmentFile$Header" "base" "J" (.long w5)) (F11 : Fld Z h0 a1 "com/example/firstlight/firstlight/SegmentFile$Header" "documents" "I" (.int w6)) :
    MetFree l (⟨"com/example/firstlight/firstlight/SegmentFile$Header", "describesTheSegmentOf", "(Lcom/example/firstlight/firstlight/SegmentFile$Header;)Z"⟩ : MethodName) (head1 (Jvm.Cond.code (⟨"com/example/firstlight/firstlight/SegmentFile$Header", "describesTheSegmentOf", "(Lcom/example/firstlight/firstlight/SegmentFile$Header;)Z"⟩ : MethodName) prog_51_method_2_code 2 (some .boolean) :: ws) (own_room3 : Room)) (fun a U => a = #[(.ref a0), (.ref a1)] ∧ Z.Warmed39 U.vm ∧ U.heap = h0) (fun _ _ _ _ _ => True) (fun _ U o U' => ∃ v L, o = .returned v ∧ own_Q3 Z a0 a1 u1 u2 u3 u4 u5 u6 w1 w2 w3 w4 w5 w6 h0 n0 v U'.heap L ∧ FrameEnd U o U' L (own_room3 : Room).cells (own_room3 : Room).slots) := by
  refine MetFree.of_bodySF (plainFor_of_name own_pn3) hisR ?_
  intro p e s m args below meth c s₁ Bd hml0 hP hK
  obtain ⟨rfl, hZ, hh⟩ := hP
  have hx := Bd.exec
  have hby := Bd.bytes
  have hml : c.maxLocals = 2 := hml0
  have hown : s.vm.findClass "com/example/firstlight/firstlight/SegmentFile$Header" = some m.cls := findClass_of_methodNamed Bd.named
  have hnm := (name_of_methodNamed Bd.named Bd.method).1
  have X0 : Stand p l e (own_room3 : Room) s m #[(.ref a0), (.ref a1)] below meth c s₁ [] 0 0 := Stand.of_body Bd
  have e0 : s₁.heap = h0 := by rw [← hh, Bd.state]; rfl
  have N0 := Fr.nil n0
  refine own_out fun G hG => ?_
  rw [own_ef3 m a0 a1]
  show own_Go p.tables e below G (s₁.setTop (mkF m 0 #[.val (.ref a0), .val (.ref a1)] []))
  refine own_of (S' := s₁.setTop (mkF m 1 #[.val (.ref a0), .val (.ref a1)] [(.ref a0)])) (fun t k => XS.aloadN X0.here hx rfl (hb hby own_d3_0) rfl rfl k) ?_
  obtain ⟨T73, X73, e73, st73⟩ := getF X0 hx hZ hown (host := "") (Or.inl (hw _ (List.mem_of_getElem? (i := 14) rfl))) Via.refl e0 F0 (g := (mkF m 1 #[.val (.ref a0), .val (.ref a1)] [(.ref a0)])) rfl rfl (hb hby own_d3_1)
  refine own_of (S' := T73.setTop (mkF m 4 #[.val (.ref a0), .val (.ref a1)] [(.int u1)])) st73 ?_
  refine own_of (S' := T73.setTop (mkF m 5 #[.val (.ref a0), .val (.ref a1)] [(.ref a1), (.int u1)])) (fun t k => XS.aloadN X73.here hx rfl (hb hby own_d3_4) rfl rfl k) ?_
  obtain ⟨T74, X74, e74, st74⟩ := getF X73 hx hZ hown (host := "") (Or.inl (hw _ (List.mem_of_getElem? (i := 14) rfl))) Via.refl e73 F6 (g := (mkF m 5 #[.val (.ref a0), .val (.ref a1)] [(.ref a1), (.int u1)])) rfl rfl (hb hby own_d3_5)
  refine own_of (S' := T74.setTop (mkF m 8 #[.val (.ref a0), .val (.ref a1)] [(.int w1), (.int u1)])) st74 ?_
  by_cases hc8 : u1 = w1
  · refine own_of (S' := T74.setTop (mkF m 11 #[.val (.ref a0), .val (.ref a1)] [])) (fun t k => XS.icmpNo X74.here hx rfl (hb hby own_d3_8) rfl (teq hc8).2 k) ?_
    refine own_of (S' := T74.setTop (mkF m 12 #[.val (.ref a0), .val (.ref a1)] [(.ref a0)])) (fun t k => XS.aloadN X74.here hx rfl (hb hby own_d3_11) rfl rfl k) ?_
    obtain ⟨T76, X76, e76, st76⟩ := getF X74 hx hZ hown (host := "") (Or.inl (hw _ (List.mem_of_getElem? (i := 16) rfl))) Via.refl e74 F1 (g := (mkF m 12 #[.val (.ref a0), .val (.ref a1)] [(.ref a0)])) rfl rfl (hb hby own_d3_12)
    refine own_of (S' := T76.setTop (mkF m 15 #[.val (.ref a0), .val (.ref a1)] [(.int u2)])) st76 ?_
    refine own_of (S' := T76.setTop (mkF m 16 #[.val (.ref a0), .val (.ref a1)] [(.ref a1), (.int u2)])) (fun t k => XS.aloadN X76.here hx rfl (hb hby own_d3_15) rfl rfl k) ?_
    obtain ⟨T77, X77, e77, st77⟩ := getF X76 hx hZ hown (host := "") (Or.inl (hw _ (List.mem_of_getElem? (i := 16) rfl))) Via.refl e76 F7 (g := (mkF m 16 #[.val (.ref a0), .val (.ref a1)] [(.ref a1), (.int u2)])) rfl rfl (hb hby own_d3_16)
    refine own_of (S' := T77.setTop (mkF m 19 #[.val (.ref a0), .val (.ref a1)] [(.int w2), (.int u2)])) st77 ?_
    by_cases hc19 : u2 = w2
    · refine own_of (S' := T77.setTop (mkF m 22 #[.val (.ref a0), .val (.ref a1)] [])) (fun t k => XS.icmpNo X77.here hx rfl (hb hby own_d3_19) rfl (teq hc19).2 k) ?_
      refine own_of (S' := T77.setTop (mkF m 23 #[.val (.ref a0), .val (.ref a1)] [(.ref a0)])) (fun t k => XS.aloadN X77.here hx rfl (hb hby own_d3_22) rfl rfl k) ?_
      obtain ⟨T79, X79, e79, st79⟩ := getF X77 hx hZ hown (host := "") (Or.inl (hw _ (List.mem_of_getElem? (i := 18) rfl))) Via.refl e77 F2 (g := (mkF m 23 #[.val (.ref a0), .val (.ref a1)] [(.ref a0)])) rfl rfl (hb hby own_d3_23)
      refine own_of (S' := T79.setTop (mkF m 26 #[.val (.ref a0), .val (.ref a1)] [(.int u3)])) st79 ?_
      refine own_of (S' := T79.setTop (mkF m 27 #[.val (.ref a0), .val (.ref a1)] [(.ref a1), (.int u3)])) (fun t k => XS.aloadN X79.here hx rfl (hb hby own_d3_26) rfl rfl k) ?_
      obtain ⟨T80, X80, e80, st80⟩ := getF X79 hx hZ hown (host := "") (Or.inl (hw _ (List.mem_of_getElem? (i := 18) rfl))) Via.refl e79 F8 (g := (mkF m 27 #[.val (.ref a0), .val (.ref a1)] [(.ref a1), (.int u3)])) rfl rfl (hb hby own_d3_27)
      refine own_of (S' := T80.setTop (mkF m 30 #[.val (.ref a0), .val (.ref a1)] [(.int w3), (.int u3)])) st80 ?_
      by_cases hc30 : u3 = w3
      · refine own_of (S' := T80.setTop (mkF m 33 #[.val (.ref a0), .val (.ref a1)] [])) (fun t k => XS.icmpNo X80.here hx rfl (hb hby own_d3_30) rfl (teq hc30).2 k) ?_
        refine own_of (S' := T80.setTop (mkF m 34 #[.val (.ref a0), .val (.ref a1)] [(.ref a0)])) (fun t k => XS.aloadN X80.here hx rfl (hb hby own_d3_33) rfl rfl k) ?_
        obtain ⟨T82, X82, e82, st82⟩ := getF X80 hx hZ hown (host := "") (Or.inl (hw _ (List.mem_of_getElem? (i := 20) rfl))) Via.refl e80 F3 (g := (mkF m 34 #[.val (.ref a0), .val (.ref a1)] [(.ref a0)])) rfl rfl (hb hby own_d3_34)
        refine own_of (S' := T82.setTop (mkF m 37 #[.val (.ref a0), .val (.ref a1)] [(.long u4)])) st82 ?_
        refine own_of (S' := T82.setTop (mkF m 38 #[.val (.ref a0), .val (.ref a1)] [(.ref a1), (.long u4)])) (fun t k => XS.aloadN X82.here hx rfl (hb hby own_d3_37) rfl rfl k) ?_
        obtain ⟨T83, X83, e83, st83⟩ := getF X82 hx hZ hown (host := "") (Or.inl (hw _ (List.mem_of_getElem? (i := 20) rfl))) Via.refl e82 F9 (g := (mkF m 38 #[.val (.ref a0), .val (.ref a1)] [(.ref a1), (.long u4)])) rfl rfl (hb hby own_d3_38)
        refine own_of (S' := T83.setTop (mkF m 41 #[.val (.ref a0), .val (.ref a1)] [(.long w4), (.long u4)])) st83 ?_
        refine own_of (S' := T83.setTop (mkF m 42 #[.val (.ref a0), .val (.ref a1)] [(.int (lcmpW u4 w4))])) (fun t k => XS.lcmp X83.here hx rfl (hb hby own_d3_41) rfl k) ?_
        by_cases hc42 : u4 = w4
        · refine own_of (S' := T83.setTop (mkF m 45 #[.val (.ref a0), .val (.ref a1)] [])) (fun t k => XS.ifNo X83.here hx rfl (hb hby own_d3_42) rfl ((if0 _ _).trans (teq ((lw_eq u4 w4).mpr hc42)).2) k) ?_
          refine own_of (S' := T83.setTop (mkF m 46 #[.val (.ref a0), .val (.ref a1)] [(.ref a0)])) (fun t k => XS.aloadN X83.here hx rfl (hb hby own_d3_45) rfl rfl k) ?_
          obtain ⟨T85, X85, e85, st85⟩ := getF X83 hx hZ hown (host := "") (Or.inl (hw _ (List.mem_of_getElem? (i := 22) rfl))) Via.refl e83 F4 (g := (mkF m 46 #[.val (.ref a0), .val (.ref a1)] [(.ref a0)])) rfl rfl (hb hby own_d3_46)
          refine own_of (S' := T85.setTop (mkF m 49 #[.val (.ref a0), .val (.ref a1)] [(.long u5)])) st85 ?_
          refine own_of (S' := T85.setTop (mkF m 50 #[.val (.ref a0), .val (.ref a1)] [(.ref a1), (.long u5)])) (fun t k => XS.aloadN X85.here hx rfl (hb hby own_d3_49) rfl rfl k) ?_
          obtain ⟨T86, X86, e86, st86⟩ := getF X85 hx hZ hown (host := "") (Or.inl (hw _ (List.mem_of_getElem? (i := 22) rfl))) Via.refl e85 F10 (g := (mkF m 50 #[.val (.ref a0), .val (.ref a1)] [(.ref a1), (.long u5)])) rfl rfl (hb hby own_d3_50)
          refine own_of (S' := T86.setTop (mkF m 53 #[.val (.ref a0), .val (.ref a1)] [(.long w5), (.long u5)])) st86 ?_
          refine own_of (S' := T86.setTop (mkF m 54 #[.val (.ref a0), .val (.ref a1)] [(.int (lcmpW u5 w5))])) (fun t k => XS.lcmp X86.here hx rfl (hb hby own_d3_53) rfl k) ?_
          by_cases hc54 : u5 = w5
          · refine own_of (S' := T86.setTop (mkF m 57 #[.val (.ref a0), .val (.ref a1)] [])) (fun t k => XS.ifNo X86.here hx rfl (hb hby own_d3_54) rfl ((if0 _ _).trans (teq ((lw_eq u5 w5).mpr hc54)).2) k) ?_
            refine own_of (S' := T86.setTop (mkF m 58 #[.val (.ref a0), .val (.ref a1)] [(.ref a0)])) (fun t k => XS.aloadN X86.here hx rfl (hb hby own_d3_57) rfl rfl k) ?_
            obtain ⟨T88, X88, e88, st88⟩ := getF X86 hx hZ hown (host := "") (Or.inl (hw _ (List.mem_of_getElem? (i := 24) rfl))) Via.refl e86 F5 (g := (mkF m 58 #[.val (.ref a0), .val (.ref a1)] [(.ref a0)])) rfl rfl (hb hby own_d3_58)
            refine own_of (S' := T88.setTop (mkF m 61 #[.val (.ref a0), .val (.ref a1)] [(.int u6)])) st88 ?_
            refine own_of (S' := T88.setTop (mkF m 62 #[.val (.ref a0), .val (.ref a1)] [(.ref a1), (.int u6)])) (fun t k => XS.aloadN X88.here hx rfl (hb hby own_d3_61) rfl rfl k) ?_
            obtain ⟨T89, X89, e89, st89⟩ := getF X88 hx hZ hown (host := "") (Or.inl (hw _ (List.mem_of_getElem? (i := 24) rfl))) Via.refl e88 F11 (g := (mkF m 62 #[.val (.ref a0), .val (.ref a1)] [(.ref a1), (.int u6)])) rfl rfl (hb hby own_d3_62)
            refine own_of (S' := T89.setTop (mkF m 65 #[.val (.ref a0), .val (.ref a1)] [(.int w6), (.int u6)])) st89 ?_
            by_cases hc65 : u6 = w6
            · refine own_of (S' := T89.setTop (mkF m 68 #[.val (.ref a0), .val (.ref a1)] [])) (fun t k => XS.icmpNo X89.here hx rfl (hb hby own_d3_65) rfl (teq hc65).2 k) ?_
              refine own_of (S' := T89.setTop (mkF m 69 #[.val (.ref a0), .val (.ref a1)] [(.int (1 : Int32))])) (fun t k => XS.iconst X89.here hx rfl (hb hby own_d3_68) k) ?_
              refine own_of (S' := T89.setTop (mkF m 73 #[.val (.ref a0), .val (.ref a1)] [(.int (1 : Int32))])) (fun t k => XS.goto X89.here hx rfl (pc0 := 69) (pc' := 73) rfl (hb hby own_d3_69) (by decide) (by decide) k) ?_
              obtain ⟨fs, hr, hrun, hended, hW, hsame⟩ := X89.leave (v := some (.int (nar .boolean (1 : Int32)))) (fun h => by rw [Bd.returns] at h; cases h)
              refine ⟨_, _, retN X89 hx (t := .boolean) Bd.returns (by simp) (hb hby own_d3_73) hr, hrun, hended, hG _ _ ⟨_, _, rfl, ?_, ⟨_, rfl⟩, hW, hsame.mono (by decide) (by decide)⟩⟩
              show own_Q3 Z a0 a1 u1 u2 u3 u4 u5 u6 w1 w2 w3 w4 w5 w6 h0 n0 _ T89.heap _
              rw [e89]
              have hl : nar .boolean (1 : Int32) = (own_desc u1 u2 u3 u4 u5 u6 w1 w2 w3 w4 w5 w6) := by simp [own_desc, nar, *]
              exact ⟨congrArg (fun w => some (Value.int w)) hl, N0, rfl⟩
            · refine own_of (S' := T89.setTop (mkF m 72 #[.val (.ref a0), .val (.ref a1)] [])) (fun t k => XS.icmpYes X89.here hx rfl (pc0 := 65) (pc' := 72) rfl (hb hby own_d3_65) rfl (feq hc65).2 (by decide) (by decide) k) ?_
              refine own_of (S' := T89.setTop (mkF m 73 #[.val (.ref a0), .val (.ref a1)] [(.int (0 : Int32))])) (fun t k => XS.iconst X89.here hx rfl (hb hby own_d3_72) k) ?_
              obtain ⟨fs, hr, hrun, hended, hW, hsame⟩ := X89.leave (v := some (.int (nar .boolean (0 : Int32)))) (fun h => by rw [Bd.returns] at h; cases h)
              refine ⟨_, _, retN X89 hx (t := .boolean) Bd.returns (by simp) (hb hby own_d3_73) hr, hrun, hended, hG _ _ ⟨_, _, rfl, ?_, ⟨_, rfl⟩, hW, hsame.mono (by decide) (by decide)⟩⟩
              show own_Q3 Z a0 a1 u1 u2 u3 u4 u5 u6 w1 w2 w3 w4 w5 w6 h0 n0 _ T89.heap _
              rw [e89]
              have hl : nar .boolean (0 : Int32) = (own_desc u1 u2 u3 u4 u5 u6 w1 w2 w3 w4 w5 w6) := by simp [own_desc, nar, *]
              exact ⟨congrArg (fun w => some (Value.int w)) hl, N0, rfl⟩
          · refine own_of (S' := T86.setTop (mkF m 72 #[.val (.ref a0), .val (.ref a1)] [])) (fun t k => XS.ifYes X86.here hx rfl (pc0 := 54) (pc' := 72) rfl (hb hby own_d3_54) rfl ((if0 _ _).trans (feq (fun q => hc54 ((lw_eq u5 w5).mp q))).2) (by decide) (by decide) k) ?_
            refine own_of (S' := T86.setTop (mkF m 73 #[.val (.ref a0), .val (.ref a1)] [(.int (0 : Int32))])) (fun t k => XS.iconst X86.here hx rfl (hb hby own_d3_72) k) ?_
            obtain ⟨fs, hr, hrun, hended, hW, hsame⟩ := X86.leave (v := some (.int (nar .boolean (0 : Int32)))) (fun h => by rw [Bd.returns] at h; cases h)
            refine ⟨_, _, retN X86 hx (t := .boolean) Bd.returns (by simp) (hb hby own_d3_73) hr, hrun, hended, hG _ _ ⟨_, _, rfl, ?_, ⟨_, rfl⟩, hW, hsame.mono (by decide) (by decide)⟩⟩
            show own_Q3 Z a0 a1 u1 u2 u3 u4 u5 u6 w1 w2 w3 w4 w5 w6 h0 n0 _ T86.heap _
            rw [e86]
            have hl : nar .boolean (0 : Int32) = (own_desc u1 u2 u3 u4 u5 u6 w1 w2 w3 w4 w5 w6) := by simp [own_desc, nar, *]
            exact ⟨congrArg (fun w => some (Value.int w)) hl, N0, rfl⟩
        · refine own_of (S' := T83.setTop (mkF m 72 #[.val (.ref a0), .val (.ref a1)] [])) (fun t k => XS.ifYes X83.here hx rfl (pc0 := 42) (pc' := 72) rfl (hb hby own_d3_42) rfl ((if0 _ _).trans (feq (fun q => hc42 ((lw_eq u4 w4).mp q))).2) (by decide) (by decide) k) ?_
          refine own_of (S' := T83.setTop (mkF m 73 #[.val (.ref a0), .val (.ref a1)] [(.int (0 : Int32))])) (fun t k => XS.iconst X83.here hx rfl (hb hby own_d3_72) k) ?_
          obtain ⟨fs, hr, hrun, hended, hW, hsame⟩ := X83.leave (v := some (.int (nar .boolean (0 : Int32)))) (fun h => by rw [Bd.returns] at h; cases h)
          refine ⟨_, _, retN X83 hx (t := .boolean) Bd.returns (by simp) (hb hby own_d3_73) hr, hrun, hended, hG _ _ ⟨_, _, rfl, ?_, ⟨_, rfl⟩, hW, hsame.mono (by decide) (by decide)⟩⟩
          show own_Q3 Z a0 a1 u1 u2 u3 u4 u5 u6 w1 w2 w3 w4 w5 w6 h0 n0 _ T83.heap _
          rw [e83]
          have hl : nar .boolean (0 : Int32) = (own_desc u1 u2 u3 u4 u5 u6 w1 w2 w3 w4 w5 w6) := by simp [own_desc, nar, *]
          exact ⟨congrArg (fun w => some (Value.int w)) hl, N0, rfl⟩
      · refine own_of (S' := T80.setTop (mkF m 72 #[.val (.ref a0), .val (.ref a1)] [])) (fun t k => XS.icmpYes X80.here hx rfl (pc0 := 30) (pc' := 72) rfl (hb hby own_d3_30) rfl (feq hc30).2 (by decide) (by decide) k) ?_
        refine own_of (S' := T80.setTop (mkF m 73 #[.val (.ref a0), .val (.ref a1)] [(.int (0 : Int32))])) (fun t k => XS.iconst X80.here hx rfl (hb hby own_d3_72) k) ?_
        obtain ⟨fs, hr, hrun, hended, hW, hsame⟩ := X80.leave (v := some (.int (nar .boolean (0 : Int32)))) (fun h => by rw [Bd.returns] at h; cases h)
        refine ⟨_, _, retN X80 hx (t := .boolean) Bd.returns (by simp) (hb hby own_d3_73) hr, hrun, hended, hG _ _ ⟨_, _, rfl, ?_, ⟨_, rfl⟩, hW, hsame.mono (by decide) (by decide)⟩⟩
        show own_Q3 Z a0 a1 u1 u2 u3 u4 u5 u6 w1 w2 w3 w4 w5 w6 h0 n0 _ T80.heap _
        rw [e80]
        have hl : nar .boolean (0 : Int32) = (own_desc u1 u2 u3 u4 u5 u6 w1 w2 w3 w4 w5 w6) := by simp [own_desc, nar, *]
        exact ⟨congrArg (fun w => some (Value.int w)) hl, N0, rfl⟩
    · refine own_of (S' := T77.setTop (mkF m 72 #[.val (.ref a0), .val (.ref a1)] [])) (fun t k => XS.icmpYes X77.here hx rfl (pc0 := 19) (pc' := 72) rfl (hb hby own_d3_19) rfl (feq hc19).2 (by decide) (by decide) k) ?_
      refine own_of (S' := T77.setTop (mkF m 73 #[.val (.ref a0), .val (.ref a1)] [(.int (0 : Int32))])) (fun t k => XS.iconst X77.here hx rfl (hb hby own_d3_72) k) ?_
      obtain ⟨fs, hr, hrun, hended, hW, hsame⟩ := X77.leave (v := some (.int (nar .boolean (0 : Int32)))) (fun h => by rw [Bd.returns] at h; cases h)
      refine ⟨_, _, retN X77 hx (t := .boolean) Bd.returns (by simp) (hb hby own_d3_73) hr, hrun, hended, hG _ _ ⟨_, _, rfl, ?_, ⟨_, rfl⟩, hW, hsame.mono (by decide) (by decide)⟩⟩
      show own_Q3 Z a0 a1 u1 u2 u3 u4 u5 u6 w1 w2 w3 w4 w5 w6 h0 n0 _ T77.heap _
      rw [e77]
      have hl : nar .boolean (0 : Int32) = (own_desc u1 u2 u3 u4 u5 u6 w1 w2 w3 w4 w5 w6) := by simp [own_desc, nar, *]
      exact ⟨congrArg (fun w => some (Value.int w)) hl, N0, rfl⟩
  · refine own_of (S' := T74.setTop (mkF m 72 #[.val (.ref a0), .val (.ref a1)] [])) (fun t k => XS.icmpYes X74.here hx rfl (pc0 := 8) (pc' := 72) rfl (hb hby own_d3_8) rfl (feq hc8).2 (by decide) (by decide) k) ?_
    refine own_of (S' := T74.setTop (mkF m 73 #[.val (.ref a0), .val (.ref a1)] [(.int (0 : Int32))])) (fun t k => XS.iconst X74.here hx rfl (hb hby own_d3_72) k) ?_
    obtain ⟨fs, hr, hrun, hended, hW, hsame⟩ := X74.leave (v := some (.int (nar .boolean (0 : Int32)))) (fun h => by rw [Bd.returns] at h; cases h)
    refine ⟨_, _, retN X74 hx (t := .boolean) Bd.returns (by simp) (hb hby own_d3_73) hr, hrun, hended, hG _ _ ⟨_, _, rfl, ?_, ⟨_, rfl⟩, hW, hsame.mono (by decide) (by decide)⟩⟩
    show own_Q3 Z a0 a1 u1 u2 u3 u4 u5 u6 w1 w2 w3 w4 w5 w6 h0 n0 _ T74.heap _
    rw [e74]
    have hl : nar .boolean (0 : Int32) = (own_desc u1 u2 u3 u4 u5 u6 w1 w2 w3 w4 w5 w6) := by simp [own_desc, nar, *]
    exact ⟨congrArg (fun w => some (Value.int w)) hl, N0, rfl⟩
theorem own_pn0 : plainName "com/example/firstlight/firstlight/HeaderDescribesTheSegmentOfPinLaw" = true := by first | (simp [plainName, overriddenIn]; done) | decide +kernel
theorem own_ef0 (m : MethodId) (cc : Int32) (mm : Int32) (nn : Int64) (bb : Int64) (dd : Int64) (sel : Int32) : entryFrame m #[(.int cc), (.int mm), (.long nn), (.long bb), (.long dd), (.int sel)] maxLocals = mkF m 0 #[.val (.int cc), .val (.int mm), .val (.long nn), .second, .val (.long bb), .second, .val (.long dd), .second, .val (.int sel), .unset, .unset, .unset, .unset, .unset, .unset, .unset, .unset, .unset] [] := by first | (simp [entryFrame, mkF, argsToLocals, Value.category, maxLocals]; done) | rfl
def own_Q0 (Z : State) (cc : Int32) (mm : Int32) (nn : Int64) (bb : Int64) (dd : Int64) (sel : Int32) (h0 : Heap) (n0 : Nat) (v : Option Value) (h : Heap) (L : List Loc) : Prop := v = some (.int 1) ∧ Fr n0 L
set_option maxRecDepth 65536 in
set_option maxHeartbeats 40000000 in
theorem own_rm0 (l : Launch) (Z : State) (a0 : Array Value) (hw : ∀ d ∈ tables_1, d.before a0 Z = true) (ws : List Jvm.Cond) (cc : Int32) (mm : Int32) (nn : Int64) (bb : Int64) (dd : Int64) (sel : Int32) (h0 : Heap) (n0 : Nat) (Z0 : n0 ≤ h0.size) :
    MetFree l x (head1 (Jvm.Cond.code x code maxLocals ret :: ws) room_1) (fun a U => a = #[(.int cc), (.int mm), (.long nn), (.long bb), (.long dd), (.int sel)] ∧ Z.Warmed39 U.vm ∧ U.heap = h0) (fun _ _ _ _ _ => True) (fun _ U o U' => ∃ v L, o = .returned v ∧ own_Q0 Z cc mm nn bb dd sel h0 n0 v U'.heap L ∧ FrameEnd U o U' L 2 14) := by
  refine MetFree.of_bodySF (plainFor_of_name own_pn0) hisR ?_
  intro p e s m args below meth c s₁ Bd hml0 hP hK
  obtain ⟨rfl, hZ, hh⟩ := hP
  have hx := Bd.exec
  have hby := Bd.bytes
  have hml : c.maxLocals = 18 := hml0
  have hown : s.vm.findClass "com/example/firstlight/firstlight/HeaderDescribesTheSegmentOfPinLaw" = some m.cls := findClass_of_methodNamed Bd.named
  have hnm := (name_of_methodNamed Bd.named Bd.method).1
  have X0 : Stand p l e room_1 s m #[(.int cc), (.int mm), (.long nn), (.long bb), (.long dd), (.int sel)] below meth c s₁ [] 0 0 := Stand.of_body Bd
  have e0 : s₁.heap = h0 := by rw [← hh, Bd.state]; rfl
  have N0 := Fr.nil n0
  refine own_out fun G hG => ?_
  rw [own_ef0 m cc mm nn bb dd sel]
  show own_Go p.tables e below G (s₁.setTop (mkF m 0 #[.val (.int cc), .val (.int mm), .val (.long nn), .second, .val (.long bb), .second, .val (.long dd), .second, .val (.int sel), .unset, .unset, .unset, .unset, .unset, .unset, .unset, .unset, .unset] []))
  refine own_of (S' := s₁.setTop (mkF m 2 #[.val (.int cc), .val (.int mm), .val (.long nn), .second, .val (.long bb), .second, .val (.long dd), .second, .val (.int sel), .unset, .unset, .unset, .unset, .unset, .unset, .unset, .unset, .unset] [(.int sel)])) (fun t k => XS.iload X0.here hx rfl (hb hby at_0) rfl k) ?_
  refine own_of (S' := s₁.setTop (mkF m 4 #[.val (.int cc), .val (.int mm), .val (.long nn), .second, .val (.long bb), .second, .val (.long dd), .second, .val (.int sel), .unset, .unset, .unset, .unset, .unset, .unset, .unset, .unset, .unset] [(.int (7 : Int32)), (.int sel)])) (fun t k => XS.bipush X0.here hx rfl (hb hby at_2) k) ?_
  refine own_of (S' := s₁.setTop (mkF m 5 #[.val (.int cc), .val (.int mm), .val (.long nn), .second, .val (.long bb), .second, .val (.long dd), .second, .val (.int sel), .unset, .unset, .unset, .unset, .unset, .unset, .unset, .unset, .unset] [(.int (sel &&& (7 : Int32)))])) (fun t k => XS.iand X0.here hx rfl (hb hby at_4) rfl k) ?_
  generalize q5 : (sel &&& (7 : Int32)) = x5
  refine own_of (S' := s₁.setTop (mkF m 7 #[.val (.int cc), .val (.int mm), .val (.long nn), .second, .val (.long bb), .second, .val (.long dd), .second, .val (.int sel), .val (.int x5), .unset, .unset, .unset, .unset, .unset, .unset, .unset, .unset] [])) (fun t k => XS.istore X0.here hx rfl (hb hby at_5) rfl (l' := #[.val (.int cc), .val (.int mm), .val (.long nn), .second, .val (.long bb), .second, .val (.long dd), .second, .val (.int sel), .val (.int x5), .unset, .unset, .unset, .unset, .unset, .unset, .unset, .unset]) rfl k) ?_
  refine own_of (S' := s₁.setTop (mkF m 9 #[.val (.int cc), .val (.int mm), .val (.long nn), .second, .val (.long bb), .second, .val (.long dd), .second, .val (.int sel), .val (.int x5), .unset, .unset, .unset, .unset, .unset, .unset, .unset, .unset] [(.long dd)])) (fun t k => XS.lload X0.here hx rfl (hb hby at_7) rfl k) ?_
  refine own_of (S' := s₁.setTop (mkF m 10 #[.val (.int cc), .val (.int mm), .val (.long nn), .second, .val (.long bb), .second, .val (.long dd), .second, .val (.int sel), .val (.int x5), .unset, .unset, .unset, .unset, .unset, .unset, .unset, .unset] [(.int (dd.toInt32))])) (fun t k => XS.l2i X0.here hx rfl (hb hby at_9) rfl k) ?_
  generalize q10 : (dd.toInt32) = x10
  refine own_of (S' := s₁.setTop (mkF m 12 #[.val (.int cc), .val (.int mm), .val (.long nn), .second, .val (.long bb), .second, .val (.long dd), .second, .val (.int sel), .val (.int x5), .val (.int x10), .unset, .unset, .unset, .unset, .unset, .unset, .unset] [])) (fun t k => XS.istore X0.here hx rfl (hb hby at_10) rfl (l' := #[.val (.int cc), .val (.int mm), .val (.long nn), .second, .val (.long bb), .second, .val (.long dd), .second, .val (.int sel), .val (.int x5), .val (.int x10), .unset, .unset, .unset, .unset, .unset, .unset, .unset]) rfl k) ?_
  refine own_of (S' := s₁.setTop (mkF m 13 #[.val (.int cc), .val (.int mm), .val (.long nn), .second, .val (.long bb), .second, .val (.long dd), .second, .val (.int sel), .val (.int x5), .val (.int x10), .unset, .unset, .unset, .unset, .unset, .unset, .unset] [(.int cc)])) (fun t k => XS.iloadN X0.here hx rfl (hb hby at_12) rfl k) ?_
  refine own_of (S' := s₁.setTop (mkF m 14 #[.val (.int cc), .val (.int mm), .val (.long nn), .second, .val (.long bb), .second, .val (.long dd), .second, .val (.int sel), .val (.int x5), .val (.int x10), .unset, .unset, .unset, .unset, .unset, .unset, .unset] [(.int mm), (.int cc)])) (fun t k => XS.iloadN X0.here hx rfl (hb hby at_13) rfl k) ?_
  refine own_of (S' := s₁.setTop (mkF m 15 #[.val (.int cc), .val (.int mm), .val (.long nn), .second, .val (.long bb), .second, .val (.long dd), .second, .val (.int sel), .val (.int x5), .val (.int x10), .unset, .unset, .unset, .unset, .unset, .unset, .unset] [(.int (cc ^^^ mm))])) (fun t k => XS.ixor X0.here hx rfl (hb hby at_14) rfl k) ?_
  generalize q15 : (cc ^^^ mm) = x15
  refine own_of (S' := s₁.setTop (mkF m 17 #[.val (.int cc), .val (.int mm), .val (.long nn), .second, .val (.long bb), .second, .val (.long dd), .second, .val (.int sel), .val (.int x5), .val (.int x10), .val (.int x15), .unset, .unset, .unset, .unset, .unset, .unset] [])) (fun t k => XS.istore X0.here hx rfl (hb hby at_15) rfl (l' := #[.val (.int cc), .val (.int mm), .val (.long nn), .second, .val (.long bb), .second, .val (.long dd), .second, .val (.int sel), .val (.int x5), .val (.int x10), .val (.int x15), .unset, .unset, .unset, .unset, .unset, .unset]) rfl k) ?_
  refine own_of (S' := s₁.setTop (mkF m 18 #[.val (.int cc), .val (.int mm), .val (.long nn), .second, .val (.long bb), .second, .val (.long dd), .second, .val (.int sel), .val (.int x5), .val (.int x10), .val (.int x15), .unset, .unset, .unset, .unset, .unset, .unset] [(.int cc)])) (fun t k => XS.iloadN X0.here hx rfl (hb hby at_17) rfl k) ?_
  refine own_of (S' := s₁.setTop (mkF m 19 #[.val (.int cc), .val (.int mm), .val (.long nn), .second, .val (.long bb), .second, .val (.long dd), .second, .val (.int sel), .val (.int x5), .val (.int x10), .val (.int x15), .unset, .unset, .unset, .unset, .unset, .unset] [(.int mm), (.int cc)])) (fun t k => XS.iloadN X0.here hx rfl (hb hby at_18) rfl k) ?_
  refine own_of (S' := s₁.setTop (mkF m 20 #[.val (.int cc), .val (.int mm), .val (.long nn), .second, .val (.long bb), .second, .val (.long dd), .second, .val (.int sel), .val (.int x5), .val (.int x10), .val (.int x15), .unset, .unset, .unset, .unset, .unset, .unset] [(.int (cc - mm))])) (fun t k => XS.isub X0.here hx rfl (hb hby at_19) rfl k) ?_
  generalize q20 : (cc - mm) = x20
  refine own_of (S' := s₁.setTop (mkF m 22 #[.val (.int cc), .val (.int mm), .val (.long nn), .second, .val (.long bb), .second, .val (.long dd), .second, .val (.int sel), .val (.int x5), .val (.int x10), .val (.int x15), .val (.int x20), .unset, .unset, .unset, .unset, .unset] [])) (fun t k => XS.istore X0.here hx rfl (hb hby at_20) rfl (l' := #[.val (.int cc), .val (.int mm), .val (.long nn), .second, .val (.long bb), .second, .val (.long dd), .second, .val (.int sel), .val (.int x5), .val (.int x10), .val (.int x15), .val (.int x20), .unset, .unset, .unset, .unset, .unset]) rfl k) ?_
  refine own_of (S' := s₁.setTop (mkF m 23 #[.val (.int cc), .val (.int mm), .val (.long nn), .second, .val (.long bb), .second, .val (.long dd), .second, .val (.int sel), .val (.int x5), .val (.int x10), .val (.int x15), .val (.int x20), .unset, .unset, .unset, .unset, .unset] [(.long nn)])) (fun t k => XS.lloadN X0.here hx rfl (hb hby at_22) rfl k) ?_
  refine own_of (S' := s₁.setTop (mkF m 25 #[.val (.int cc), .val (.int mm), .val (.long nn), .second, .val (.long bb), .second, .val (.long dd), .second, .val (.int sel), .val (.int x5), .val (.int x10), .val (.int x15), .val (.int x20), .unset, .unset, .unset, .unset, .unset] [(.long bb), (.long nn)])) (fun t k => XS.lload X0.here hx rfl (hb hby at_23) rfl k) ?_
  refine own_of (S' := s₁.setTop (mkF m 26 #[.val (.int cc), .val (.int mm), .val (.long nn), .second, .val (.long bb), .second, .val (.long dd), .second, .val (.int sel), .val (.int x5), .val (.int x10), .val (.int x15), .val (.int x20), .unset, .unset, .unset, .unset, .unset] [(.long (nn ^^^ bb))])) (fun t k => XS.lxor X0.here hx rfl (hb hby at_25) rfl k) ?_
  generalize q26 : (nn ^^^ bb) = x26
  refine own_of (S' := s₁.setTop (mkF m 28 #[.val (.int cc), .val (.int mm), .val (.long nn), .second, .val (.long bb), .second, .val (.long dd), .second, .val (.int sel), .val (.int x5), .val (.int x10), .val (.int x15), .val (.int x20), .val (.long x26), .second, .unset, .unset, .unset] [])) (fun t k => XS.lstore X0.here hx rfl (hb hby at_26) rfl (l' := #[.val (.int cc), .val (.int mm), .val (.long nn), .second, .val (.long bb), .second, .val (.long dd), .second, .val (.int sel), .val (.int x5), .val (.int x10), .val (.int x15), .val (.int x20), .val (.long x26), .second, .unset, .unset, .unset]) rfl k) ?_
  obtain ⟨T91, h91, X91, e91, E91, A91, D91, -, st91⟩ := newO X0 hx hZ hown (hw _ (List.mem_of_getElem? (i := 0) rfl)) (hw _ (List.mem_of_getElem? (i := 1) rfl)) (hw _ (List.mem_of_getElem? (i := 2) rfl)) e0 (g := (mkF m 28 #[.val (.int cc), .val (.int mm), .val (.long nn), .second, .val (.long bb), .second, .val (.long dd), .second, .val (.int sel), .val (.int x5), .val (.int x10), .val (.int x15), .val (.int x20), .val (.long x26), .second, .unset, .unset, .unset] [])) rfl (hb hby at_28) (by decide) (by decide)
  obtain ⟨b91, g91⟩ : ∃ z, z = h0.size := ⟨_, rfl⟩
  have g_b91 : n0 ≤ b91 := Nat.le_trans Z0 (Nat.le_of_eq g91.symm)
  rw [← g91] at A91 D91 st91
  have f92 : Fld Z h91 b91 "com/example/firstlight/firstlight/SegmentFile$Header" "capacity" "I" (.int (0 : Int32)) := D91 (Or.inr (hw _ (List.mem_of_getElem? (i := 15) rfl))) (ty := .int) (by decide)
  have f93 : Fld Z h91 b91 "com/example/firstlight/firstlight/SegmentFile$Header" "maxSegments" "I" (.int (0 : Int32)) := D91 (Or.inr (hw _ (List.mem_of_getElem? (i := 17) rfl))) (ty := .int) (by decide)
  have f94 : Fld Z h91 b91 "com/example/firstlight/firstlight/SegmentFile$Header" "rule" "I" (.int (0 : Int32)) := D91 (Or.inr (hw _ (List.mem_of_getElem? (i := 19) rfl))) (ty := .int) (by decide)
  have f95 : Fld Z h91 b91 "com/example/firstlight/firstlight/SegmentFile$Header" "number" "J" (.long (0 : Int64)) := D91 (Or.inr (hw _ (List.mem_of_getElem? (i := 21) rfl))) (ty := .long) (by decide)
  have f96 : Fld Z h91 b91 "com/example/firstlight/firstlight/SegmentFile$Header" "base" "J" (.long (0 : Int64)) := D91 (Or.inr (hw _ (List.mem_of_getElem? (i := 23) rfl))) (ty := .long) (by decide)
  have f97 : Fld Z h91 b91 "com/example/firstlight/firstlight/SegmentFile$Header" "documents" "I" (.int (0 : Int32)) := D91 (Or.inr (hw _ (List.mem_of_getElem? (i := 25) rfl))) (ty := .int) (by decide)
  have f98 : Fld Z h91 b91 "com/example/firstlight/firstlight/SegmentFile$Header" "length" "J" (.long (0 : Int64)) := D91 (Or.inr (hw _ (List.mem_of_getElem? (i := 27) rfl))) (ty := .long) (by decide)
  have z99 : n0 ≤ h91.size := Nat.le_trans Z0 E91.1
  refine own_of (S' := T91.setTop (mkF m 31 #[.val (.int cc), .val (.int mm), .val (.long nn), .second, .val (.long bb), .second, .val (.long dd), .second, .val (.int sel), .val (.int x5), .val (.int x10), .val (.int x15), .val (.int x20), .val (.long x26), .second, .unset, .unset, .unset] [(.ref b91)])) st91 ?_
  refine own_of (S' := T91.setTop (mkF m 32 #[.val (.int cc), .val (.int mm), .val (.long nn), .second, .val (.long bb), .second, .val (.long dd), .second, .val (.int sel), .val (.int x5), .val (.int x10), .val (.int x15), .val (.int x20), .val (.long x26), .second, .unset, .unset, .unset] [(.ref b91), (.ref b91)])) (fun t k => XS.dup X91.here hx rfl (hb hby at_31) rfl rfl k) ?_
  refine own_of (S' := T91.setTop (mkF m 33 #[.val (.int cc), .val (.int mm), .val (.long nn), .second, .val (.long bb), .second, .val (.long dd), .second, .val (.int sel), .val (.int x5), .val (.int x10), .val (.int x15), .val (.int x20), .val (.long x26), .second, .unset, .unset, .unset] [(.int cc), (.ref b91), (.ref b91)])) (fun t k => XS.iloadN X91.here hx rfl (hb hby at_32) rfl k) ?_
  refine own_of (S' := T91.setTop (mkF m 34 #[.val (.int cc), .val (.int mm), .val (.long nn), .second, .val (.long bb), .second, .val (.long dd), .second, .val (.int sel), .val (.int x5), .val (.int x10), .val (.int x15), .val (.int x20), .val (.long x26), .second, .unset, .unset, .unset] [(.int mm), (.int cc), (.ref b91), (.ref b91)])) (fun t k => XS.iloadN X91.here hx rfl (hb hby at_33) rfl k) ?_
  refine own_of (S' := T91.setTop (mkF m 36 #[.val (.int cc), .val (.int mm), .val (.long nn), .second, .val (.long bb), .second, .val (.long dd), .second, .val (.int sel), .val (.int x5), .val (.int x10), .val (.int x15), .val (.int x20), .val (.long x26), .second, .unset, .unset, .unset] [(.int x15), (.int mm), (.int cc), (.ref b91), (.ref b91)])) (fun t k => XS.iload X91.here hx rfl (hb hby at_34) rfl k) ?_
  refine own_of (S' := T91.setTop (mkF m 37 #[.val (.int cc), .val (.int mm), .val (.long nn), .second, .val (.long bb), .second, .val (.long dd), .second, .val (.int sel), .val (.int x5), .val (.int x10), .val (.int x15), .val (.int x20), .val (.long x26), .second, .unset, .unset, .unset] [(.long nn), (.int x15), (.int mm), (.int cc), (.ref b91), (.ref b91)])) (fun t k => XS.lloadN X91.here hx rfl (hb hby at_36) rfl k) ?_
  refine own_of (S' := T91.setTop (mkF m 39 #[.val (.int cc), .val (.int mm), .val (.long nn), .second, .val (.long bb), .second, .val (.long dd), .second, .val (.int sel), .val (.int x5), .val (.int x10), .val (.int x15), .val (.int x20), .val (.long x26), .second, .unset, .unset, .unset] [(.long bb), (.long nn), (.int x15), (.int mm), (.int cc), (.ref b91), (.ref b91)])) (fun t k => XS.lload X91.here hx rfl (hb hby at_37) rfl k) ?_
  refine own_of (S' := T91.setTop (mkF m 41 #[.val (.int cc), .val (.int mm), .val (.long nn), .second, .val (.long bb), .second, .val (.long dd), .second, .val (.int sel), .val (.int x5), .val (.int x10), .val (.int x15), .val (.int x20), .val (.long x26), .second, .unset, .unset, .unset] [(.int x20), (.long bb), (.long nn), (.int x15), (.int mm), (.int cc), (.ref b91), (.ref b91)])) (fun t k => XS.iload X91.here hx rfl (hb hby at_39) rfl k) ?_
  refine own_of (S' := T91.setTop (mkF m 43 #[.val (.int cc), .val (.int mm), .val (.long nn), .second, .val (.long bb), .second, .val (.long dd), .second, .val (.int sel), .val (.int x5), .val (.int x10), .val (.int x15), .val (.int x20), .val (.long x26), .second, .unset, .unset, .unset] [(.long x26), (.int x20), (.long bb), (.long nn), (.int x15), (.int mm), (.int cc), (.ref b91), (.ref b91)])) (fun t k => XS.lload X91.here hx rfl (hb hby at_41) rfl k) ?_
  obtain ⟨_, _, ⟨T100, L100, k100, n100⟩, -, X100, ⟨Lc100, hQ100, l100, y100, z100⟩, st100⟩ := X91.specialBack hx (y := (⟨"com/example/firstlight/firstlight/SegmentFile$Header", "<init>", "(IIIJJIJ)V"⟩ : MethodName)) rfl hown (mvT hZ (hw _ (List.mem_of_getElem? (i := 3) rfl))) (mvT hZ (hw _ (List.mem_of_getElem? (i := 4) rfl))) (mvT hZ (hw _ (List.mem_of_getElem? (i := 5) rfl))) (by decide) (backOf (W := 1) (own_rm2 l Z _ hw [] b91 cc mm x15 nn bb x20 x26 h91 n0 A91 f92 f93 f94 f95 f96 f97 f98 g_b91) hZ (hw _ (List.mem_of_getElem? (i := 5) rfl)) (hw _ (List.mem_of_getElem? (i := 2) rfl)) (by decide) (by decide)) (g := (mkF m 43 #[.val (.int cc), .val (.int mm), .val (.long nn), .second, .val (.long bb), .second, .val (.long dd), .second, .val (.int sel), .val (.int x5), .val (.int x10), .val (.int x15), .val (.int x20), .val (.long x26), .second, .unset, .unset, .unset] [(.long x26), (.int x20), (.long bb), (.long nn), (.int x15), (.int mm), (.int cc), (.ref b91), (.ref b91)])) rfl (by rw [hml]; rfl) (Steps.refl _) (a := b91) (argsL := [(.int cc), (.int mm), (.int x15), (.long nn), (.long bb), (.int x20), (.long x26)]) (rest := [(.ref b91)]) (lenOf own_pd1 rfl) rfl (by show 2 * 0 + _ ≤ _; exact Nat.le_of_eq rfl) (hb hby at_43) (fun _ _ => ⟨rfl, e91, (by decide : 1 + 0 ≤ _), (by decide : 7 + 0 ≤ _)⟩)
  dsimp only [Pt.U, Pt.locs, Pt.cells, Pt.slots] at X100 l100 y100 z100 st100 hQ100
  subst l100 y100 z100
  obtain ⟨rfl, M100, K100, p100_0, p100_1, p100_2, p100_3, p100_4, p100_5, p100_6, p100_7⟩ := hQ100
  have f101 : Exa Z T100.heap b91 "com/example/firstlight/firstlight/SegmentFile$Header" := (A91.keep K100)
  have z102 : n0 ≤ T100.heap.size := Nat.le_trans z99 K100.1
  have N100 := Fr.app N0 M100
  refine own_of (S' := T100.setTop (mkF m 46 #[.val (.int cc), .val (.int mm), .val (.long nn), .second, .val (.long bb), .second, .val (.long dd), .second, .val (.int sel), .val (.int x5), .val (.int x10), .val (.int x15), .val (.int x20), .val (.long x26), .second, .unset, .unset, .unset] [(.ref b91)])) (fun t k => st100.trans k) ?_
  refine own_of (S' := T100.setTop (mkF m 48 #[.val (.int cc), .val (.int mm), .val (.long nn), .second, .val (.long bb), .second, .val (.long dd), .second, .val (.int sel), .val (.int x5), .val (.int x10), .val (.int x15), .val (.int x20), .val (.long x26), .second, .val (.ref b91), .unset, .unset] [])) (fun t k => XS.astore X100.here hx rfl (hb hby at_46) rfl rfl (l' := #[.val (.int cc), .val (.int mm), .val (.long nn), .second, .val (.long bb), .second, .val (.long dd), .second, .val (.int sel), .val (.int x5), .val (.int x10), .val (.int x15), .val (.int x20), .val (.long x26), .second, .val (.ref b91), .unset, .unset]) rfl k) ?_
  obtain ⟨T103, h103, X103, e103, E103, A103, D103, -, st103⟩ := newO X100 hx hZ hown (hw _ (List.mem_of_getElem? (i := 0) rfl)) (hw _ (List.mem_of_getElem? (i := 1) rfl)) (hw _ (List.mem_of_getElem? (i := 2) rfl)) rfl (g := (mkF m 48 #[.val (.int cc), .val (.int mm), .val (.long nn), .second, .val (.long bb), .second, .val (.long dd), .second, .val (.int sel), .val (.int x5), .val (.int x10), .val (.int x15), .val (.int x20), .val (.long x26), .second, .val (.ref b91), .unset, .unset] [])) rfl (hb hby at_48) (by decide) (by decide)
  obtain ⟨b103, g103⟩ : ∃ z, z = T100.heap.size := ⟨_, rfl⟩
  have ne104 : b91 ≠ b103 := by rw [g103]; exact Nat.ne_of_lt p100_0.lt
  have g_b103 : n0 ≤ b103 := Nat.le_trans z102 (Nat.le_of_eq g103.symm)
  rw [← g103] at A103 D103 st103
  have f105 : Exa Z h103 b91 "com/example/firstlight/firstlight/SegmentFile$Header" := (p100_0.ext E103)
  have f106 : Fld Z h103 b91 "com/example/firstlight/firstlight/SegmentFile$Header" "capacity" "I" (.int cc) := (p100_1.ext E103)
  have f107 : Fld Z h103 b91 "com/example/firstlight/firstlight/SegmentFile$Header" "maxSegments" "I" (.int mm) := (p100_2.ext E103)
  have f108 : Fld Z h103 b91 "com/example/firstlight/firstlight/SegmentFile$Header" "rule" "I" (.int x15) := (p100_3.ext E103)
  have f109 : Fld Z h103 b91 "com/example/firstlight/firstlight/SegmentFile$Header" "number" "J" (.long nn) := (p100_4.ext E103)
  have f110 : Fld Z h103 b91 "com/example/firstlight/firstlight/SegmentFile$Header" "base" "J" (.long bb) := (p100_5.ext E103)
  have f111 : Fld Z h103 b91 "com/example/firstlight/firstlight/SegmentFile$Header" "documents" "I" (.int x20) := (p100_6.ext E103)
  have f112 : Fld Z h103 b91 "com/example/firstlight/firstlight/SegmentFile$Header" "length" "J" (.long x26) := (p100_7.ext E103)
  have f113 : Fld Z h103 b103 "com/example/firstlight/firstlight/SegmentFile$Header" "capacity" "I" (.int (0 : Int32)) := D103 (Or.inr (hw _ (List.mem_of_getElem? (i := 15) rfl))) (ty := .int) (by decide)
  have f114 : Fld Z h103 b103 "com/example/firstlight/firstlight/SegmentFile$Header" "maxSegments" "I" (.int (0 : Int32)) := D103 (Or.inr (hw _ (List.mem_of_getElem? (i := 17) rfl))) (ty := .int) (by decide)
  have f115 : Fld Z h103 b103 "com/example/firstlight/firstlight/SegmentFile$Header" "rule" "I" (.int (0 : Int32)) := D103 (Or.inr (hw _ (List.mem_of_getElem? (i := 19) rfl))) (ty := .int) (by decide)
  have f116 : Fld Z h103 b103 "com/example/firstlight/firstlight/SegmentFile$Header" "number" "J" (.long (0 : Int64)) := D103 (Or.inr (hw _ (List.mem_of_getElem? (i := 21) rfl))) (ty := .long) (by decide)
  have f117 : Fld Z h103 b103 "com/example/firstlight/firstlight/SegmentFile$Header" "base" "J" (.long (0 : Int64)) := D103 (Or.inr (hw _ (List.mem_of_getElem? (i := 23) rfl))) (ty := .long) (by decide)
  have f118 : Fld Z h103 b103 "com/example/firstlight/firstlight/SegmentFile$Header" "documents" "I" (.int (0 : Int32)) := D103 (Or.inr (hw _ (List.mem_of_getElem? (i := 25) rfl))) (ty := .int) (by decide)
  have f119 : Fld Z h103 b103 "com/example/firstlight/firstlight/SegmentFile$Header" "length" "J" (.long (0 : Int64)) := D103 (Or.inr (hw _ (List.mem_of_getElem? (i := 27) rfl))) (ty := .long) (by decide)
  have z120 : n0 ≤ h103.size := Nat.le_trans z102 E103.1
  refine own_of (S' := T103.setTop (mkF m 51 #[.val (.int cc), .val (.int mm), .val (.long nn), .second, .val (.long bb), .second, .val (.long dd), .second, .val (.int sel), .val (.int x5), .val (.int x10), .val (.int x15), .val (.int x20), .val (.long x26), .second, .val (.ref b91), .unset, .unset] [(.ref b103)])) st103 ?_
  refine own_of (S' := T103.setTop (mkF m 52 #[.val (.int cc), .val (.int mm), .val (.long nn), .second, .val (.long bb), .second, .val (.long dd), .second, .val (.int sel), .val (.int x5), .val (.int x10), .val (.int x15), .val (.int x20), .val (.long x26), .second, .val (.ref b91), .unset, .unset] [(.ref b103), (.ref b103)])) (fun t k => XS.dup X103.here hx rfl (hb hby at_51) rfl rfl k) ?_
  refine own_of (S' := T103.setTop (mkF m 54 #[.val (.int cc), .val (.int mm), .val (.long nn), .second, .val (.long bb), .second, .val (.long dd), .second, .val (.int sel), .val (.int x5), .val (.int x10), .val (.int x15), .val (.int x20), .val (.long x26), .second, .val (.ref b91), .unset, .unset] [(.int x5), (.ref b103), (.ref b103)])) (fun t k => XS.iload X103.here hx rfl (hb hby at_52) rfl k) ?_
  obtain ⟨j65_s0, qj65_s0⟩ : ∃ z : Int32, z = (if x5 = (0 : Int32) then (cc + x10) else cc) := ⟨_, rfl⟩
  suffices k122 : ∀ (T' : State) (locs' : List Loc), Stand p l e room_1 s m #[(.int cc), (.int mm), (.long nn), (.long bb), (.long dd), (.int sel)] below meth c T' locs' 2 14 → Fr n0 locs' → T'.heap = h103 → own_Go p.tables e below G (T'.setTop (mkF m 65 #[.val (.int cc), .val (.int mm), .val (.long nn), .second, .val (.long bb), .second, .val (.long dd), .second, .val (.int sel), .val (.int x5), .val (.int x10), .val (.int x15), .val (.int x20), .val (.long x26), .second, .val (.ref b91), .unset, .unset] [(.int j65_s0), (.ref b103), (.ref b103)])) by
    by_cases hc54 : x5 = (0 : Int32)
    · refine own_of (S' := T103.setTop (mkF m 57 #[.val (.int cc), .val (.int mm), .val (.long nn), .second, .val (.long bb), .second, .val (.long dd), .second, .val (.int sel), .val (.int x5), .val (.int x10), .val (.int x15), .val (.int x20), .val (.long x26), .second, .val (.ref b91), .unset, .unset] [(.ref b103), (.ref b103)])) (fun t k => XS.ifNo X103.here hx rfl (hb hby at_54) rfl ((if0 _ _).trans (teq hc54).2) k) ?_
      refine own_of (S' := T103.setTop (mkF m 58 #[.val (.int cc), .val (.int mm), .val (.long nn), .second, .val (.long bb), .second, .val (.long dd), .second, .val (.int sel), .val (.int x5), .val (.int x10), .val (.int x15), .val (.int x20), .val (.long x26), .second, .val (.ref b91), .unset, .unset] [(.int cc), (.ref b103), (.ref b103)])) (fun t k => XS.iloadN X103.here hx rfl (hb hby at_57) rfl k) ?_
      refine own_of (S' := T103.setTop (mkF m 60 #[.val (.int cc), .val (.int mm), .val (.long nn), .second, .val (.long bb), .second, .val (.long dd), .second, .val (.int sel), .val (.int x5), .val (.int x10), .val (.int x15), .val (.int x20), .val (.long x26), .second, .val (.ref b91), .unset, .unset] [(.int x10), (.int cc), (.ref b103), (.ref b103)])) (fun t k => XS.iload X103.here hx rfl (hb hby at_58) rfl k) ?_
      refine own_of (S' := T103.setTop (mkF m 61 #[.val (.int cc), .val (.int mm), .val (.long nn), .second, .val (.long bb), .second, .val (.long dd), .second, .val (.int sel), .val (.int x5), .val (.int x10), .val (.int x15), .val (.int x20), .val (.long x26), .second, .val (.ref b91), .unset, .unset] [(.int (cc + x10)), (.ref b103), (.ref b103)])) (fun t k => XS.iadd X103.here hx rfl (hb hby at_60) rfl k) ?_
      refine own_of (S' := T103.setTop (mkF m 65 #[.val (.int cc), .val (.int mm), .val (.long nn), .second, .val (.long bb), .second, .val (.long dd), .second, .val (.int sel), .val (.int x5), .val (.int x10), .val (.int x15), .val (.int x20), .val (.long x26), .second, .val (.ref b91), .unset, .unset] [(.int (cc + x10)), (.ref b103), (.ref b103)])) (fun t k => XS.goto X103.here hx rfl (pc0 := 61) (pc' := 65) rfl (hb hby at_61) (by decide) (by decide) k) ?_
      have jw123 : j65_s0 = ((cc + x10) : Int32) := qj65_s0.trans (if_pos hc54)
      rw [jw123] at k122
      exact k122 T103 _ X103 N100 e103
    · refine own_of (S' := T103.setTop (mkF m 64 #[.val (.int cc), .val (.int mm), .val (.long nn), .second, .val (.long bb), .second, .val (.long dd), .second, .val (.int sel), .val (.int x5), .val (.int x10), .val (.int x15), .val (.int x20), .val (.long x26), .second, .val (.ref b91), .unset, .unset] [(.ref b103), (.ref b103)])) (fun t k => XS.ifYes X103.here hx rfl (pc0 := 54) (pc' := 64) rfl (hb hby at_54) rfl ((if0 _ _).trans (feq hc54).2) (by decide) (by decide) k) ?_
      refine own_of (S' := T103.setTop (mkF m 65 #[.val (.int cc), .val (.int mm), .val (.long nn), .second, .val (.long bb), .second, .val (.long dd), .second, .val (.int sel), .val (.int x5), .val (.int x10), .val (.int x15), .val (.int x20), .val (.long x26), .second, .val (.ref b91), .unset, .unset] [(.int cc), (.ref b103), (.ref b103)])) (fun t k => XS.iloadN X103.here hx rfl (hb hby at_64) rfl k) ?_
      have jw124 : j65_s0 = (cc : Int32) := qj65_s0.trans (if_neg hc54)
      rw [jw124] at k122
      exact k122 T103 _ X103 N100 e103
  intro T122 locs122 X122 N122 e122
  refine own_of (S' := T122.setTop (mkF m 67 #[.val (.int cc), .val (.int mm), .val (.long nn), .second, .val (.long bb), .second, .val (.long dd), .second, .val (.int sel), .val (.int x5), .val (.int x10), .val (.int x15), .val (.int x20), .val (.long x26), .second, .val (.ref b91), .unset, .unset] [(.int x5), (.int j65_s0), (.ref b103), (.ref b103)])) (fun t k => XS.iload X122.here hx rfl (hb hby at_65) rfl k) ?_
  refine own_of (S' := T122.setTop (mkF m 68 #[.val (.int cc), .val (.int mm), .val (.long nn), .second, .val (.long bb), .second, .val (.long dd), .second, .val (.int sel), .val (.int x5), .val (.int x10), .val (.int x15), .val (.int x20), .val (.long x26), .second, .val (.ref b91), .unset, .unset] [(.int (1 : Int32)), (.int x5), (.int j65_s0), (.ref b103), (.ref b103)])) (fun t k => XS.iconst X122.here hx rfl (hb hby at_67) k) ?_
  obtain ⟨j79_s0, qj79_s0⟩ : ∃ z : Int32, z = (if x5 = (1 : Int32) then (mm + x10) else mm) := ⟨_, rfl⟩
  suffices k126 : ∀ (T' : State) (locs' : List Loc), Stand p l e room_1 s m #[(.int cc), (.int mm), (.long nn), (.long bb), (.long dd), (.int sel)] below meth c T' locs' 2 14 → Fr n0 locs' → T'.heap = h103 → own_Go p.tables e below G (T'.setTop (mkF m 79 #[.val (.int cc), .val (.int mm), .val (.long nn), .second, .val (.long bb), .second, .val (.long dd), .second, .val (.int sel), .val (.int x5), .val (.int x10), .val (.int x15), .val (.int x20), .val (.long x26), .second, .val (.ref b91), .unset, .unset] [(.int j79_s0), (.int j65_s0), (.ref b103), (.ref b103)])) by
    by_cases hc68 : x5 = (1 : Int32)
    · refine own_of (S' := T122.setTop (mkF m 71 #[.val (.int cc), .val (.int mm), .val (.long nn), .second, .val (.long bb), .second, .val (.long dd), .second, .val (.int sel), .val (.int x5), .val (.int x10), .val (.int x15), .val (.int x20), .val (.long x26), .second, .val (.ref b91), .unset, .unset] [(.int j65_s0), (.ref b103), (.ref b103)])) (fun t k => XS.icmpNo X122.here hx rfl (hb hby at_68) rfl (teq hc68).2 k) ?_
      refine own_of (S' := T122.setTop (mkF m 72 #[.val (.int cc), .val (.int mm), .val (.long nn), .second, .val (.long bb), .second, .val (.long dd), .second, .val (.int sel), .val (.int x5), .val (.int x10), .val (.int x15), .val (.int x20), .val (.long x26), .second, .val (.ref b91), .unset, .unset] [(.int mm), (.int j65_s0), (.ref b103), (.ref b103)])) (fun t k => XS.iloadN X122.here hx rfl (hb hby at_71) rfl k) ?_
      refine own_of (S' := T122.setTop (mkF m 74 #[.val (.int cc), .val (.int mm), .val (.long nn), .second, .val (.long bb), .second, .val (.long dd), .second, .val (.int sel), .val (.int x5), .val (.int x10), .val (.int x15), .val (.int x20), .val (.long x26), .second, .val (.ref b91), .unset, .unset] [(.int x10), (.int mm), (.int j65_s0), (.ref b103), (.ref b103)])) (fun t k => XS.iload X122.here hx rfl (hb hby at_72) rfl k) ?_
      refine own_of (S' := T122.setTop (mkF m 75 #[.val (.int cc), .val (.int mm), .val (.long nn), .second, .val (.long bb), .second, .val (.long dd), .second, .val (.int sel), .val (.int x5), .val (.int x10), .val (.int x15), .val (.int x20), .val (.long x26), .second, .val (.ref b91), .unset, .unset] [(.int (mm + x10)), (.int j65_s0), (.ref b103), (.ref b103)])) (fun t k => XS.iadd X122.here hx rfl (hb hby at_74) rfl k) ?_
      refine own_of (S' := T122.setTop (mkF m 79 #[.val (.int cc), .val (.int mm), .val (.long nn), .second, .val (.long bb), .second, .val (.long dd), .second, .val (.int sel), .val (.int x5), .val (.int x10), .val (.int x15), .val (.int x20), .val (.long x26), .second, .val (.ref b91), .unset, .unset] [(.int (mm + x10)), (.int j65_s0), (.ref b103), (.ref b103)])) (fun t k => XS.goto X122.here hx rfl (pc0 := 75) (pc' := 79) rfl (hb hby at_75) (by decide) (by decide) k) ?_
      have jw127 : j79_s0 = ((mm + x10) : Int32) := qj79_s0.trans (if_pos hc68)
      rw [jw127] at k126
      exact k126 T122 _ X122 N122 e122
    · refine own_of (S' := T122.setTop (mkF m 78 #[.val (.int cc), .val (.int mm), .val (.long nn), .second, .val (.long bb), .second, .val (.long dd), .second, .val (.int sel), .val (.int x5), .val (.int x10), .val (.int x15), .val (.int x20), .val (.long x26), .second, .val (.ref b91), .unset, .unset] [(.int j65_s0), (.ref b103), (.ref b103)])) (fun t k => XS.icmpYes X122.here hx rfl (pc0 := 68) (pc' := 78) rfl (hb hby at_68) rfl (feq hc68).2 (by decide) (by decide) k) ?_
      refine own_of (S' := T122.setTop (mkF m 79 #[.val (.int cc), .val (.int mm), .val (.long nn), .second, .val (.long bb), .second, .val (.long dd), .second, .val (.int sel), .val (.int x5), .val (.int x10), .val (.int x15), .val (.int x20), .val (.long x26), .second, .val (.ref b91), .unset, .unset] [(.int mm), (.int j65_s0), (.ref b103), (.ref b103)])) (fun t k => XS.iloadN X122.here hx rfl (hb hby at_78) rfl k) ?_
      have jw128 : j79_s0 = (mm : Int32) := qj79_s0.trans (if_neg hc68)
      rw [jw128] at k126
      exact k126 T122 _ X122 N122 e122
  intro T126 locs126 X126 N126 e126
  refine own_of (S' := T126.setTop (mkF m 81 #[.val (.int cc), .val (.int mm), .val (.long nn), .second, .val (.long bb), .second, .val (.long dd), .second, .val (.int sel), .val (.int x5), .val (.int x10), .val (.int x15), .val (.int x20), .val (.long x26), .second, .val (.ref b91), .unset, .unset] [(.int x5), (.int j79_s0), (.int j65_s0), (.ref b103), (.ref b103)])) (fun t k => XS.iload X126.here hx rfl (hb hby at_79) rfl k) ?_
  refine own_of (S' := T126.setTop (mkF m 82 #[.val (.int cc), .val (.int mm), .val (.long nn), .second, .val (.long bb), .second, .val (.long dd), .second, .val (.int sel), .val (.int x5), .val (.int x10), .val (.int x15), .val (.int x20), .val (.long x26), .second, .val (.ref b91), .unset, .unset] [(.int (2 : Int32)), (.int x5), (.int j79_s0), (.int j65_s0), (.ref b103), (.ref b103)])) (fun t k => XS.iconst X126.here hx rfl (hb hby at_81) k) ?_
  obtain ⟨j95_s0, qj95_s0⟩ : ∃ z : Int32, z = (if x5 = (2 : Int32) then (x15 + x10) else x15) := ⟨_, rfl⟩
  suffices k130 : ∀ (T' : State) (locs' : List Loc), Stand p l e room_1 s m #[(.int cc), (.int mm), (.long nn), (.long bb), (.long dd), (.int sel)] below meth c T' locs' 2 14 → Fr n0 locs' → T'.heap = h103 → own_Go p.tables e below G (T'.setTop (mkF m 95 #[.val (.int cc), .val (.int mm), .val (.long nn), .second, .val (.long bb), .second, .val (.long dd), .second, .val (.int sel), .val (.int x5), .val (.int x10), .val (.int x15), .val (.int x20), .val (.long x26), .second, .val (.ref b91), .unset, .unset] [(.int j95_s0), (.int j79_s0), (.int j65_s0), (.ref b103), (.ref b103)])) by
    by_cases hc82 : x5 = (2 : Int32)
    · refine own_of (S' := T126.setTop (mkF m 85 #[.val (.int cc), .val (.int mm), .val (.long nn), .second, .val (.long bb), .second, .val (.long dd), .second, .val (.int sel), .val (.int x5), .val (.int x10), .val (.int x15), .val (.int x20), .val (.long x26), .second, .val (.ref b91), .unset, .unset] [(.int j79_s0), (.int j65_s0), (.ref b103), (.ref b103)])) (fun t k => XS.icmpNo X126.here hx rfl (hb hby at_82) rfl (teq hc82).2 k) ?_
      refine own_of (S' := T126.setTop (mkF m 87 #[.val (.int cc), .val (.int mm), .val (.long nn), .second, .val (.long bb), .second, .val (.long dd), .second, .val (.int sel), .val (.int x5), .val (.int x10), .val (.int x15), .val (.int x20), .val (.long x26), .second, .val (.ref b91), .unset, .unset] [(.int x15), (.int j79_s0), (.int j65_s0), (.ref b103), (.ref b103)])) (fun t k => XS.iload X126.here hx rfl (hb hby at_85) rfl k) ?_
      refine own_of (S' := T126.setTop (mkF m 89 #[.val (.int cc), .val (.int mm), .val (.long nn), .second, .val (.long bb), .second, .val (.long dd), .second, .val (.int sel), .val (.int x5), .val (.int x10), .val (.int x15), .val (.int x20), .val (.long x26), .second, .val (.ref b91), .unset, .unset] [(.int x10), (.int x15), (.int j79_s0), (.int j65_s0), (.ref b103), (.ref b103)])) (fun t k => XS.iload X126.here hx rfl (hb hby at_87) rfl k) ?_
      refine own_of (S' := T126.setTop (mkF m 90 #[.val (.int cc), .val (.int mm), .val (.long nn), .second, .val (.long bb), .second, .val (.long dd), .second, .val (.int sel), .val (.int x5), .val (.int x10), .val (.int x15), .val (.int x20), .val (.long x26), .second, .val (.ref b91), .unset, .unset] [(.int (x15 + x10)), (.int j79_s0), (.int j65_s0), (.ref b103), (.ref b103)])) (fun t k => XS.iadd X126.here hx rfl (hb hby at_89) rfl k) ?_
      refine own_of (S' := T126.setTop (mkF m 95 #[.val (.int cc), .val (.int mm), .val (.long nn), .second, .val (.long bb), .second, .val (.long dd), .second, .val (.int sel), .val (.int x5), .val (.int x10), .val (.int x15), .val (.int x20), .val (.long x26), .second, .val (.ref b91), .unset, .unset] [(.int (x15 + x10)), (.int j79_s0), (.int j65_s0), (.ref b103), (.ref b103)])) (fun t k => XS.goto X126.here hx rfl (pc0 := 90) (pc' := 95) rfl (hb hby at_90) (by decide) (by decide) k) ?_
      have jw131 : j95_s0 = ((x15 + x10) : Int32) := qj95_s0.trans (if_pos hc82)
      rw [jw131] at k130
      exact k130 T126 _ X126 N126 e126
    · refine own_of (S' := T126.setTop (mkF m 93 #[.val (.int cc), .val (.int mm), .val (.long nn), .second, .val (.long bb), .second, .val (.long dd), .second, .val (.int sel), .val (.int x5), .val (.int x10), .val (.int x15), .val (.int x20), .val (.long x26), .second, .val (.ref b91), .unset, .unset] [(.int j79_s0), (.int j65_s0), (.ref b103), (.ref b103)])) (fun t k => XS.icmpYes X126.here hx rfl (pc0 := 82) (pc' := 93) rfl (hb hby at_82) rfl (feq hc82).2 (by decide) (by decide) k) ?_
      refine own_of (S' := T126.setTop (mkF m 95 #[.val (.int cc), .val (.int mm), .val (.long nn), .second, .val (.long bb), .second, .val (.long dd), .second, .val (.int sel), .val (.int x5), .val (.int x10), .val (.int x15), .val (.int x20), .val (.long x26), .second, .val (.ref b91), .unset, .unset] [(.int x15), (.int j79_s0), (.int j65_s0), (.ref b103), (.ref b103)])) (fun t k => XS.iload X126.here hx rfl (hb hby at_93) rfl k) ?_
      have jw132 : j95_s0 = (x15 : Int32) := qj95_s0.trans (if_neg hc82)
      rw [jw132] at k130
      exact k130 T126 _ X126 N126 e126
  intro T130 locs130 X130 N130 e130
  refine own_of (S' := T130.setTop (mkF m 97 #[.val (.int cc), .val (.int mm), .val (.long nn), .second, .val (.long bb), .second, .val (.long dd), .second, .val (.int sel), .val (.int x5), .val (.int x10), .val (.int x15), .val (.int x20), .val (.long x26), .second, .val (.ref b91), .unset, .unset] [(.int x5), (.int j95_s0), (.int j79_s0), (.int j65_s0), (.ref b103), (.ref b103)])) (fun t k => XS.iload X130.here hx rfl (hb hby at_95) rfl k) ?_
  refine own_of (S' := T130.setTop (mkF m 98 #[.val (.int cc), .val (.int mm), .val (.long nn), .second, .val (.long bb), .second, .val (.long dd), .second, .val (.int sel), .val (.int x5), .val (.int x10), .val (.int x15), .val (.int x20), .val (.long x26), .second, .val (.ref b91), .unset, .unset] [(.int (3 : Int32)), (.int x5), (.int j95_s0), (.int j79_s0), (.int j65_s0), (.ref b103), (.ref b103)])) (fun t k => XS.iconst X130.here hx rfl (hb hby at_97) k) ?_
  obtain ⟨j109_s0, qj109_s0⟩ : ∃ z : Int64, z = (if x5 = (3 : Int32) then (nn + dd) else nn) := ⟨_, rfl⟩
  suffices k134 : ∀ (T' : State) (locs' : List Loc), Stand p l e room_1 s m #[(.int cc), (.int mm), (.long nn), (.long bb), (.long dd), (.int sel)] below meth c T' locs' 2 14 → Fr n0 locs' → T'.heap = h103 → own_Go p.tables e below G (T'.setTop (mkF m 109 #[.val (.int cc), .val (.int mm), .val (.long nn), .second, .val (.long bb), .second, .val (.long dd), .second, .val (.int sel), .val (.int x5), .val (.int x10), .val (.int x15), .val (.int x20), .val (.long x26), .second, .val (.ref b91), .unset, .unset] [(.long j109_s0), (.int j95_s0), (.int j79_s0), (.int j65_s0), (.ref b103), (.ref b103)])) by
    by_cases hc98 : x5 = (3 : Int32)
    · refine own_of (S' := T130.setTop (mkF m 101 #[.val (.int cc), .val (.int mm), .val (.long nn), .second, .val (.long bb), .second, .val (.long dd), .second, .val (.int sel), .val (.int x5), .val (.int x10), .val (.int x15), .val (.int x20), .val (.long x26), .second, .val (.ref b91), .unset, .unset] [(.int j95_s0), (.int j79_s0), (.int j65_s0), (.ref b103), (.ref b103)])) (fun t k => XS.icmpNo X130.here hx rfl (hb hby at_98) rfl (teq hc98).2 k) ?_
      refine own_of (S' := T130.setTop (mkF m 102 #[.val (.int cc), .val (.int mm), .val (.long nn), .second, .val (.long bb), .second, .val (.long dd), .second, .val (.int sel), .val (.int x5), .val (.int x10), .val (.int x15), .val (.int x20), .val (.long x26), .second, .val (.ref b91), .unset, .unset] [(.long nn), (.int j95_s0), (.int j79_s0), (.int j65_s0), (.ref b103), (.ref b103)])) (fun t k => XS.lloadN X130.here hx rfl (hb hby at_101) rfl k) ?_
      refine own_of (S' := T130.setTop (mkF m 104 #[.val (.int cc), .val (.int mm), .val (.long nn), .second, .val (.long bb), .second, .val (.long dd), .second, .val (.int sel), .val (.int x5), .val (.int x10), .val (.int x15), .val (.int x20), .val (.long x26), .second, .val (.ref b91), .unset, .unset] [(.long dd), (.long nn), (.int j95_s0), (.int j79_s0), (.int j65_s0), (.ref b103), (.ref b103)])) (fun t k => XS.lload X130.here hx rfl (hb hby at_102) rfl k) ?_
      refine own_of (S' := T130.setTop (mkF m 105 #[.val (.int cc), .val (.int mm), .val (.long nn), .second, .val (.long bb), .second, .val (.long dd), .second, .val (.int sel), .val (.int x5), .val (.int x10), .val (.int x15), .val (.int x20), .val (.long x26), .second, .val (.ref b91), .unset, .unset] [(.long (nn + dd)), (.int j95_s0), (.int j79_s0), (.int j65_s0), (.ref b103), (.ref b103)])) (fun t k => XS.ladd X130.here hx rfl (hb hby at_104) rfl k) ?_
      refine own_of (S' := T130.setTop (mkF m 109 #[.val (.int cc), .val (.int mm), .val (.long nn), .second, .val (.long bb), .second, .val (.long dd), .second, .val (.int sel), .val (.int x5), .val (.int x10), .val (.int x15), .val (.int x20), .val (.long x26), .second, .val (.ref b91), .unset, .unset] [(.long (nn + dd)), (.int j95_s0), (.int j79_s0), (.int j65_s0), (.ref b103), (.ref b103)])) (fun t k => XS.goto X130.here hx rfl (pc0 := 105) (pc' := 109) rfl (hb hby at_105) (by decide) (by decide) k) ?_
      have jw135 : j109_s0 = ((nn + dd) : Int64) := qj109_s0.trans (if_pos hc98)
      rw [jw135] at k134
      exact k134 T130 _ X130 N130 e130
    · refine own_of (S' := T130.setTop (mkF m 108 #[.val (.int cc), .val (.int mm), .val (.long nn), .second, .val (.long bb), .second, .val (.long dd), .second, .val (.int sel), .val (.int x5), .val (.int x10), .val (.int x15), .val (.int x20), .val (.long x26), .second, .val (.ref b91), .unset, .unset] [(.int j95_s0), (.int j79_s0), (.int j65_s0), (.ref b103), (.ref b103)])) (fun t k => XS.icmpYes X130.here hx rfl (pc0 := 98) (pc' := 108) rfl (hb hby at_98) rfl (feq hc98).2 (by decide) (by decide) k) ?_
      refine own_of (S' := T130.setTop (mkF m 109 #[.val (.int cc), .val (.int mm), .val (.long nn), .second, .val (.long bb), .second, .val (.long dd), .second, .val (.int sel), .val (.int x5), .val (.int x10), .val (.int x15), .val (.int x20), .val (.long x26), .second, .val (.ref b91), .unset, .unset] [(.long nn), (.int j95_s0), (.int j79_s0), (.int j65_s0), (.ref b103), (.ref b103)])) (fun t k => XS.lloadN X130.here hx rfl (hb hby at_108) rfl k) ?_
      have jw136 : j109_s0 = (nn : Int64) := qj109_s0.trans (if_neg hc98)
      rw [jw136] at k134
      exact k134 T130 _ X130 N130 e130
  intro T134 locs134 X134 N134 e134
  refine own_of (S' := T134.setTop (mkF m 111 #[.val (.int cc), .val (.int mm), .val (.long nn), .second, .val (.long bb), .second, .val (.long dd), .second, .val (.int sel), .val (.int x5), .val (.int x10), .val (.int x15), .val (.int x20), .val (.long x26), .second, .val (.ref b91), .unset, .unset] [(.int x5), (.long j109_s0), (.int j95_s0), (.int j79_s0), (.int j65_s0), (.ref b103), (.ref b103)])) (fun t k => XS.iload X134.here hx rfl (hb hby at_109) rfl k) ?_
  refine own_of (S' := T134.setTop (mkF m 112 #[.val (.int cc), .val (.int mm), .val (.long nn), .second, .val (.long bb), .second, .val (.long dd), .second, .val (.int sel), .val (.int x5), .val (.int x10), .val (.int x15), .val (.int x20), .val (.long x26), .second, .val (.ref b91), .unset, .unset] [(.int (4 : Int32)), (.int x5), (.long j109_s0), (.int j95_s0), (.int j79_s0), (.int j65_s0), (.ref b103), (.ref b103)])) (fun t k => XS.iconst X134.here hx rfl (hb hby at_111) k) ?_
  obtain ⟨j125_s0, qj125_s0⟩ : ∃ z : Int64, z = (if x5 = (4 : Int32) then (bb + dd) else bb) := ⟨_, rfl⟩
  suffices k138 : ∀ (T' : State) (locs' : List Loc), Stand p l e room_1 s m #[(.int cc), (.int mm), (.long nn), (.long bb), (.long dd), (.int sel)] below meth c T' locs' 2 14 → Fr n0 locs' → T'.heap = h103 → own_Go p.tables e below G (T'.setTop (mkF m 125 #[.val (.int cc), .val (.int mm), .val (.long nn), .second, .val (.long bb), .second, .val (.long dd), .second, .val (.int sel), .val (.int x5), .val (.int x10), .val (.int x15), .val (.int x20), .val (.long x26), .second, .val (.ref b91), .unset, .unset] [(.long j125_s0), (.long j109_s0), (.int j95_s0), (.int j79_s0), (.int j65_s0), (.ref b103), (.ref b103)])) by
    by_cases hc112 : x5 = (4 : Int32)
    · refine own_of (S' := T134.setTop (mkF m 115 #[.val (.int cc), .val (.int mm), .val (.long nn), .second, .val (.long bb), .second, .val (.long dd), .second, .val (.int sel), .val (.int x5), .val (.int x10), .val (.int x15), .val (.int x20), .val (.long x26), .second, .val (.ref b91), .unset, .unset] [(.long j109_s0), (.int j95_s0), (.int j79_s0), (.int j65_s0), (.ref b103), (.ref b103)])) (fun t k => XS.icmpNo X134.here hx rfl (hb hby at_112) rfl (teq hc112).2 k) ?_
      refine own_of (S' := T134.setTop (mkF m 117 #[.val (.int cc), .val (.int mm), .val (.long nn), .second, .val (.long bb), .second, .val (.long dd), .second, .val (.int sel), .val (.int x5), .val (.int x10), .val (.int x15), .val (.int x20), .val (.long x26), .second, .val (.ref b91), .unset, .unset] [(.long bb), (.long j109_s0), (.int j95_s0), (.int j79_s0), (.int j65_s0), (.ref b103), (.ref b103)])) (fun t k => XS.lload X134.here hx rfl (hb hby at_115) rfl k) ?_
      refine own_of (S' := T134.setTop (mkF m 119 #[.val (.int cc), .val (.int mm), .val (.long nn), .second, .val (.long bb), .second, .val (.long dd), .second, .val (.int sel), .val (.int x5), .val (.int x10), .val (.int x15), .val (.int x20), .val (.long x26), .second, .val (.ref b91), .unset, .unset] [(.long dd), (.long bb), (.long j109_s0), (.int j95_s0), (.int j79_s0), (.int j65_s0), (.ref b103), (.ref b103)])) (fun t k => XS.lload X134.here hx rfl (hb hby at_117) rfl k) ?_
      refine own_of (S' := T134.setTop (mkF m 120 #[.val (.int cc), .val (.int mm), .val (.long nn), .second, .val (.long bb), .second, .val (.long dd), .second, .val (.int sel), .val (.int x5), .val (.int x10), .val (.int x15), .val (.int x20), .val (.long x26), .second, .val (.ref b91), .unset, .unset] [(.long (bb + dd)), (.long j109_s0), (.int j95_s0), (.int j79_s0), (.int j65_s0), (.ref b103), (.ref b103)])) (fun t k => XS.ladd X134.here hx rfl (hb hby at_119) rfl k) ?_
      refine own_of (S' := T134.setTop (mkF m 125 #[.val (.int cc), .val (.int mm), .val (.long nn), .second, .val (.long bb), .second, .val (.long dd), .second, .val (.int sel), .val (.int x5), .val (.int x10), .val (.int x15), .val (.int x20), .val (.long x26), .second, .val (.ref b91), .unset, .unset] [(.long (bb + dd)), (.long j109_s0), (.int j95_s0), (.int j79_s0), (.int j65_s0), (.ref b103), (.ref b103)])) (fun t k => XS.goto X134.here hx rfl (pc0 := 120) (pc' := 125) rfl (hb hby at_120) (by decide) (by decide) k) ?_
      have jw139 : j125_s0 = ((bb + dd) : Int64) := qj125_s0.trans (if_pos hc112)
      rw [jw139] at k138
      exact k138 T134 _ X134 N134 e134
    · refine own_of (S' := T134.setTop (mkF m 123 #[.val (.int cc), .val (.int mm), .val (.long nn), .second, .val (.long bb), .second, .val (.long dd), .second, .val (.int sel), .val (.int x5), .val (.int x10), .val (.int x15), .val (.int x20), .val (.long x26), .second, .val (.ref b91), .unset, .unset] [(.long j109_s0), (.int j95_s0), (.int j79_s0), (.int j65_s0), (.ref b103), (.ref b103)])) (fun t k => XS.icmpYes X134.here hx rfl (pc0 := 112) (pc' := 123) rfl (hb hby at_112) rfl (feq hc112).2 (by decide) (by decide) k) ?_
      refine own_of (S' := T134.setTop (mkF m 125 #[.val (.int cc), .val (.int mm), .val (.long nn), .second, .val (.long bb), .second, .val (.long dd), .second, .val (.int sel), .val (.int x5), .val (.int x10), .val (.int x15), .val (.int x20), .val (.long x26), .second, .val (.ref b91), .unset, .unset] [(.long bb), (.long j109_s0), (.int j95_s0), (.int j79_s0), (.int j65_s0), (.ref b103), (.ref b103)])) (fun t k => XS.lload X134.here hx rfl (hb hby at_123) rfl k) ?_
      have jw140 : j125_s0 = (bb : Int64) := qj125_s0.trans (if_neg hc112)
      rw [jw140] at k138
      exact k138 T134 _ X134 N134 e134
  intro T138 locs138 X138 N138 e138
  refine own_of (S' := T138.setTop (mkF m 127 #[.val (.int cc), .val (.int mm), .val (.long nn), .second, .val (.long bb), .second, .val (.long dd), .second, .val (.int sel), .val (.int x5), .val (.int x10), .val (.int x15), .val (.int x20), .val (.long x26), .second, .val (.ref b91), .unset, .unset] [(.int x5), (.long j125_s0), (.long j109_s0), (.int j95_s0), (.int j79_s0), (.int j65_s0), (.ref b103), (.ref b103)])) (fun t k => XS.iload X138.here hx rfl (hb hby at_125) rfl k) ?_
  refine own_of (S' := T138.setTop (mkF m 128 #[.val (.int cc), .val (.int mm), .val (.long nn), .second, .val (.long bb), .second, .val (.long dd), .second, .val (.int sel), .val (.int x5), .val (.int x10), .val (.int x15), .val (.int x20), .val (.long x26), .second, .val (.ref b91), .unset, .unset] [(.int (5 : Int32)), (.int x5), (.long j125_s0), (.long j109_s0), (.int j95_s0), (.int j79_s0), (.int j65_s0), (.ref b103), (.ref b103)])) (fun t k => XS.iconst X138.here hx rfl (hb hby at_127) k) ?_
  obtain ⟨j141_s0, qj141_s0⟩ : ∃ z : Int32, z = (if x5 = (5 : Int32) then (x20 + x10) else x20) := ⟨_, rfl⟩
  suffices k142 : ∀ (T' : State) (locs' : List Loc), Stand p l e room_1 s m #[(.int cc), (.int mm), (.long nn), (.long bb), (.long dd), (.int sel)] below meth c T' locs' 2 14 → Fr n0 locs' → T'.heap = h103 → own_Go p.tables e below G (T'.setTop (mkF m 141 #[.val (.int cc), .val (.int mm), .val (.long nn), .second, .val (.long bb), .second, .val (.long dd), .second, .val (.int sel), .val (.int x5), .val (.int x10), .val (.int x15), .val (.int x20), .val (.long x26), .second, .val (.ref b91), .unset, .unset] [(.int j141_s0), (.long j125_s0), (.long j109_s0), (.int j95_s0), (.int j79_s0), (.int j65_s0), (.ref b103), (.ref b103)])) by
    by_cases hc128 : x5 = (5 : Int32)
    · refine own_of (S' := T138.setTop (mkF m 131 #[.val (.int cc), .val (.int mm), .val (.long nn), .second, .val (.long bb), .second, .val (.long dd), .second, .val (.int sel), .val (.int x5), .val (.int x10), .val (.int x15), .val (.int x20), .val (.long x26), .second, .val (.ref b91), .unset, .unset] [(.long j125_s0), (.long j109_s0), (.int j95_s0), (.int j79_s0), (.int j65_s0), (.ref b103), (.ref b103)])) (fun t k => XS.icmpNo X138.here hx rfl (hb hby at_128) rfl (teq hc128).2 k) ?_
      refine own_of (S' := T138.setTop (mkF m 133 #[.val (.int cc), .val (.int mm), .val (.long nn), .second, .val (.long bb), .second, .val (.long dd), .second, .val (.int sel), .val (.int x5), .val (.int x10), .val (.int x15), .val (.int x20), .val (.long x26), .second, .val (.ref b91), .unset, .unset] [(.int x20), (.long j125_s0), (.long j109_s0), (.int j95_s0), (.int j79_s0), (.int j65_s0), (.ref b103), (.ref b103)])) (fun t k => XS.iload X138.here hx rfl (hb hby at_131) rfl k) ?_
      refine own_of (S' := T138.setTop (mkF m 135 #[.val (.int cc), .val (.int mm), .val (.long nn), .second, .val (.long bb), .second, .val (.long dd), .second, .val (.int sel), .val (.int x5), .val (.int x10), .val (.int x15), .val (.int x20), .val (.long x26), .second, .val (.ref b91), .unset, .unset] [(.int x10), (.int x20), (.long j125_s0), (.long j109_s0), (.int j95_s0), (.int j79_s0), (.int j65_s0), (.ref b103), (.ref b103)])) (fun t k => XS.iload X138.here hx rfl (hb hby at_133) rfl k) ?_
      refine own_of (S' := T138.setTop (mkF m 136 #[.val (.int cc), .val (.int mm), .val (.long nn), .second, .val (.long bb), .second, .val (.long dd), .second, .val (.int sel), .val (.int x5), .val (.int x10), .val (.int x15), .val (.int x20), .val (.long x26), .second, .val (.ref b91), .unset, .unset] [(.int (x20 + x10)), (.long j125_s0), (.long j109_s0), (.int j95_s0), (.int j79_s0), (.int j65_s0), (.ref b103), (.ref b103)])) (fun t k => XS.iadd X138.here hx rfl (hb hby at_135) rfl k) ?_
      refine own_of (S' := T138.setTop (mkF m 141 #[.val (.int cc), .val (.int mm), .val (.long nn), .second, .val (.long bb), .second, .val (.long dd), .second, .val (.int sel), .val (.int x5), .val (.int x10), .val (.int x15), .val (.int x20), .val (.long x26), .second, .val (.ref b91), .unset, .unset] [(.int (x20 + x10)), (.long j125_s0), (.long j109_s0), (.int j95_s0), (.int j79_s0), (.int j65_s0), (.ref b103), (.ref b103)])) (fun t k => XS.goto X138.here hx rfl (pc0 := 136) (pc' := 141) rfl (hb hby at_136) (by decide) (by decide) k) ?_
      have jw143 : j141_s0 = ((x20 + x10) : Int32) := qj141_s0.trans (if_pos hc128)
      rw [jw143] at k142
      exact k142 T138 _ X138 N138 e138
    · refine own_of (S' := T138.setTop (mkF m 139 #[.val (.int cc), .val (.int mm), .val (.long nn), .second, .val (.long bb), .second, .val (.long dd), .second, .val (.int sel), .val (.int x5), .val (.int x10), .val (.int x15), .val (.int x20), .val (.long x26), .second, .val (.ref b91), .unset, .unset] [(.long j125_s0), (.long j109_s0), (.int j95_s0), (.int j79_s0), (.int j65_s0), (.ref b103), (.ref b103)])) (fun t k => XS.icmpYes X138.here hx rfl (pc0 := 128) (pc' := 139) rfl (hb hby at_128) rfl (feq hc128).2 (by decide) (by decide) k) ?_
      refine own_of (S' := T138.setTop (mkF m 141 #[.val (.int cc), .val (.int mm), .val (.long nn), .second, .val (.long bb), .second, .val (.long dd), .second, .val (.int sel), .val (.int x5), .val (.int x10), .val (.int x15), .val (.int x20), .val (.long x26), .second, .val (.ref b91), .unset, .unset] [(.int x20), (.long j125_s0), (.long j109_s0), (.int j95_s0), (.int j79_s0), (.int j65_s0), (.ref b103), (.ref b103)])) (fun t k => XS.iload X138.here hx rfl (hb hby at_139) rfl k) ?_
      have jw144 : j141_s0 = (x20 : Int32) := qj141_s0.trans (if_neg hc128)
      rw [jw144] at k142
      exact k142 T138 _ X138 N138 e138
  intro T142 locs142 X142 N142 e142
  refine own_of (S' := T142.setTop (mkF m 143 #[.val (.int cc), .val (.int mm), .val (.long nn), .second, .val (.long bb), .second, .val (.long dd), .second, .val (.int sel), .val (.int x5), .val (.int x10), .val (.int x15), .val (.int x20), .val (.long x26), .second, .val (.ref b91), .unset, .unset] [(.int x5), (.int j141_s0), (.long j125_s0), (.long j109_s0), (.int j95_s0), (.int j79_s0), (.int j65_s0), (.ref b103), (.ref b103)])) (fun t k => XS.iload X142.here hx rfl (hb hby at_141) rfl k) ?_
  refine own_of (S' := T142.setTop (mkF m 145 #[.val (.int cc), .val (.int mm), .val (.long nn), .second, .val (.long bb), .second, .val (.long dd), .second, .val (.int sel), .val (.int x5), .val (.int x10), .val (.int x15), .val (.int x20), .val (.long x26), .second, .val (.ref b91), .unset, .unset] [(.int (6 : Int32)), (.int x5), (.int j141_s0), (.long j125_s0), (.long j109_s0), (.int j95_s0), (.int j79_s0), (.int j65_s0), (.ref b103), (.ref b103)])) (fun t k => XS.bipush X142.here hx rfl (hb hby at_143) k) ?_
  obtain ⟨j158_s0, qj158_s0⟩ : ∃ z : Int64, z = (if x5 = (6 : Int32) then (x26 + dd) else x26) := ⟨_, rfl⟩
  suffices k146 : ∀ (T' : State) (locs' : List Loc), Stand p l e room_1 s m #[(.int cc), (.int mm), (.long nn), (.long bb), (.long dd), (.int sel)] below meth c T' locs' 2 14 → Fr n0 locs' → T'.heap = h103 → own_Go p.tables e below G (T'.setTop (mkF m 158 #[.val (.int cc), .val (.int mm), .val (.long nn), .second, .val (.long bb), .second, .val (.long dd), .second, .val (.int sel), .val (.int x5), .val (.int x10), .val (.int x15), .val (.int x20), .val (.long x26), .second, .val (.ref b91), .unset, .unset] [(.long j158_s0), (.int j141_s0), (.long j125_s0), (.long j109_s0), (.int j95_s0), (.int j79_s0), (.int j65_s0), (.ref b103), (.ref b103)])) by
    by_cases hc145 : x5 = (6 : Int32)
    · refine own_of (S' := T142.setTop (mkF m 148 #[.val (.int cc), .val (.int mm), .val (.long nn), .second, .val (.long bb), .second, .val (.long dd), .second, .val (.int sel), .val (.int x5), .val (.int x10), .val (.int x15), .val (.int x20), .val (.long x26), .second, .val (.ref b91), .unset, .unset] [(.int j141_s0), (.long j125_s0), (.long j109_s0), (.int j95_s0), (.int j79_s0), (.int j65_s0), (.ref b103), (.ref b103)])) (fun t k => XS.icmpNo X142.here hx rfl (hb hby at_145) rfl (teq hc145).2 k) ?_
      refine own_of (S' := T142.setTop (mkF m 150 #[.val (.int cc), .val (.int mm), .val (.long nn), .second, .val (.long bb), .second, .val (.long dd), .second, .val (.int sel), .val (.int x5), .val (.int x10), .val (.int x15), .val (.int x20), .val (.long x26), .second, .val (.ref b91), .unset, .unset] [(.long x26), (.int j141_s0), (.long j125_s0), (.long j109_s0), (.int j95_s0), (.int j79_s0), (.int j65_s0), (.ref b103), (.ref b103)])) (fun t k => XS.lload X142.here hx rfl (hb hby at_148) rfl k) ?_
      refine own_of (S' := T142.setTop (mkF m 152 #[.val (.int cc), .val (.int mm), .val (.long nn), .second, .val (.long bb), .second, .val (.long dd), .second, .val (.int sel), .val (.int x5), .val (.int x10), .val (.int x15), .val (.int x20), .val (.long x26), .second, .val (.ref b91), .unset, .unset] [(.long dd), (.long x26), (.int j141_s0), (.long j125_s0), (.long j109_s0), (.int j95_s0), (.int j79_s0), (.int j65_s0), (.ref b103), (.ref b103)])) (fun t k => XS.lload X142.here hx rfl (hb hby at_150) rfl k) ?_
      refine own_of (S' := T142.setTop (mkF m 153 #[.val (.int cc), .val (.int mm), .val (.long nn), .second, .val (.long bb), .second, .val (.long dd), .second, .val (.int sel), .val (.int x5), .val (.int x10), .val (.int x15), .val (.int x20), .val (.long x26), .second, .val (.ref b91), .unset, .unset] [(.long (x26 + dd)), (.int j141_s0), (.long j125_s0), (.long j109_s0), (.int j95_s0), (.int j79_s0), (.int j65_s0), (.ref b103), (.ref b103)])) (fun t k => XS.ladd X142.here hx rfl (hb hby at_152) rfl k) ?_
      refine own_of (S' := T142.setTop (mkF m 158 #[.val (.int cc), .val (.int mm), .val (.long nn), .second, .val (.long bb), .second, .val (.long dd), .second, .val (.int sel), .val (.int x5), .val (.int x10), .val (.int x15), .val (.int x20), .val (.long x26), .second, .val (.ref b91), .unset, .unset] [(.long (x26 + dd)), (.int j141_s0), (.long j125_s0), (.long j109_s0), (.int j95_s0), (.int j79_s0), (.int j65_s0), (.ref b103), (.ref b103)])) (fun t k => XS.goto X142.here hx rfl (pc0 := 153) (pc' := 158) rfl (hb hby at_153) (by decide) (by decide) k) ?_
      have jw147 : j158_s0 = ((x26 + dd) : Int64) := qj158_s0.trans (if_pos hc145)
      rw [jw147] at k146
      exact k146 T142 _ X142 N142 e142
    · refine own_of (S' := T142.setTop (mkF m 156 #[.val (.int cc), .val (.int mm), .val (.long nn), .second, .val (.long bb), .second, .val (.long dd), .second, .val (.int sel), .val (.int x5), .val (.int x10), .val (.int x15), .val (.int x20), .val (.long x26), .second, .val (.ref b91), .unset, .unset] [(.int j141_s0), (.long j125_s0), (.long j109_s0), (.int j95_s0), (.int j79_s0), (.int j65_s0), (.ref b103), (.ref b103)])) (fun t k => XS.icmpYes X142.here hx rfl (pc0 := 145) (pc' := 156) rfl (hb hby at_145) rfl (feq hc145).2 (by decide) (by decide) k) ?_
      refine own_of (S' := T142.setTop (mkF m 158 #[.val (.int cc), .val (.int mm), .val (.long nn), .second, .val (.long bb), .second, .val (.long dd), .second, .val (.int sel), .val (.int x5), .val (.int x10), .val (.int x15), .val (.int x20), .val (.long x26), .second, .val (.ref b91), .unset, .unset] [(.long x26), (.int j141_s0), (.long j125_s0), (.long j109_s0), (.int j95_s0), (.int j79_s0), (.int j65_s0), (.ref b103), (.ref b103)])) (fun t k => XS.lload X142.here hx rfl (hb hby at_156) rfl k) ?_
      have jw148 : j158_s0 = (x26 : Int64) := qj158_s0.trans (if_neg hc145)
      rw [jw148] at k146
      exact k146 T142 _ X142 N142 e142
  intro T146 locs146 X146 N146 e146
  obtain ⟨_, _, ⟨T149, L149, k149, n149⟩, -, X149, ⟨Lc149, hQ149, l149, y149, z149⟩, st149⟩ := X146.specialBack hx (y := (⟨"com/example/firstlight/firstlight/SegmentFile$Header", "<init>", "(IIIJJIJ)V"⟩ : MethodName)) rfl hown (mvT hZ (hw _ (List.mem_of_getElem? (i := 3) rfl))) (mvT hZ (hw _ (List.mem_of_getElem? (i := 4) rfl))) (mvT hZ (hw _ (List.mem_of_getElem? (i := 5) rfl))) (by decide) (backOf (W := 1) (own_rm2 l Z _ hw [] b103 j65_s0 j79_s0 j95_s0 j109_s0 j125_s0 j141_s0 j158_s0 h103 n0 A103 f113 f114 f115 f116 f117 f118 f119 g_b103) hZ (hw _ (List.mem_of_getElem? (i := 5) rfl)) (hw _ (List.mem_of_getElem? (i := 2) rfl)) (by decide) (by decide)) (g := (mkF m 158 #[.val (.int cc), .val (.int mm), .val (.long nn), .second, .val (.long bb), .second, .val (.long dd), .second, .val (.int sel), .val (.int x5), .val (.int x10), .val (.int x15), .val (.int x20), .val (.long x26), .second, .val (.ref b91), .unset, .unset] [(.long j158_s0), (.int j141_s0), (.long j125_s0), (.long j109_s0), (.int j95_s0), (.int j79_s0), (.int j65_s0), (.ref b103), (.ref b103)])) rfl (by rw [hml]; rfl) (Steps.refl _) (a := b103) (argsL := [(.int j65_s0), (.int j79_s0), (.int j95_s0), (.long j109_s0), (.long j125_s0), (.int j141_s0), (.long j158_s0)]) (rest := [(.ref b103)]) (lenOf own_pd1 rfl) rfl (by show 2 * 0 + _ ≤ _; exact Nat.le_of_eq rfl) (hb hby at_158) (fun _ _ => ⟨rfl, e146, (by decide : 2 + 0 ≤ _), (by decide : 14 + 0 ≤ _)⟩)
  dsimp only [Pt.U, Pt.locs, Pt.cells, Pt.slots] at X149 l149 y149 z149 st149 hQ149
  subst l149 y149 z149
  obtain ⟨rfl, M149, K149, p149_0, p149_1, p149_2, p149_3, p149_4, p149_5, p149_6, p149_7⟩ := hQ149
  have f150 : Exa Z T149.heap b91 "com/example/firstlight/firstlight/SegmentFile$Header" := (f105.keep K149)
  have f151 : Fld Z T149.heap b91 "com/example/firstlight/firstlight/SegmentFile$Header" "capacity" "I" (.int cc) := (f106.keep K149 (ninS ne104 nin0))
  have f152 : Fld Z T149.heap b91 "com/example/firstlight/firstlight/SegmentFile$Header" "maxSegments" "I" (.int mm) := (f107.keep K149 (ninS ne104 nin0))
  have f153 : Fld Z T149.heap b91 "com/example/firstlight/firstlight/SegmentFile$Header" "rule" "I" (.int x15) := (f108.keep K149 (ninS ne104 nin0))
  have f154 : Fld Z T149.heap b91 "com/example/firstlight/firstlight/SegmentFile$Header" "number" "J" (.long nn) := (f109.keep K149 (ninS ne104 nin0))
  have f155 : Fld Z T149.heap b91 "com/example/firstlight/firstlight/SegmentFile$Header" "base" "J" (.long bb) := (f110.keep K149 (ninS ne104 nin0))
  have f156 : Fld Z T149.heap b91 "com/example/firstlight/firstlight/SegmentFile$Header" "documents" "I" (.int x20) := (f111.keep K149 (ninS ne104 nin0))
  have f157 : Fld Z T149.heap b91 "com/example/firstlight/firstlight/SegmentFile$Header" "length" "J" (.long x26) := (f112.keep K149 (ninS ne104 nin0))
  have f158 : Exa Z T149.heap b103 "com/example/firstlight/firstlight/SegmentFile$Header" := (A103.keep K149)
  have z159 : n0 ≤ T149.heap.size := Nat.le_trans z120 K149.1
  have N149 := Fr.app N146 M149
  refine own_of (S' := T149.setTop (mkF m 161 #[.val (.int cc), .val (.int mm), .val (.long nn), .second, .val (.long bb), .second, .val (.long dd), .second, .val (.int sel), .val (.int x5), .val (.int x10), .val (.int x15), .val (.int x20), .val (.long x26), .second, .val (.ref b91), .unset, .unset] [(.ref b103)])) (fun t k => st149.trans k) ?_
  refine own_of (S' := T149.setTop (mkF m 163 #[.val (.int cc), .val (.int mm), .val (.long nn), .second, .val (.long bb), .second, .val (.long dd), .second, .val (.int sel), .val (.int x5), .val (.int x10), .val (.int x15), .val (.int x20), .val (.long x26), .second, .val (.ref b91), .val (.ref b103), .unset] [])) (fun t k => XS.astore X149.here hx rfl (hb hby at_161) rfl rfl (l' := #[.val (.int cc), .val (.int mm), .val (.long nn), .second, .val (.long bb), .second, .val (.long dd), .second, .val (.int sel), .val (.int x5), .val (.int x10), .val (.int x15), .val (.int x20), .val (.long x26), .second, .val (.ref b91), .val (.ref b103), .unset]) rfl k) ?_
  refine own_of (S' := T149.setTop (mkF m 165 #[.val (.int cc), .val (.int mm), .val (.long nn), .second, .val (.long bb), .second, .val (.long dd), .second, .val (.int sel), .val (.int x5), .val (.int x10), .val (.int x15), .val (.int x20), .val (.long x26), .second, .val (.ref b91), .val (.ref b103), .unset] [(.int x5)])) (fun t k => XS.iload X149.here hx rfl (hb hby at_163) rfl k) ?_
  refine own_of (S' := T149.setTop (mkF m 166 #[.val (.int cc), .val (.int mm), .val (.long nn), .second, .val (.long bb), .second, .val (.long dd), .second, .val (.int sel), .val (.int x5), .val (.int x10), .val (.int x15), .val (.int x20), .val (.long x26), .second, .val (.ref b91), .val (.ref b103), .unset] [(.int (3 : Int32)), (.int x5)])) (fun t k => XS.iconst X149.here hx rfl (hb hby at_165) k) ?_
  obtain ⟨j217_l17, qj217_l17⟩ : ∃ z : Int32, z = (if x5 = (3 : Int32) then (if dd = (0 : Int64) then (1 : Int32) else (0 : Int32)) else (if x5 = (4 : Int32) then (if dd = (0 : Int64) then (1 : Int32) else (0 : Int32)) else (if x5 < (6 : Int32) then (if x10 = (0 : Int32) then (1 : Int32) else (0 : Int32)) else (1 : Int32)))) := ⟨_, rfl⟩
  suffices k166 : ∀ (T' : State) (locs' : List Loc), Stand p l e room_1 s m #[(.int cc), (.int mm), (.long nn), (.long bb), (.long dd), (.int sel)] below meth c T' locs' 2 14 → Fr n0 locs' → T'.heap = T149.heap → own_Go p.tables e below G (T'.setTop (mkF m 217 #[.val (.int cc), .val (.int mm), .val (.long nn), .second, .val (.long bb), .second, .val (.long dd), .second, .val (.int sel), .val (.int x5), .val (.int x10), .val (.int x15), .val (.int x20), .val (.long x26), .second, .val (.ref b91), .val (.ref b103), .val (.int j217_l17)] [])) by
    by_cases hc166 : x5 = (3 : Int32)
    · refine own_of (S' := T149.setTop (mkF m 175 #[.val (.int cc), .val (.int mm), .val (.long nn), .second, .val (.long bb), .second, .val (.long dd), .second, .val (.int sel), .val (.int x5), .val (.int x10), .val (.int x15), .val (.int x20), .val (.long x26), .second, .val (.ref b91), .val (.ref b103), .unset] [])) (fun t k => XS.icmpYes X149.here hx rfl (pc0 := 166) (pc' := 175) rfl (hb hby at_166) rfl (teq hc166).1 (by decide) (by decide) k) ?_
      refine own_of (S' := T149.setTop (mkF m 177 #[.val (.int cc), .val (.int mm), .val (.long nn), .second, .val (.long bb), .second, .val (.long dd), .second, .val (.int sel), .val (.int x5), .val (.int x10), .val (.int x15), .val (.int x20), .val (.long x26), .second, .val (.ref b91), .val (.ref b103), .unset] [(.long dd)])) (fun t k => XS.lload X149.here hx rfl (hb hby at_175) rfl k) ?_
      refine own_of (S' := T149.setTop (mkF m 178 #[.val (.int cc), .val (.int mm), .val (.long nn), .second, .val (.long bb), .second, .val (.long dd), .second, .val (.int sel), .val (.int x5), .val (.int x10), .val (.int x15), .val (.int x20), .val (.long x26), .second, .val (.ref b91), .val (.ref b103), .unset] [(.long (0 : Int64)), (.long dd)])) (fun t k => XS.lconst X149.here hx rfl (hb hby at_177) k) ?_
      refine own_of (S' := T149.setTop (mkF m 179 #[.val (.int cc), .val (.int mm), .val (.long nn), .second, .val (.long bb), .second, .val (.long dd), .second, .val (.int sel), .val (.int x5), .val (.int x10), .val (.int x15), .val (.int x20), .val (.long x26), .second, .val (.ref b91), .val (.ref b103), .unset] [(.int (lcmpW dd (0 : Int64)))])) (fun t k => XS.lcmp X149.here hx rfl (hb hby at_178) rfl k) ?_
      by_cases hc179 : dd = (0 : Int64)
      · refine own_of (S' := T149.setTop (mkF m 182 #[.val (.int cc), .val (.int mm), .val (.long nn), .second, .val (.long bb), .second, .val (.long dd), .second, .val (.int sel), .val (.int x5), .val (.int x10), .val (.int x15), .val (.int x20), .val (.long x26), .second, .val (.ref b91), .val (.ref b103), .unset] [])) (fun t k => XS.ifNo X149.here hx rfl (hb hby at_179) rfl ((if0 _ _).trans (teq ((lw_eq dd (0 : Int64)).mpr hc179)).2) k) ?_
        refine own_of (S' := T149.setTop (mkF m 183 #[.val (.int cc), .val (.int mm), .val (.long nn), .second, .val (.long bb), .second, .val (.long dd), .second, .val (.int sel), .val (.int x5), .val (.int x10), .val (.int x15), .val (.int x20), .val (.long x26), .second, .val (.ref b91), .val (.ref b103), .unset] [(.int (1 : Int32))])) (fun t k => XS.iconst X149.here hx rfl (hb hby at_182) k) ?_
        refine own_of (S' := T149.setTop (mkF m 187 #[.val (.int cc), .val (.int mm), .val (.long nn), .second, .val (.long bb), .second, .val (.long dd), .second, .val (.int sel), .val (.int x5), .val (.int x10), .val (.int x15), .val (.int x20), .val (.long x26), .second, .val (.ref b91), .val (.ref b103), .unset] [(.int (1 : Int32))])) (fun t k => XS.goto X149.here hx rfl (pc0 := 183) (pc' := 187) rfl (hb hby at_183) (by decide) (by decide) k) ?_
        refine own_of (S' := T149.setTop (mkF m 189 #[.val (.int cc), .val (.int mm), .val (.long nn), .second, .val (.long bb), .second, .val (.long dd), .second, .val (.int sel), .val (.int x5), .val (.int x10), .val (.int x15), .val (.int x20), .val (.long x26), .second, .val (.ref b91), .val (.ref b103), .val (.int (1 : Int32))] [])) (fun t k => XS.istore X149.here hx rfl (hb hby at_187) rfl (l' := #[.val (.int cc), .val (.int mm), .val (.long nn), .second, .val (.long bb), .second, .val (.long dd), .second, .val (.int sel), .val (.int x5), .val (.int x10), .val (.int x15), .val (.int x20), .val (.long x26), .second, .val (.ref b91), .val (.ref b103), .val (.int (1 : Int32))]) rfl k) ?_
        refine own_of (S' := T149.setTop (mkF m 217 #[.val (.int cc), .val (.int mm), .val (.long nn), .second, .val (.long bb), .second, .val (.long dd), .second, .val (.int sel), .val (.int x5), .val (.int x10), .val (.int x15), .val (.int x20), .val (.long x26), .second, .val (.ref b91), .val (.ref b103), .val (.int (1 : Int32))] [])) (fun t k => XS.goto X149.here hx rfl (pc0 := 189) (pc' := 217) rfl (hb hby at_189) (by decide) (by decide) k) ?_
        have jw167 : j217_l17 = ((1 : Int32) : Int32) := qj217_l17.trans ((if_pos hc166).trans (if_pos hc179))
        rw [jw167] at k166
        exact k166 T149 _ X149 N149 rfl
      · refine own_of (S' := T149.setTop (mkF m 186 #[.val (.int cc), .val (.int mm), .val (.long nn), .second, .val (.long bb), .second, .val (.long dd), .second, .val (.int sel), .val (.int x5), .val (.int x10), .val (.int x15), .val (.int x20), .val (.long x26), .second, .val (.ref b91), .val (.ref b103), .unset] [])) (fun t k => XS.ifYes X149.here hx rfl (pc0 := 179) (pc' := 186) rfl (hb hby at_179) rfl ((if0 _ _).trans (feq (fun q => hc179 ((lw_eq dd (0 : Int64)).mp q))).2) (by decide) (by decide) k) ?_
        refine own_of (S' := T149.setTop (mkF m 187 #[.val (.int cc), .val (.int mm), .val (.long nn), .second, .val (.long bb), .second, .val (.long dd), .second, .val (.int sel), .val (.int x5), .val (.int x10), .val (.int x15), .val (.int x20), .val (.long x26), .second, .val (.ref b91), .val (.ref b103), .unset] [(.int (0 : Int32))])) (fun t k => XS.iconst X149.here hx rfl (hb hby at_186) k) ?_
        refine own_of (S' := T149.setTop (mkF m 189 #[.val (.int cc), .val (.int mm), .val (.long nn), .second, .val (.long bb), .second, .val (.long dd), .second, .val (.int sel), .val (.int x5), .val (.int x10), .val (.int x15), .val (.int x20), .val (.long x26), .second, .val (.ref b91), .val (.ref b103), .val (.int (0 : Int32))] [])) (fun t k => XS.istore X149.here hx rfl (hb hby at_187) rfl (l' := #[.val (.int cc), .val (.int mm), .val (.long nn), .second, .val (.long bb), .second, .val (.long dd), .second, .val (.int sel), .val (.int x5), .val (.int x10), .val (.int x15), .val (.int x20), .val (.long x26), .second, .val (.ref b91), .val (.ref b103), .val (.int (0 : Int32))]) rfl k) ?_
        refine own_of (S' := T149.setTop (mkF m 217 #[.val (.int cc), .val (.int mm), .val (.long nn), .second, .val (.long bb), .second, .val (.long dd), .second, .val (.int sel), .val (.int x5), .val (.int x10), .val (.int x15), .val (.int x20), .val (.long x26), .second, .val (.ref b91), .val (.ref b103), .val (.int (0 : Int32))] [])) (fun t k => XS.goto X149.here hx rfl (pc0 := 189) (pc' := 217) rfl (hb hby at_189) (by decide) (by decide) k) ?_
        have jw168 : j217_l17 = ((0 : Int32) : Int32) := qj217_l17.trans ((if_pos hc166).trans (if_neg hc179))
        rw [jw168] at k166
        exact k166 T149 _ X149 N149 rfl
    · refine own_of (S' := T149.setTop (mkF m 169 #[.val (.int cc), .val (.int mm), .val (.long nn), .second, .val (.long bb), .second, .val (.long dd), .second, .val (.int sel), .val (.int x5), .val (.int x10), .val (.int x15), .val (.int x20), .val (.long x26), .second, .val (.ref b91), .val (.ref b103), .unset] [])) (fun t k => XS.icmpNo X149.here hx rfl (hb hby at_166) rfl (feq hc166).1 k) ?_
      refine own_of (S' := T149.setTop (mkF m 171 #[.val (.int cc), .val (.int mm), .val (.long nn), .second, .val (.long bb), .second, .val (.long dd), .second, .val (.int sel), .val (.int x5), .val (.int x10), .val (.int x15), .val (.int x20), .val (.long x26), .second, .val (.ref b91), .val (.ref b103), .unset] [(.int x5)])) (fun t k => XS.iload X149.here hx rfl (hb hby at_169) rfl k) ?_
      refine own_of (S' := T149.setTop (mkF m 172 #[.val (.int cc), .val (.int mm), .val (.long nn), .second, .val (.long bb), .second, .val (.long dd), .second, .val (.int sel), .val (.int x5), .val (.int x10), .val (.int x15), .val (.int x20), .val (.long x26), .second, .val (.ref b91), .val (.ref b103), .unset] [(.int (4 : Int32)), (.int x5)])) (fun t k => XS.iconst X149.here hx rfl (hb hby at_171) k) ?_
      by_cases hc172 : x5 = (4 : Int32)
      · refine own_of (S' := T149.setTop (mkF m 175 #[.val (.int cc), .val (.int mm), .val (.long nn), .second, .val (.long bb), .second, .val (.long dd), .second, .val (.int sel), .val (.int x5), .val (.int x10), .val (.int x15), .val (.int x20), .val (.long x26), .second, .val (.ref b91), .val (.ref b103), .unset] [])) (fun t k => XS.icmpNo X149.here hx rfl (hb hby at_172) rfl (teq hc172).2 k) ?_
        refine own_of (S' := T149.setTop (mkF m 177 #[.val (.int cc), .val (.int mm), .val (.long nn), .second, .val (.long bb), .second, .val (.long dd), .second, .val (.int sel), .val (.int x5), .val (.int x10), .val (.int x15), .val (.int x20), .val (.long x26), .second, .val (.ref b91), .val (.ref b103), .unset] [(.long dd)])) (fun t k => XS.lload X149.here hx rfl (hb hby at_175) rfl k) ?_
        refine own_of (S' := T149.setTop (mkF m 178 #[.val (.int cc), .val (.int mm), .val (.long nn), .second, .val (.long bb), .second, .val (.long dd), .second, .val (.int sel), .val (.int x5), .val (.int x10), .val (.int x15), .val (.int x20), .val (.long x26), .second, .val (.ref b91), .val (.ref b103), .unset] [(.long (0 : Int64)), (.long dd)])) (fun t k => XS.lconst X149.here hx rfl (hb hby at_177) k) ?_
        refine own_of (S' := T149.setTop (mkF m 179 #[.val (.int cc), .val (.int mm), .val (.long nn), .second, .val (.long bb), .second, .val (.long dd), .second, .val (.int sel), .val (.int x5), .val (.int x10), .val (.int x15), .val (.int x20), .val (.long x26), .second, .val (.ref b91), .val (.ref b103), .unset] [(.int (lcmpW dd (0 : Int64)))])) (fun t k => XS.lcmp X149.here hx rfl (hb hby at_178) rfl k) ?_
        by_cases hc179 : dd = (0 : Int64)
        · refine own_of (S' := T149.setTop (mkF m 182 #[.val (.int cc), .val (.int mm), .val (.long nn), .second, .val (.long bb), .second, .val (.long dd), .second, .val (.int sel), .val (.int x5), .val (.int x10), .val (.int x15), .val (.int x20), .val (.long x26), .second, .val (.ref b91), .val (.ref b103), .unset] [])) (fun t k => XS.ifNo X149.here hx rfl (hb hby at_179) rfl ((if0 _ _).trans (teq ((lw_eq dd (0 : Int64)).mpr hc179)).2) k) ?_
          refine own_of (S' := T149.setTop (mkF m 183 #[.val (.int cc), .val (.int mm), .val (.long nn), .second, .val (.long bb), .second, .val (.long dd), .second, .val (.int sel), .val (.int x5), .val (.int x10), .val (.int x15), .val (.int x20), .val (.long x26), .second, .val (.ref b91), .val (.ref b103), .unset] [(.int (1 : Int32))])) (fun t k => XS.iconst X149.here hx rfl (hb hby at_182) k) ?_
          refine own_of (S' := T149.setTop (mkF m 187 #[.val (.int cc), .val (.int mm), .val (.long nn), .second, .val (.long bb), .second, .val (.long dd), .second, .val (.int sel), .val (.int x5), .val (.int x10), .val (.int x15), .val (.int x20), .val (.long x26), .second, .val (.ref b91), .val (.ref b103), .unset] [(.int (1 : Int32))])) (fun t k => XS.goto X149.here hx rfl (pc0 := 183) (pc' := 187) rfl (hb hby at_183) (by decide) (by decide) k) ?_
          refine own_of (S' := T149.setTop (mkF m 189 #[.val (.int cc), .val (.int mm), .val (.long nn), .second, .val (.long bb), .second, .val (.long dd), .second, .val (.int sel), .val (.int x5), .val (.int x10), .val (.int x15), .val (.int x20), .val (.long x26), .second, .val (.ref b91), .val (.ref b103), .val (.int (1 : Int32))] [])) (fun t k => XS.istore X149.here hx rfl (hb hby at_187) rfl (l' := #[.val (.int cc), .val (.int mm), .val (.long nn), .second, .val (.long bb), .second, .val (.long dd), .second, .val (.int sel), .val (.int x5), .val (.int x10), .val (.int x15), .val (.int x20), .val (.long x26), .second, .val (.ref b91), .val (.ref b103), .val (.int (1 : Int32))]) rfl k) ?_
          refine own_of (S' := T149.setTop (mkF m 217 #[.val (.int cc), .val (.int mm), .val (.long nn), .second, .val (.long bb), .second, .val (.long dd), .second, .val (.int sel), .val (.int x5), .val (.int x10), .val (.int x15), .val (.int x20), .val (.long x26), .second, .val (.ref b91), .val (.ref b103), .val (.int (1 : Int32))] [])) (fun t k => XS.goto X149.here hx rfl (pc0 := 189) (pc' := 217) rfl (hb hby at_189) (by decide) (by decide) k) ?_
          have jw169 : j217_l17 = ((1 : Int32) : Int32) := qj217_l17.trans ((if_neg hc166).trans ((if_pos hc172).trans (if_pos hc179)))
          rw [jw169] at k166
          exact k166 T149 _ X149 N149 rfl
        · refine own_of (S' := T149.setTop (mkF m 186 #[.val (.int cc), .val (.int mm), .val (.long nn), .second, .val (.long bb), .second, .val (.long dd), .second, .val (.int sel), .val (.int x5), .val (.int x10), .val (.int x15), .val (.int x20), .val (.long x26), .second, .val (.ref b91), .val (.ref b103), .unset] [])) (fun t k => XS.ifYes X149.here hx rfl (pc0 := 179) (pc' := 186) rfl (hb hby at_179) rfl ((if0 _ _).trans (feq (fun q => hc179 ((lw_eq dd (0 : Int64)).mp q))).2) (by decide) (by decide) k) ?_
          refine own_of (S' := T149.setTop (mkF m 187 #[.val (.int cc), .val (.int mm), .val (.long nn), .second, .val (.long bb), .second, .val (.long dd), .second, .val (.int sel), .val (.int x5), .val (.int x10), .val (.int x15), .val (.int x20), .val (.long x26), .second, .val (.ref b91), .val (.ref b103), .unset] [(.int (0 : Int32))])) (fun t k => XS.iconst X149.here hx rfl (hb hby at_186) k) ?_
          refine own_of (S' := T149.setTop (mkF m 189 #[.val (.int cc), .val (.int mm), .val (.long nn), .second, .val (.long bb), .second, .val (.long dd), .second, .val (.int sel), .val (.int x5), .val (.int x10), .val (.int x15), .val (.int x20), .val (.long x26), .second, .val (.ref b91), .val (.ref b103), .val (.int (0 : Int32))] [])) (fun t k => XS.istore X149.here hx rfl (hb hby at_187) rfl (l' := #[.val (.int cc), .val (.int mm), .val (.long nn), .second, .val (.long bb), .second, .val (.long dd), .second, .val (.int sel), .val (.int x5), .val (.int x10), .val (.int x15), .val (.int x20), .val (.long x26), .second, .val (.ref b91), .val (.ref b103), .val (.int (0 : Int32))]) rfl k) ?_
          refine own_of (S' := T149.setTop (mkF m 217 #[.val (.int cc), .val (.int mm), .val (.long nn), .second, .val (.long bb), .second, .val (.long dd), .second, .val (.int sel), .val (.int x5), .val (.int x10), .val (.int x15), .val (.int x20), .val (.long x26), .second, .val (.ref b91), .val (.ref b103), .val (.int (0 : Int32))] [])) (fun t k => XS.goto X149.here hx rfl (pc0 := 189) (pc' := 217) rfl (hb hby at_189) (by decide) (by decide) k) ?_
          have jw170 : j217_l17 = ((0 : Int32) : Int32) := qj217_l17.trans ((if_neg hc166).trans ((if_pos hc172).trans (if_neg hc179)))
          rw [jw170] at k166
          exact k166 T149 _ X149 N149 rfl
      · refine own_of (S' := T149.setTop (mkF m 192 #[.val (.int cc), .val (.int mm), .val (.long nn), .second, .val (.long bb), .second, .val (.long dd), .second, .val (.int sel), .val (.int x5), .val (.int x10), .val (.int x15), .val (.int x20), .val (.long x26), .second, .val (.ref b91), .val (.ref b103), .unset] [])) (fun t k => XS.icmpYes X149.here hx rfl (pc0 := 172) (pc' := 192) rfl (hb hby at_172) rfl (feq hc172).2 (by decide) (by decide) k) ?_
        refine own_of (S' := T149.setTop (mkF m 194 #[.val (.int cc), .val (.int mm), .val (.long nn), .second, .val (.long bb), .second, .val (.long dd), .second, .val (.int sel), .val (.int x5), .val (.int x10), .val (.int x15), .val (.int x20), .val (.long x26), .second, .val (.ref b91), .val (.ref b103), .unset] [(.int x5)])) (fun t k => XS.iload X149.here hx rfl (hb hby at_192) rfl k) ?_
        refine own_of (S' := T149.setTop (mkF m 196 #[.val (.int cc), .val (.int mm), .val (.long nn), .second, .val (.long bb), .second, .val (.long dd), .second, .val (.int sel), .val (.int x5), .val (.int x10), .val (.int x15), .val (.int x20), .val (.long x26), .second, .val (.ref b91), .val (.ref b103), .unset] [(.int (6 : Int32)), (.int x5)])) (fun t k => XS.bipush X149.here hx rfl (hb hby at_194) k) ?_
        by_cases hc196 : x5 < (6 : Int32)
        · refine own_of (S' := T149.setTop (mkF m 205 #[.val (.int cc), .val (.int mm), .val (.long nn), .second, .val (.long bb), .second, .val (.long dd), .second, .val (.int sel), .val (.int x5), .val (.int x10), .val (.int x15), .val (.int x20), .val (.long x26), .second, .val (.ref b91), .val (.ref b103), .unset] [])) (fun t k => XS.icmpYes X149.here hx rfl (pc0 := 196) (pc' := 205) rfl (hb hby at_196) rfl (tlt hc196).1 (by decide) (by decide) k) ?_
          refine own_of (S' := T149.setTop (mkF m 207 #[.val (.int cc), .val (.int mm), .val (.long nn), .second, .val (.long bb), .second, .val (.long dd), .second, .val (.int sel), .val (.int x5), .val (.int x10), .val (.int x15), .val (.int x20), .val (.long x26), .second, .val (.ref b91), .val (.ref b103), .unset] [(.int x10)])) (fun t k => XS.iload X149.here hx rfl (hb hby at_205) rfl k) ?_
          by_cases hc207 : x10 = (0 : Int32)
          · refine own_of (S' := T149.setTop (mkF m 210 #[.val (.int cc), .val (.int mm), .val (.long nn), .second, .val (.long bb), .second, .val (.long dd), .second, .val (.int sel), .val (.int x5), .val (.int x10), .val (.int x15), .val (.int x20), .val (.long x26), .second, .val (.ref b91), .val (.ref b103), .unset] [])) (fun t k => XS.ifNo X149.here hx rfl (hb hby at_207) rfl ((if0 _ _).trans (teq hc207).2) k) ?_
            refine own_of (S' := T149.setTop (mkF m 211 #[.val (.int cc), .val (.int mm), .val (.long nn), .second, .val (.long bb), .second, .val (.long dd), .second, .val (.int sel), .val (.int x5), .val (.int x10), .val (.int x15), .val (.int x20), .val (.long x26), .second, .val (.ref b91), .val (.ref b103), .unset] [(.int (1 : Int32))])) (fun t k => XS.iconst X149.here hx rfl (hb hby at_210) k) ?_
            refine own_of (S' := T149.setTop (mkF m 215 #[.val (.int cc), .val (.int mm), .val (.long nn), .second, .val (.long bb), .second, .val (.long dd), .second, .val (.int sel), .val (.int x5), .val (.int x10), .val (.int x15), .val (.int x20), .val (.long x26), .second, .val (.ref b91), .val (.ref b103), .unset] [(.int (1 : Int32))])) (fun t k => XS.goto X149.here hx rfl (pc0 := 211) (pc' := 215) rfl (hb hby at_211) (by decide) (by decide) k) ?_
            refine own_of (S' := T149.setTop (mkF m 217 #[.val (.int cc), .val (.int mm), .val (.long nn), .second, .val (.long bb), .second, .val (.long dd), .second, .val (.int sel), .val (.int x5), .val (.int x10), .val (.int x15), .val (.int x20), .val (.long x26), .second, .val (.ref b91), .val (.ref b103), .val (.int (1 : Int32))] [])) (fun t k => XS.istore X149.here hx rfl (hb hby at_215) rfl (l' := #[.val (.int cc), .val (.int mm), .val (.long nn), .second, .val (.long bb), .second, .val (.long dd), .second, .val (.int sel), .val (.int x5), .val (.int x10), .val (.int x15), .val (.int x20), .val (.long x26), .second, .val (.ref b91), .val (.ref b103), .val (.int (1 : Int32))]) rfl k) ?_
            have jw171 : j217_l17 = ((1 : Int32) : Int32) := qj217_l17.trans ((if_neg hc166).trans ((if_neg hc172).trans ((if_pos hc196).trans (if_pos hc207))))
            rw [jw171] at k166
            exact k166 T149 _ X149 N149 rfl
          · refine own_of (S' := T149.setTop (mkF m 214 #[.val (.int cc), .val (.int mm), .val (.long nn), .second, .val (.long bb), .second, .val (.long dd), .second, .val (.int sel), .val (.int x5), .val (.int x10), .val (.int x15), .val (.int x20), .val (.long x26), .second, .val (.ref b91), .val (.ref b103), .unset] [])) (fun t k => XS.ifYes X149.here hx rfl (pc0 := 207) (pc' := 214) rfl (hb hby at_207) rfl ((if0 _ _).trans (feq hc207).2) (by decide) (by decide) k) ?_
            refine own_of (S' := T149.setTop (mkF m 215 #[.val (.int cc), .val (.int mm), .val (.long nn), .second, .val (.long bb), .second, .val (.long dd), .second, .val (.int sel), .val (.int x5), .val (.int x10), .val (.int x15), .val (.int x20), .val (.long x26), .second, .val (.ref b91), .val (.ref b103), .unset] [(.int (0 : Int32))])) (fun t k => XS.iconst X149.here hx rfl (hb hby at_214) k) ?_
            refine own_of (S' := T149.setTop (mkF m 217 #[.val (.int cc), .val (.int mm), .val (.long nn), .second, .val (.long bb), .second, .val (.long dd), .second, .val (.int sel), .val (.int x5), .val (.int x10), .val (.int x15), .val (.int x20), .val (.long x26), .second, .val (.ref b91), .val (.ref b103), .val (.int (0 : Int32))] [])) (fun t k => XS.istore X149.here hx rfl (hb hby at_215) rfl (l' := #[.val (.int cc), .val (.int mm), .val (.long nn), .second, .val (.long bb), .second, .val (.long dd), .second, .val (.int sel), .val (.int x5), .val (.int x10), .val (.int x15), .val (.int x20), .val (.long x26), .second, .val (.ref b91), .val (.ref b103), .val (.int (0 : Int32))]) rfl k) ?_
            have jw172 : j217_l17 = ((0 : Int32) : Int32) := qj217_l17.trans ((if_neg hc166).trans ((if_neg hc172).trans ((if_pos hc196).trans (if_neg hc207))))
            rw [jw172] at k166
            exact k166 T149 _ X149 N149 rfl
        · refine own_of (S' := T149.setTop (mkF m 199 #[.val (.int cc), .val (.int mm), .val (.long nn), .second, .val (.long bb), .second, .val (.long dd), .second, .val (.int sel), .val (.int x5), .val (.int x10), .val (.int x15), .val (.int x20), .val (.long x26), .second, .val (.ref b91), .val (.ref b103), .unset] [])) (fun t k => XS.icmpNo X149.here hx rfl (hb hby at_196) rfl (flt hc196).1 k) ?_
          refine own_of (S' := T149.setTop (mkF m 200 #[.val (.int cc), .val (.int mm), .val (.long nn), .second, .val (.long bb), .second, .val (.long dd), .second, .val (.int sel), .val (.int x5), .val (.int x10), .val (.int x15), .val (.int x20), .val (.long x26), .second, .val (.ref b91), .val (.ref b103), .unset] [(.int (1 : Int32))])) (fun t k => XS.iconst X149.here hx rfl (hb hby at_199) k) ?_
          refine own_of (S' := T149.setTop (mkF m 202 #[.val (.int cc), .val (.int mm), .val (.long nn), .second, .val (.long bb), .second, .val (.long dd), .second, .val (.int sel), .val (.int x5), .val (.int x10), .val (.int x15), .val (.int x20), .val (.long x26), .second, .val (.ref b91), .val (.ref b103), .val (.int (1 : Int32))] [])) (fun t k => XS.istore X149.here hx rfl (hb hby at_200) rfl (l' := #[.val (.int cc), .val (.int mm), .val (.long nn), .second, .val (.long bb), .second, .val (.long dd), .second, .val (.int sel), .val (.int x5), .val (.int x10), .val (.int x15), .val (.int x20), .val (.long x26), .second, .val (.ref b91), .val (.ref b103), .val (.int (1 : Int32))]) rfl k) ?_
          refine own_of (S' := T149.setTop (mkF m 217 #[.val (.int cc), .val (.int mm), .val (.long nn), .second, .val (.long bb), .second, .val (.long dd), .second, .val (.int sel), .val (.int x5), .val (.int x10), .val (.int x15), .val (.int x20), .val (.long x26), .second, .val (.ref b91), .val (.ref b103), .val (.int (1 : Int32))] [])) (fun t k => XS.goto X149.here hx rfl (pc0 := 202) (pc' := 217) rfl (hb hby at_202) (by decide) (by decide) k) ?_
          have jw173 : j217_l17 = ((1 : Int32) : Int32) := qj217_l17.trans ((if_neg hc166).trans ((if_neg hc172).trans (if_neg hc196)))
          rw [jw173] at k166
          exact k166 T149 _ X149 N149 rfl
  intro T166 locs166 X166 N166 e166
  refine own_of (S' := T166.setTop (mkF m 219 #[.val (.int cc), .val (.int mm), .val (.long nn), .second, .val (.long bb), .second, .val (.long dd), .second, .val (.int sel), .val (.int x5), .val (.int x10), .val (.int x15), .val (.int x20), .val (.long x26), .second, .val (.ref b91), .val (.ref b103), .val (.int j217_l17)] [(.ref b91)])) (fun t k => XS.aload X166.here hx rfl (hb hby at_217) rfl rfl k) ?_
  refine own_of (S' := T166.setTop (mkF m 221 #[.val (.int cc), .val (.int mm), .val (.long nn), .second, .val (.long bb), .second, .val (.long dd), .second, .val (.int sel), .val (.int x5), .val (.int x10), .val (.int x15), .val (.int x20), .val (.long x26), .second, .val (.ref b91), .val (.ref b103), .val (.int j217_l17)] [(.ref b103), (.ref b91)])) (fun t k => XS.aload X166.here hx rfl (hb hby at_219) rfl rfl k) ?_
  obtain ⟨cq174, kq174, q174a, q174b, q174c⟩ := isOf hZ e166 f150
  obtain ⟨_, _, ⟨T174, L174, k174, n174⟩, -, X174, ⟨Lc174, hQ174, l174, y174, z174⟩, st174⟩ := X166.virtualBack hx (y := (⟨"com/example/firstlight/firstlight/SegmentFile$Header", "describesTheSegmentOf", "(Lcom/example/firstlight/firstlight/SegmentFile$Header;)Z"⟩ : MethodName)) (z := (⟨"com/example/firstlight/firstlight/SegmentFile$Header", "describesTheSegmentOf", "(Lcom/example/firstlight/firstlight/SegmentFile$Header;)Z"⟩ : MethodName)) hown (mvT hZ (hw _ (List.mem_of_getElem? (i := 28) rfl))) (mvT hZ (hw _ (List.mem_of_getElem? (i := 29) rfl))) (notFace_of_selects (args := #[]) (mvT hZ (hw _ (List.mem_of_getElem? (i := 31) rfl)))) (mvT hZ (hw _ (List.mem_of_getElem? (i := 31) rfl))) (mvT hZ (hw _ (List.mem_of_getElem? (i := 30) rfl))) (by decide) (backOf (W := 0) (own_rm3 l Z _ hw [] b91 b103 cc mm x15 nn bb x20 j65_s0 j79_s0 j95_s0 j109_s0 j125_s0 j141_s0 T149.heap n0 f151 f152 f153 f154 f155 f156 p149_1 p149_2 p149_3 p149_4 p149_5 p149_6) hZ (hw _ (List.mem_of_getElem? (i := 32) rfl)) (hw _ (List.mem_of_getElem? (i := 2) rfl)) (by decide) (by decide)) q174a q174c (g := (mkF m 221 #[.val (.int cc), .val (.int mm), .val (.long nn), .second, .val (.long bb), .second, .val (.long dd), .second, .val (.int sel), .val (.int x5), .val (.int x10), .val (.int x15), .val (.int x20), .val (.long x26), .second, .val (.ref b91), .val (.ref b103), .val (.int j217_l17)] [(.ref b103), (.ref b91)])) rfl (by rw [hml]; rfl) (Steps.refl _) (argsL := [(.ref b103)]) (rest := []) (lenOf own_pd2 rfl) rfl (by show 2 * 0 + _ ≤ _; exact Nat.le_of_eq rfl) (hb hby at_221) (fun _ _ => ⟨rfl, e166, (by decide : 2 + 0 ≤ _), (by decide : 14 + 0 ≤ _)⟩)
  dsimp only [Pt.U, Pt.locs, Pt.cells, Pt.slots] at X174 l174 y174 z174 st174 hQ174
  subst l174 y174 z174
  obtain ⟨rfl, M174, eh174⟩ := hQ174
  have N174 := Fr.app N166 M174
  refine own_of (S' := T174.setTop (mkF m 224 #[.val (.int cc), .val (.int mm), .val (.long nn), .second, .val (.long bb), .second, .val (.long dd), .second, .val (.int sel), .val (.int x5), .val (.int x10), .val (.int x15), .val (.int x20), .val (.long x26), .second, .val (.ref b91), .val (.ref b103), .val (.int j217_l17)] [(.int (own_desc cc mm x15 nn bb x20 j65_s0 j79_s0 j95_s0 j109_s0 j125_s0 j141_s0))])) (fun t k => st174.trans k) ?_
  generalize q221 : (own_desc cc mm x15 nn bb x20 j65_s0 j79_s0 j95_s0 j109_s0 j125_s0 j141_s0) = r221
  refine own_of (S' := T174.setTop (mkF m 226 #[.val (.int cc), .val (.int mm), .val (.long nn), .second, .val (.long bb), .second, .val (.long dd), .second, .val (.int sel), .val (.int x5), .val (.int x10), .val (.int x15), .val (.int x20), .val (.long x26), .second, .val (.ref b91), .val (.ref b103), .val (.int j217_l17)] [(.int j217_l17), (.int r221)])) (fun t k => XS.iload X174.here hx rfl (hb hby at_224) rfl k) ?_
  have hc226 : r221 = j217_l17 := by rw [← q221, qj217_l17, qj65_s0, qj79_s0, qj95_s0, qj109_s0, qj125_s0, qj141_s0]; exact own_key (own_rg q5)
  refine own_of (S' := T174.setTop (mkF m 229 #[.val (.int cc), .val (.int mm), .val (.long nn), .second, .val (.long bb), .second, .val (.long dd), .second, .val (.int sel), .val (.int x5), .val (.int x10), .val (.int x15), .val (.int x20), .val (.long x26), .second, .val (.ref b91), .val (.ref b103), .val (.int j217_l17)] [])) (fun t k => XS.icmpNo X174.here hx rfl (hb hby at_226) rfl (teq hc226).2 k) ?_
  refine own_of (S' := T174.setTop (mkF m 231 #[.val (.int cc), .val (.int mm), .val (.long nn), .second, .val (.long bb), .second, .val (.long dd), .second, .val (.int sel), .val (.int x5), .val (.int x10), .val (.int x15), .val (.int x20), .val (.long x26), .second, .val (.ref b91), .val (.ref b103), .val (.int j217_l17)] [(.ref b103)])) (fun t k => XS.aload X174.here hx rfl (hb hby at_229) rfl rfl k) ?_
  refine own_of (S' := T174.setTop (mkF m 233 #[.val (.int cc), .val (.int mm), .val (.long nn), .second, .val (.long bb), .second, .val (.long dd), .second, .val (.int sel), .val (.int x5), .val (.int x10), .val (.int x15), .val (.int x20), .val (.long x26), .second, .val (.ref b91), .val (.ref b103), .val (.int j217_l17)] [(.ref b91), (.ref b103)])) (fun t k => XS.aload X174.here hx rfl (hb hby at_231) rfl rfl k) ?_
  obtain ⟨cq176, kq176, q176a, q176b, q176c⟩ := isOf hZ eh174 p149_0
  obtain ⟨_, _, ⟨T176, L176, k176, n176⟩, -, X176, ⟨Lc176, hQ176, l176, y176, z176⟩, st176⟩ := X174.virtualBack hx (y := (⟨"com/example/firstlight/firstlight/SegmentFile$Header", "describesTheSegmentOf", "(Lcom/example/firstlight/firstlight/SegmentFile$Header;)Z"⟩ : MethodName)) (z := (⟨"com/example/firstlight/firstlight/SegmentFile$Header", "describesTheSegmentOf", "(Lcom/example/firstlight/firstlight/SegmentFile$Header;)Z"⟩ : MethodName)) hown (mvT hZ (hw _ (List.mem_of_getElem? (i := 28) rfl))) (mvT hZ (hw _ (List.mem_of_getElem? (i := 29) rfl))) (notFace_of_selects (args := #[]) (mvT hZ (hw _ (List.mem_of_getElem? (i := 31) rfl)))) (mvT hZ (hw _ (List.mem_of_getElem? (i := 31) rfl))) (mvT hZ (hw _ (List.mem_of_getElem? (i := 30) rfl))) (by decide) (backOf (W := 0) (own_rm3 l Z _ hw [] b103 b91 j65_s0 j79_s0 j95_s0 j109_s0 j125_s0 j141_s0 cc mm x15 nn bb x20 T149.heap n0 p149_1 p149_2 p149_3 p149_4 p149_5 p149_6 f151 f152 f153 f154 f155 f156) hZ (hw _ (List.mem_of_getElem? (i := 32) rfl)) (hw _ (List.mem_of_getElem? (i := 2) rfl)) (by decide) (by decide)) q176a q176c (g := (mkF m 233 #[.val (.int cc), .val (.int mm), .val (.long nn), .second, .val (.long bb), .second, .val (.long dd), .second, .val (.int sel), .val (.int x5), .val (.int x10), .val (.int x15), .val (.int x20), .val (.long x26), .second, .val (.ref b91), .val (.ref b103), .val (.int j217_l17)] [(.ref b91), (.ref b103)])) rfl (by rw [hml]; rfl) (Steps.refl _) (argsL := [(.ref b91)]) (rest := []) (lenOf own_pd2 rfl) rfl (by show 2 * 0 + _ ≤ _; exact Nat.le_of_eq rfl) (hb hby at_233) (fun _ _ => ⟨rfl, eh174, (by decide : 2 + 0 ≤ _), (by decide : 14 + 0 ≤ _)⟩)
  dsimp only [Pt.U, Pt.locs, Pt.cells, Pt.slots] at X176 l176 y176 z176 st176 hQ176
  subst l176 y176 z176
  obtain ⟨rfl, M176, eh176⟩ := hQ176
  have N176 := Fr.app N174 M176
  refine own_of (S' := T176.setTop (mkF m 236 #[.val (.int cc), .val (.int mm), .val (.long nn), .second, .val (.long bb), .second, .val (.long dd), .second, .val (.int sel), .val (.int x5), .val (.int x10), .val (.int x15), .val (.int x20), .val (.long x26), .second, .val (.ref b91), .val (.ref b103), .val (.int j217_l17)] [(.int (own_desc j65_s0 j79_s0 j95_s0 j109_s0 j125_s0 j141_s0 cc mm x15 nn bb x20))])) (fun t k => st176.trans k) ?_
  generalize q233 : (own_desc j65_s0 j79_s0 j95_s0 j109_s0 j125_s0 j141_s0 cc mm x15 nn bb x20) = r233
  refine own_of (S' := T176.setTop (mkF m 238 #[.val (.int cc), .val (.int mm), .val (.long nn), .second, .val (.long bb), .second, .val (.long dd), .second, .val (.int sel), .val (.int x5), .val (.int x10), .val (.int x15), .val (.int x20), .val (.long x26), .second, .val (.ref b91), .val (.ref b103), .val (.int j217_l17)] [(.int j217_l17), (.int r233)])) (fun t k => XS.iload X176.here hx rfl (hb hby at_236) rfl k) ?_
  have hc238 : r233 = j217_l17 := by rw [← q233, qj217_l17, qj65_s0, qj79_s0, qj95_s0, qj109_s0, qj125_s0, qj141_s0, own_sym]; exact own_key (own_rg q5)
  refine own_of (S' := T176.setTop (mkF m 241 #[.val (.int cc), .val (.int mm), .val (.long nn), .second, .val (.long bb), .second, .val (.long dd), .second, .val (.int sel), .val (.int x5), .val (.int x10), .val (.int x15), .val (.int x20), .val (.long x26), .second, .val (.ref b91), .val (.ref b103), .val (.int j217_l17)] [])) (fun t k => XS.icmpNo X176.here hx rfl (hb hby at_238) rfl (teq hc238).2 k) ?_
  refine own_of (S' := T176.setTop (mkF m 243 #[.val (.int cc), .val (.int mm), .val (.long nn), .second, .val (.long bb), .second, .val (.long dd), .second, .val (.int sel), .val (.int x5), .val (.int x10), .val (.int x15), .val (.int x20), .val (.long x26), .second, .val (.ref b91), .val (.ref b103), .val (.int j217_l17)] [(.ref b91)])) (fun t k => XS.aload X176.here hx rfl (hb hby at_241) rfl rfl k) ?_
  refine own_of (S' := T176.setTop (mkF m 245 #[.val (.int cc), .val (.int mm), .val (.long nn), .second, .val (.long bb), .second, .val (.long dd), .second, .val (.int sel), .val (.int x5), .val (.int x10), .val (.int x15), .val (.int x20), .val (.long x26), .second, .val (.ref b91), .val (.ref b103), .val (.int j217_l17)] [(.ref b91), (.ref b91)])) (fun t k => XS.aload X176.here hx rfl (hb hby at_243) rfl rfl k) ?_
  obtain ⟨cq178, kq178, q178a, q178b, q178c⟩ := isOf hZ eh176 f150
  obtain ⟨_, _, ⟨T178, L178, k178, n178⟩, -, X178, ⟨Lc178, hQ178, l178, y178, z178⟩, st178⟩ := X176.virtualBack hx (y := (⟨"com/example/firstlight/firstlight/SegmentFile$Header", "describesTheSegmentOf", "(Lcom/example/firstlight/firstlight/SegmentFile$Header;)Z"⟩ : MethodName)) (z := (⟨"com/example/firstlight/firstlight/SegmentFile$Header", "describesTheSegmentOf", "(Lcom/example/firstlight/firstlight/SegmentFile$Header;)Z"⟩ : MethodName)) hown (mvT hZ (hw _ (List.mem_of_getElem? (i := 28) rfl))) (mvT hZ (hw _ (List.mem_of_getElem? (i := 29) rfl))) (notFace_of_selects (args := #[]) (mvT hZ (hw _ (List.mem_of_getElem? (i := 31) rfl)))) (mvT hZ (hw _ (List.mem_of_getElem? (i := 31) rfl))) (mvT hZ (hw _ (List.mem_of_getElem? (i := 30) rfl))) (by decide) (backOf (W := 0) (own_rm3 l Z _ hw [] b91 b91 cc mm x15 nn bb x20 cc mm x15 nn bb x20 T149.heap n0 f151 f152 f153 f154 f155 f156 f151 f152 f153 f154 f155 f156) hZ (hw _ (List.mem_of_getElem? (i := 32) rfl)) (hw _ (List.mem_of_getElem? (i := 2) rfl)) (by decide) (by decide)) q178a q178c (g := (mkF m 245 #[.val (.int cc), .val (.int mm), .val (.long nn), .second, .val (.long bb), .second, .val (.long dd), .second, .val (.int sel), .val (.int x5), .val (.int x10), .val (.int x15), .val (.int x20), .val (.long x26), .second, .val (.ref b91), .val (.ref b103), .val (.int j217_l17)] [(.ref b91), (.ref b91)])) rfl (by rw [hml]; rfl) (Steps.refl _) (argsL := [(.ref b91)]) (rest := []) (lenOf own_pd2 rfl) rfl (by show 2 * 0 + _ ≤ _; exact Nat.le_of_eq rfl) (hb hby at_245) (fun _ _ => ⟨rfl, eh176, (by decide : 2 + 0 ≤ _), (by decide : 14 + 0 ≤ _)⟩)
  dsimp only [Pt.U, Pt.locs, Pt.cells, Pt.slots] at X178 l178 y178 z178 st178 hQ178
  subst l178 y178 z178
  obtain ⟨rfl, M178, eh178⟩ := hQ178
  have N178 := Fr.app N176 M178
  refine own_of (S' := T178.setTop (mkF m 248 #[.val (.int cc), .val (.int mm), .val (.long nn), .second, .val (.long bb), .second, .val (.long dd), .second, .val (.int sel), .val (.int x5), .val (.int x10), .val (.int x15), .val (.int x20), .val (.long x26), .second, .val (.ref b91), .val (.ref b103), .val (.int j217_l17)] [(.int (own_desc cc mm x15 nn bb x20 cc mm x15 nn bb x20))])) (fun t k => st178.trans k) ?_
  generalize q245 : (own_desc cc mm x15 nn bb x20 cc mm x15 nn bb x20) = r245
  have hc248 : ¬ (r245 = (0 : Int32)) := by rw [← q245]; simp [own_desc]
  refine own_of (S' := T178.setTop (mkF m 251 #[.val (.int cc), .val (.int mm), .val (.long nn), .second, .val (.long bb), .second, .val (.long dd), .second, .val (.int sel), .val (.int x5), .val (.int x10), .val (.int x15), .val (.int x20), .val (.long x26), .second, .val (.ref b91), .val (.ref b103), .val (.int j217_l17)] [])) (fun t k => XS.ifNo X178.here hx rfl (hb hby at_248) rfl ((if0 _ _).trans (feq hc248).1) k) ?_
  refine own_of (S' := T178.setTop (mkF m 252 #[.val (.int cc), .val (.int mm), .val (.long nn), .second, .val (.long bb), .second, .val (.long dd), .second, .val (.int sel), .val (.int x5), .val (.int x10), .val (.int x15), .val (.int x20), .val (.long x26), .second, .val (.ref b91), .val (.ref b103), .val (.int j217_l17)] [(.int (1 : Int32))])) (fun t k => XS.iconst X178.here hx rfl (hb hby at_251) k) ?_
  refine own_of (S' := T178.setTop (mkF m 256 #[.val (.int cc), .val (.int mm), .val (.long nn), .second, .val (.long bb), .second, .val (.long dd), .second, .val (.int sel), .val (.int x5), .val (.int x10), .val (.int x15), .val (.int x20), .val (.long x26), .second, .val (.ref b91), .val (.ref b103), .val (.int j217_l17)] [(.int (1 : Int32))])) (fun t k => XS.goto X178.here hx rfl (pc0 := 252) (pc' := 256) rfl (hb hby at_252) (by decide) (by decide) k) ?_
  obtain ⟨fs, hr, hrun, hended, hW, hsame⟩ := X178.leave (v := some (.int (nar .boolean (1 : Int32)))) (fun h => by rw [Bd.returns] at h; cases h)
  refine ⟨_, _, retN X178 hx (t := .boolean) Bd.returns (by simp) (hb hby at_256) hr, hrun, hended, hG _ _ ⟨_, _, rfl, ?_, ⟨_, rfl⟩, hW, hsame.mono (by decide) (by decide)⟩⟩
  show own_Q0 Z cc mm nn bb dd sel h0 n0 _ T178.heap _
  rw [eh178]
  exact ⟨rfl, N178⟩
set_option maxRecDepth 65536 in
set_option maxHeartbeats 40000000 in
theorem own_comes {Post : Tables → Env → Array Value → State → Outcome → State → Prop} (hpost : ∀ tb e args s v u, (limb_1_1.after args s (.returned v) u = true ∧ limb_1_2.after args s (.returned v) u = true ∧ True) → FrameEnd s (.returned v) u (Jvm.fieldLocs frame_1_writes args s ++ Jvm.arrayLocs frame_1_arrays args s ++ Jvm.staticLocs frame_1_statics s) 16 128 → Post tb e args s (.returned v) u) :
    ArmFor flags0 classFile x code maxLocals ret World_1 tables_1 room_1 Calls_1 rest_1 Pre_1 Post := by
  intro l hfl _ _ p e ha hc hk s m args below hf hA hF happ hP
  obtain ⟨hcalls, hrest, hpre⟩ := hP
  obtain ⟨-, -, -, hnamed, -, -, -, hat⟩ := (Spec.applies_iff hf).mp happ
  obtain ⟨hg, hn⟩ := and_e (Cond.before_iff.mp (show (Jvm.Cond.and given_1 narrow_1).before args s = true from hpre))
  obtain ⟨hcount, hg0⟩ := and_e hg
  obtain ⟨ha0, hg1⟩ := and_e hg0
  obtain ⟨ha1, hg2⟩ := and_e hg1
  obtain ⟨ha2, hg3⟩ := and_e hg2
  obtain ⟨ha3, hg4⟩ := and_e hg3
  obtain ⟨ha4, hg5⟩ := and_e hg4
  obtain ⟨w0, w1, w2, w3, w4, w5, rfl⟩ : ∃ w0 w1 w2 w3 w4 w5 : Value, args = #[w0, w1, w2, w3, w4, w5] := by
    have hs : args.size = 6 := by simpa [Cond.value, given_1] using hcount
    obtain ⟨L⟩ := args
    match L, hs with
    | [w0, w1, w2, w3, w4, w5], _ => exact ⟨w0, w1, w2, w3, w4, w5, rfl⟩
  have hw := fun d (hd : d ∈ tables_1) => atoms_spec (ws := Jvm.Cond.code x code maxLocals ret :: tables_1) hat d (List.mem_cons_of_mem _ hd)
  obtain ⟨i0, ei0⟩ := is_v ha0
  obtain rfl : w0 = (.int i0) := Option.some.inj ei0
  obtain ⟨i1, ei1⟩ := is_v ha1
  obtain rfl : w1 = (.int i1) := Option.some.inj ei1
  obtain ⟨i2, ei2⟩ := isL_v ha2
  obtain rfl : w2 = (.long i2) := Option.some.inj ei2
  obtain ⟨i3, ei3⟩ := isL_v ha3
  obtain rfl : w3 = (.long i3) := Option.some.inj ei3
  obtain ⟨i4, ei4⟩ := isL_v ha4
  obtain rfl : w4 = (.long i4) := Option.some.inj ei4
  obtain ⟨i5, ei5⟩ := is_v hg5
  obtain rfl : w5 = (.int i5) := Option.some.inj ei5
  obtain ⟨n, o, h1, h2, h3, _, L, rfl, ⟨rfl, N⟩, hq⟩ := own_rm0 l s _ hw tables_1 i0 i1 i2 i3 i4 i5 s.heap s.heap.size (Nat.le_refl _) p e ha hc hk s m _ below hf ((Spec.applies_iff_loose hf).mp happ).1 ⟨rfl, State.Warmed39.refl s, rfl⟩ trivial
  exact ⟨n, _, h1, h2, h3, hpost _ _ _ _ _ _ ⟨Cond.after_iff.mpr rfl, Cond.after_iff.mpr (eq_i res_at (Term.int_eval (1)) rfl), trivial⟩ ⟨hq.1, hq.2.1, (hq.2.2.sift fun y hy => Or.inr (N y hy)).mono (by decide) (by decide)⟩⟩
theorem main_1_1 : Claimed_1_1 := own_comes fun _ _ _ _ _ _ h hF => ⟨h.1, hF⟩
theorem main_1_2 : Claimed_1_2 := own_comes fun _ _ _ _ _ _ h hF => ⟨h.2.1, hF⟩
end Jvm.Pilot.@@N@@
namespace Jvm.Pilot.@@N@@
open Jvm Jvm.ClassFile Sem Op Lib Jvm.Free Jvm.Stand Jvm.Pilot.@@N@@.Jvm.D
/-! MADE BY PROGRAM (witnessworld.py) out of the Statement's table words and the real class files: 10 classes; the members and pool entries that the words name. The judged class is class 1, her method 1. -/
namespace start1
open Jvm.ClassFile
def u (s : String) : CpInfo := .utf8 (stringToUtf16 s)
/-- a pool by its gaps: so many unusable entries, then the entry; so many at the end -/
def gap : Nat → List CpInfo → List CpInfo
  | 0, r => r
  | n + 1, r => .unusable :: gap n r
def poolList (es : List (Nat × CpInfo)) (last : Nat) : List CpInfo := es.foldr (fun e r => gap e.1 (e.2 :: r)) (gap last [])
def pool (es : List (Nat × CpInfo)) (last : Nat) : Array CpInfo := ⟨poolList es last⟩
def fileOf (pool : Array CpInfo) (this : Nat) (attrs : Array Attribute := #[]) (ms : Array MethodInfo := #[]) (fl : Nat := 33) (sup : Nat := 0) (ifs : Array Nat := #[]) (fds : Array FieldInfo := #[]) : ClassFile where
  minorVersion := 0
  majorVersion := 65
  constantPool := pool
  accessFlags := fl
  thisClass := this
  superClass := sup
  interfaces := ifs
  fields := fds
  methods := ms
  attributes := attrs
def plain (name : String) (sup : Option ClassId) : Class where
  name := name
  kind := .ordinary
  loader := none
  accessFlags := 33
  super := sup
  interfaces := #[]
  cf := none
  fields := #[]
  methods := #[]
  instanceTypes := #[]
  staticTypes := #[]
  resolved := #[]
  callSites := []
  init := .initialized
  statics := none
  mirror := none

def pool0 : Array CpInfo := pool [(5, u "<init>"), (0, u "()V"), (1, .class_ 10), (1, u "java/lang/Object")] 113

def k0c0 : Code := { maxStack := 0, maxLocals := 1, code := object_method_1_code, exceptionTable := #[], attributes := #[] }
def k0m0 : Method := { name := "<init>", desc := "()V", sig := { parameters := [], returnType := none }, accessFlags := 1, code := some k0c0 }
/-- java/lang/Object -/
def k0 : Class := { plain "java/lang/Object" none with
  accessFlags := 33
  interfaces := #[]
  cf := some (fileOf pool0 8 #[] #[{ accessFlags := 1, nameIndex := 5, descriptorIndex := 6, attributes := #[] }] 33 0 #[] #[])
  fields := #[]
  methods := #[k0m0]
  instanceTypes := #[]
  staticTypes := #[]
  resolved := Array.replicate 124 none
  statics := none }

def pool1 : Array CpInfo := pool [(2, .class_ 4), (1, u "java/lang/Object"), (0, u "<init>"), (0, u "()V"), (0, .class_ 8), (0, u "com/example/firstlight/firstlight/SegmentFile$Header"), (0, .methodref 7 10), (0, .nameAndType 5 11), (0, u "(IIIJJIJ)V"), (0, .methodref 7 13), (0, .nameAndType 14 15), (0, u "describesTheSegmentOf"), (0, u "(Lcom/example/firstlight/firstlight/SegmentFile$Header;)Z"), (0, .class_ 17), (0, u "com/example/firstlight/firstlight/HeaderDescribesTheSegmentOfPinLaw"), (2, u "law"), (0, u "(IIJJJI)Z")] 7

def k1m0 : Method := { name := "<init>", desc := "()V", sig := { parameters := [], returnType := none }, accessFlags := 2, code := none }
def k1c1 : Code := { maxStack := 14, maxLocals := 18, code := code, exceptionTable := #[], attributes := #[] }
def k1m1 : Method := { name := "law", desc := "(IIJJJI)Z", sig := { parameters := [.int, .int, .long, .long, .long, .int], returnType := some .boolean }, accessFlags := 9, code := some k1c1 }
/-- com/example/firstlight/firstlight/HeaderDescribesTheSegmentOfPinLaw -/
def k1 : Class := { plain "com/example/firstlight/firstlight/HeaderDescribesTheSegmentOfPinLaw" (some 0) with
  accessFlags := 49
  interfaces := #[]
  cf := some (fileOf pool1 16 #[] #[{ accessFlags := 2, nameIndex := 5, descriptorIndex := 6, attributes := #[] }, { accessFlags := 9, nameIndex := 20, descriptorIndex := 21, attributes := #[] }] 49 2 #[] #[])
  fields := #[]
  methods := #[k1m0, k1m1]
  instanceTypes := #[]
  staticTypes := #[]
  resolved := Array.replicate 29 none
  statics := none }

def pool2 : Array CpInfo := pool [(1, .methodref 2 3), (0, .class_ 4), (0, .nameAndType 5 6), (0, u "java/lang/Object"), (0, u "<init>"), (0, u "()V"), (0, .class_ 8), (0, u "java/lang/Record")] 13

def k2c0 : Code := { maxStack := 1, maxLocals := 1, code := jdk_30_method_1_code, exceptionTable := #[], attributes := #[] }
def k2m0 : Method := { name := "<init>", desc := "()V", sig := { parameters := [], returnType := none }, accessFlags := 4, code := some k2c0 }
/-- java/lang/Record -/
def k2 : Class := { plain "java/lang/Record" (some 0) with
  accessFlags := 1057
  interfaces := #[]
  cf := some (fileOf pool2 7 #[] #[{ accessFlags := 4, nameIndex := 5, descriptorIndex := 6, attributes := #[] }] 1057 2 #[] #[])
  fields := #[]
  methods := #[k2m0]
  instanceTypes := #[]
  staticTypes := #[]
  resolved := Array.replicate 22 none
  statics := none }

def pool3 : Array CpInfo := pool [(1, .methodref 2 3), (0, .class_ 4), (0, .nameAndType 5 6), (0, u "java/lang/Record"), (0, u "<init>"), (0, u "()V"), (0, .fieldref 8 9), (0, .class_ 10), (0, .nameAndType 11 12), (0, u "com/example/firstlight/firstlight/SegmentFile$Header"), (0, u "capacity"), (0, u "I"), (0, .fieldref 8 14), (0, .nameAndType 15 12), (0, u "maxSegments"), (0, .fieldref 8 17), (0, .nameAndType 18 12), (0, u "rule"), (0, .fieldref 8 20), (0, .nameAndType 21 22), (0, u "number"), (0, u "J"), (0, .fieldref 8 24), (0, .nameAndType 25 22), (0, u "base"), (0, .fieldref 8 27), (0, .nameAndType 28 12), (0, u "documents"), (0, .fieldref 8 30), (0, .nameAndType 31 22), (0, u "length"), (12, u "(IIIJJIJ)V"), (3, u "describesTheSegmentOf"), (0, u "(Lcom/example/firstlight/firstlight/SegmentFile$Header;)Z"), (8, .class_ 59), (0, u "com/example/firstlight/firstlight/SegmentFile")] 25

def k3c0 : Code := { maxStack := 3, maxLocals := 11, code := prog_51_method_1_code, exceptionTable := #[], attributes := #[] }
def k3m0 : Method := { name := "<init>", desc := "(IIIJJIJ)V", sig := { parameters := [.int, .int, .int, .long, .long, .int, .long], returnType := none }, accessFlags := 0, code := some k3c0 }
def k3c1 : Code := { maxStack := 4, maxLocals := 2, code := prog_51_method_2_code, exceptionTable := #[], attributes := #[] }
def k3m1 : Method := { name := "describesTheSegmentOf", desc := "(Lcom/example/firstlight/firstlight/SegmentFile$Header;)Z", sig := { parameters := [(.object "com/example/firstlight/firstlight/SegmentFile$Header")], returnType := some .boolean }, accessFlags := 0, code := some k3c1 }
/-- com/example/firstlight/firstlight/SegmentFile$Header -/
def k3 : Class := { plain "com/example/firstlight/firstlight/SegmentFile$Header" (some 2) with
  accessFlags := 48
  interfaces := #[]
  cf := some (fileOf pool3 8 #[.nestHost 58] #[{ accessFlags := 0, nameIndex := 5, descriptorIndex := 44, attributes := #[] }, { accessFlags := 0, nameIndex := 48, descriptorIndex := 49, attributes := #[] }] 48 2 #[] #[{ accessFlags := 18, nameIndex := 11, descriptorIndex := 12, attributes := #[] }, { accessFlags := 18, nameIndex := 15, descriptorIndex := 12, attributes := #[] }, { accessFlags := 18, nameIndex := 18, descriptorIndex := 12, attributes := #[] }, { accessFlags := 18, nameIndex := 21, descriptorIndex := 22, attributes := #[] }, { accessFlags := 18, nameIndex := 25, descriptorIndex := 22, attributes := #[] }, { accessFlags := 18, nameIndex := 28, descriptorIndex := 12, attributes := #[] }, { accessFlags := 18, nameIndex := 31, descriptorIndex := 22, attributes := #[] }])
  fields := #[{ name := "capacity", type := .int, accessFlags := 18, slot := 0, constantValue := 0 }, { name := "maxSegments", type := .int, accessFlags := 18, slot := 1, constantValue := 0 }, { name := "rule", type := .int, accessFlags := 18, slot := 2, constantValue := 0 }, { name := "number", type := .long, accessFlags := 18, slot := 3, constantValue := 0 }, { name := "base", type := .long, accessFlags := 18, slot := 4, constantValue := 0 }, { name := "documents", type := .int, accessFlags := 18, slot := 5, constantValue := 0 }, { name := "length", type := .long, accessFlags := 18, slot := 6, constantValue := 0 }]
  methods := #[k3m0, k3m1]
  instanceTypes := #[.int, .int, .int, .long, .long, .int, .long]
  staticTypes := #[]
  resolved := Array.replicate 85 none
  statics := none }

def pool4 : Array CpInfo := pool [(1, u "java/lang/Cloneable"), (0, .class_ 1), (0, u "java/lang/Object"), (0, .class_ 3)] 3

/-- java/lang/Cloneable -/
def k4 : Class := { plain "java/lang/Cloneable" (some 0) with
  accessFlags := 1537
  interfaces := #[]
  cf := some (fileOf pool4 2 #[] #[] 1537 4 #[] #[])
  fields := #[]
  methods := #[]
  instanceTypes := #[]
  staticTypes := #[]
  resolved := Array.replicate 8 none
  statics := none }

def pool5 : Array CpInfo := pool [(1, u "java/io/Serializable"), (0, .class_ 1), (0, u "java/lang/Object"), (0, .class_ 3)] 3

/-- java/io/Serializable -/
def k5 : Class := { plain "java/io/Serializable" (some 0) with
  accessFlags := 1537
  interfaces := #[]
  cf := some (fileOf pool5 2 #[] #[] 1537 4 #[] #[])
  fields := #[]
  methods := #[]
  instanceTypes := #[]
  staticTypes := #[]
  resolved := Array.replicate 8 none
  statics := none }

/-- the primitive byte -/
def k6 : Class := { plain "byte" none with kind := .primitive 'B', accessFlags := 0x411 }
/-- [B -/
def k7 : Class := { plain "[B" (some 0) with kind := .array 6 .byte, interfaces := #[4, 5], accessFlags := 1041 }

/-- the primitive int -/
def k8 : Class := { plain "int" none with kind := .primitive 'I', accessFlags := 0x411 }
/-- [I -/
def k9 : Class := { plain "[I" (some 0) with kind := .array 8 .int, interfaces := #[4, 5], accessFlags := 1041 }

def heap : Heap := #[]
def classes : Array Class := #[k0, k1, k2, k3, k4, k5, k6, k7, k8, k9]
def interned : List (Array UInt16 × Addr) := []
def slotsUsed : Nat := 0
def theMethod : MethodId := ⟨1, 1⟩
def args0 : Array Value := #[.int 5, .int 7, .long 2, .long 9, .long 1, .int 3]
def aboutOver (below : List Frame) : State where
  vm := { classes := classes, interned := interned.toArray }
  heap := heap
  slotsUsed := slotsUsed
  threads := #[{ frames := .invoking theMethod args0 :: below }]
def below0 : List Frame := [.native { method := ⟨0, 0⟩, args := #[] }]
def about1 : State := aboutOver below0
def p0 : Program := .bare "" "" ""
def e0 : Env := launch0.env 0 0 0
theorem w_frames : about1.frames = Frame.invoking theMethod args0 :: below0 := rfl
set_option maxRecDepth 65536 in
theorem w_args : argsFit about1.vm theMethod args0 = true := by decide +kernel
set_option maxRecDepth 65536 in
theorem w_heap : heapFits about1 = true := by decide +kernel
set_option maxRecDepth 65536 in
theorem w_runnable : about1.curStatus? = some .runnable := by decide +kernel
set_option maxRecDepth 65536 in
theorem w_alone : about1.alone = true := by decide +kernel
set_option maxRecDepth 65536 in
theorem w_named : about1.methodNamed? x = some theMethod := by decide +kernel
set_option maxRecDepth 65536 in
theorem w_hears : about1.hears theMethod below0 = true := by decide +kernel
set_option maxRecDepth 65536 in
theorem w_ripe : about1.ripe theMethod args0 below0 = true := by decide +kernel
theorem w_running : about1.status = .running := rfl
set_option maxRecDepth 65536 in
theorem w_room : about1.hasRoom e0.platform room_1 = true :=
  launch0.hasRoom_least _ room_1 (by decide +kernel) (by decide +kernel) (by decide +kernel) (by decide +kernel) (by decide +kernel) (by decide +kernel)
theorem allAtoms_all (ts : List Jvm.Cond) (a : Array Jvm.Value) (st : Jvm.State) : (allAtoms ts).before a st = ts.all (fun c => c.before a st) := by
  induction ts with
  | nil => rfl
  | cons c t ih =>
    show (Jvm.Cond.and c (allAtoms t)).before a st = _
    rw [Jvm.Cond.before_and, ih, List.all_cons]
def words1 : List Jvm.Cond := Jvm.Cond.code x code maxLocals ret :: tables_1
/-- a 'code' word, met by the world's own term for the bytes: nothing is compared byte by byte -/
theorem code_word {y : MethodName} {bytes : ByteArray} {mx : Nat} {rt : Option FieldType} {a : Array Value} {s : State} {m : MethodId} {meth : Method} {c : Code} (h1 : s.methodNamed? y = some m) (h2 : s.vm.method? m = some meth) (h3 : meth.code = some c) (h4 : c.code = bytes)
    (h5 : (c.maxLocals == mx && c.exceptionTable.isEmpty && decide (c.maxStack ≤ mostOperands) && decide (meth.sig.returnType = rt) && !meth.locks && decide (parseMethodDescriptor y.desc = some meth.sig)) = true) : (Jvm.Cond.code y bytes mx rt).before a s = true := by
  simp only [Bool.and_eq_true, beq_iff_eq, Bool.not_eq_true', decide_eq_true_eq] at h5
  obtain ⟨⟨⟨⟨⟨g1, g2⟩, g3⟩, g4⟩, g5⟩, g6⟩ := h5
  simp [Cond.before, Cond.holds, Cond.value, h1, h2, h3, h4, g1, g2, g3, g4, g5, g6]
def isCode : Jvm.Cond → Bool
  | .code _ _ _ _ => true
  | _ => false
theorem all_split {L : List Jvm.Cond} {P : Jvm.Cond → Bool} (h1 : L.all (fun c => isCode c || P c) = true) (h2 : ∀ c ∈ L.filter isCode, P c = true) : L.all P = true := by
  refine List.all_eq_true.mpr fun c hc => ?_
  have h := List.all_eq_true.mp h1 c hc
  rcases Bool.eq_false_or_eq_true (isCode c) with hi | hi
  · exact h2 c (List.mem_filter.mpr ⟨hc, hi⟩)
  · simpa [hi] using h
set_option maxRecDepth 65536 in
theorem w_c0 : (Jvm.Cond.code x code maxLocals ret).before args0 about1 = true := code_word (m := ⟨1, 1⟩) (meth := k1m1) (c := k1c1) (by decide +kernel) rfl rfl rfl (by decide +kernel)
set_option maxRecDepth 65536 in
theorem w_c1 : (Jvm.Cond.code ({ cls := "com/example/firstlight/firstlight/SegmentFile$Header", name := "<init>", desc := "(IIIJJIJ)V" } : Jvm.MethodName) prog_51_method_1_code (11 : Nat) (Option.none : Option Jvm.ClassFile.FieldType)).before args0 about1 = true := code_word (m := ⟨3, 0⟩) (meth := k3m0) (c := k3c0) (by decide +kernel) rfl rfl rfl (by decide +kernel)
set_option maxRecDepth 65536 in
theorem w_c2 : (Jvm.Cond.code ({ cls := "java/lang/Record", name := "<init>", desc := "()V" } : Jvm.MethodName) jdk_30_method_1_code (1 : Nat) (Option.none : Option Jvm.ClassFile.FieldType)).before args0 about1 = true := code_word (m := ⟨2, 0⟩) (meth := k2m0) (c := k2c0) (by decide +kernel) rfl rfl rfl (by decide +kernel)
set_option maxRecDepth 65536 in
theorem w_c3 : (Jvm.Cond.code ({ cls := "java/lang/Object", name := "<init>", desc := "()V" } : Jvm.MethodName) object_method_1_code (1 : Nat) (Option.none : Option Jvm.ClassFile.FieldType)).before args0 about1 = true := code_word (m := ⟨0, 0⟩) (meth := k0m0) (c := k0c0) (by decide +kernel) rfl rfl rfl (by decide +kernel)
set_option maxRecDepth 65536 in
theorem w_c4 : (Jvm.Cond.code ({ cls := "com/example/firstlight/firstlight/SegmentFile$Header", name := "describesTheSegmentOf", desc := "(Lcom/example/firstlight/firstlight/SegmentFile$Header;)Z" } : Jvm.MethodName) prog_51_method_2_code (2 : Nat) (Option.some Jvm.ClassFile.FieldType.boolean)).before args0 about1 = true := code_word (m := ⟨3, 1⟩) (meth := k3m1) (c := k3c1) (by decide +kernel) rfl rfl rfl (by decide +kernel)
def codes1 : List Jvm.Cond := [Jvm.Cond.code x code maxLocals ret, Jvm.Cond.code ({ cls := "com/example/firstlight/firstlight/SegmentFile$Header", name := "<init>", desc := "(IIIJJIJ)V" } : Jvm.MethodName) prog_51_method_1_code (11 : Nat) (Option.none : Option Jvm.ClassFile.FieldType), Jvm.Cond.code ({ cls := "java/lang/Record", name := "<init>", desc := "()V" } : Jvm.MethodName) jdk_30_method_1_code (1 : Nat) (Option.none : Option Jvm.ClassFile.FieldType), Jvm.Cond.code ({ cls := "java/lang/Object", name := "<init>", desc := "()V" } : Jvm.MethodName) object_method_1_code (1 : Nat) (Option.none : Option Jvm.ClassFile.FieldType), Jvm.Cond.code ({ cls := "com/example/firstlight/firstlight/SegmentFile$Header", name := "describesTheSegmentOf", desc := "(Lcom/example/firstlight/firstlight/SegmentFile$Header;)Z" } : Jvm.MethodName) prog_51_method_2_code (2 : Nat) (Option.some Jvm.ClassFile.FieldType.boolean)]
set_option maxRecDepth 65536 in
theorem codes_eq : words1.filter isCode = codes1 := rfl
theorem w_codes : ∀ c ∈ words1.filter isCode, c.before args0 about1 = true := by
  rw [codes_eq]
  intro c hc
  simp only [codes1, List.mem_cons, List.not_mem_nil, or_false] at hc
  rcases hc with rfl | rfl | rfl | rfl | rfl
  · exact w_c0
  · exact w_c1
  · exact w_c2
  · exact w_c3
  · exact w_c4
set_option maxRecDepth 65536 in
theorem w_t1 : (words1.take 24).all (fun c => isCode c || c.before args0 about1) = true := by decide +kernel
set_option maxRecDepth 65536 in
theorem w_t2 : (words1.drop 24).all (fun c => isCode c || c.before args0 about1) = true := by decide +kernel
theorem w_tables : (allAtoms (Jvm.Cond.code x code maxLocals ret :: tables_1)).before args0 about1 = true := by
  rw [allAtoms_all]
  show words1.all (fun c => c.before args0 about1) = true
  refine all_split ?_ w_codes
  rw [← List.take_append_drop 24 words1, List.all_append, w_t1, w_t2]
  rfl
set_option maxRecDepth 65536 in
theorem w_case : (Jvm.Cond.and given_1 narrow_1).before args0 about1 = true := by decide +kernel
theorem w_applies : (headSpec (Jvm.Cond.code x code maxLocals ret :: tables_1) room_1).applies x e0.platform about1 = true :=
  (Spec.applies_iff w_frames).mpr ⟨w_running, w_runnable, w_alone, w_named, w_hears, w_ripe, w_room, w_tables⟩
theorem atStart : AtStart classFile x code maxLocals ret World_1 tables_1 room_1 Calls_1 rest_1 Pre_1 launch0 p0 e0 about1 theMethod args0 below0 :=
  ⟨lists_1, trivial, launch0.admits_env _ _ _, launch0.least_env, fairChoices_fair.cas, fairChoices_fair.clock, w_frames, w_args, w_heap, w_applies, trivial, trivial, w_case⟩
end start1
theorem witness_1 : WitnessClaimed_1 := ⟨start1.p0, start1.e0, start1.about1, start1.theMethod, start1.args0, start1.below0, start1.atStart⟩
end Jvm.Pilot.@@N@@
