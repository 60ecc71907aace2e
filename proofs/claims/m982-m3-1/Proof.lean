import JvmDerived
import JvmDerived.Pilot.@@N@@Statement
import JvmDerived.Pilot.@@N@@Code
set_option linter.unusedVariables false
set_option linter.unusedSimpArgs false
namespace Jvm.Pilot.@@N@@
open Jvm Jvm.ClassFile Sem Op Lib Jvm.Free Jvm.Stand Jvm.LawKit Jvm.RoadKit Bundle Jvm.Pilot.@@N@@.Jvm.D
section Own
variable {p : Program} {l : Launch} {e : Env} {R : Room} {s : State} {m : MethodId} {args : Array Value} {below : List Frame} {meth : Method} {c : Code} {T : State} {locs : List Loc} {cells slots : Nat} {Z : State} {h h' : Heap} {a b : Addr} {k k' : ClassId} {ty : FieldType} {n : Int32}
/-- from the state S the run ends, and G holds of the end -/
def own_Go (tb : Tables) (e : Env) (below : List Frame) (G : State → Outcome → Prop) (S : State) : Prop := ∃ s₂ o, Steps tb e below S s₂ ∧ s₂.status = .running ∧ Ended s₂ below o ∧ G s₂ o
theorem own_of {tb : Tables} {G : State → Outcome → Prop} {S S' : State} (f : ∀ t, Steps tb e below S' t → Steps tb e below S t) (g : own_Go tb e below G S') : own_Go tb e below G S := by
  obtain ⟨x, y, h1, h2⟩ := g
  exact ⟨x, y, f x h1, h2⟩
theorem own_out {tb : Tables} {Q : State → Outcome → Prop} {S : State} (f : ∀ G : State → Outcome → Prop, (∀ s₂ o, Q s₂ o → G s₂ o) → own_Go tb e below G S) : ∃ s₂ o, Steps tb e below S s₂ ∧ s₂.status = .running ∧ Ended s₂ below o ∧ Q s₂ o := f Q fun _ _ q => q
theorem own_retI (X : Stand p l e R s m args below meth c T locs cells slots) (hx : p.tables.exec = Jvm.exec) {pc : Nat} {Ls : Array Slot} {z : Int32} {rest : List Value} (hret : meth.sig.returnType = some .int) (hd : decode c.code pc = .ok (.ireturn, 1)) {fs : List Frame}
    (hl : ∀ (f : JFrame) (acts : List Action), f.method = m → f.locked = none → f.entered = [] → (doReturn e (T.setTop f) acts (some (.int z))).1 = T.setFrames fs) : Steps p.tables e below (T.setTop (mkF m pc Ls (.int z :: rest))) (T.setFrames fs) :=
  retOut X hx hret rfl (Or.inl ⟨rfl, Or.inl rfl, z, rfl⟩) hd hl
theorem own_retL (X : Stand p l e R s m args below meth c T locs cells slots) (hx : p.tables.exec = Jvm.exec) {pc : Nat} {Ls : Array Slot} {z : Int64} {rest : List Value} (hret : meth.sig.returnType = some .long) (hd : decode c.code pc = .ok (.lreturn, 1)) {fs : List Frame}
    (hl : ∀ (f : JFrame) (acts : List Action), f.method = m → f.locked = none → f.entered = [] → (doReturn e (T.setTop f) acts (some (.long z))).1 = T.setFrames fs) : Steps p.tables e below (T.setTop (mkF m pc Ls (.long z :: rest))) (T.setFrames fs) :=
  retOut X hx hret rfl (Or.inr (Or.inl ⟨rfl, rfl, z, rfl⟩)) hd hl
theorem own_retA (X : Stand p l e R s m args below meth c T locs cells slots) (hx : p.tables.exec = Jvm.exec) {pc : Nat} {Ls : Array Slot} {z : Addr} {C : String} {rest : List Value} (hret : meth.sig.returnType = some (.object C)) (hd : decode c.code pc = .ok (.areturn, 1)) {fs : List Frame}
    (hl : ∀ (f : JFrame) (acts : List Action), f.method = m → f.locked = none → f.entered = [] → (doReturn e (T.setTop f) acts (some (.ref z))).1 = T.setFrames fs) : Steps p.tables e below (T.setTop (mkF m pc Ls (.ref z :: rest))) (T.setFrames fs) :=
  retOut X hx hret rfl (Or.inr (Or.inr (Or.inr (Or.inr ⟨rfl, rfl, rfl⟩)))) hd hl
/-- an array of ints (or bytes) at a, whole: its class, element type, length and values -/
def own_AI (Z : State) (h : Heap) (a : Addr) (k : ClassId) (ty : FieldType) (n : Int32) (xs : List Int32) : Prop := Arv Z h a k ty n (xs.map Value.int) (.int 0) ∧ xs.length = n.toNatClampNeg
theorem own_AI.ext {xs : List Int32} (F : own_AI Z h a k ty n xs) (E : Ext h h') : own_AI Z h' a k ty n xs := ⟨F.1.ext E, F.2⟩
theorem own_AI.other {xs : List Int32} {sl : Nat} {v : Value} (F : own_AI Z h b k ty n xs) (W : Wr h h' a sl v) (q : b ≠ a) : own_AI Z h' b k ty n xs := ⟨F.1.other W q, F.2⟩
theorem own_AI.keep {xs : List Int32} {ws : List Addr} (F : own_AI Z h a k ty n xs) (K : Keep h h' ws) (q : a ∉ ws) : own_AI Z h' a k ty n xs := ⟨F.1.keep K q, F.2⟩
theorem own_AI.lt {xs : List Int32} (F : own_AI Z h a k ty n xs) : a < h.size := F.1.lt
def own_AJ (Z : State) (h : Heap) (a : Addr) (k : ClassId) (n : Int32) (xs : List Int64) : Prop := Arv Z h a k .long n (xs.map Value.long) (.long 0) ∧ xs.length = n.toNatClampNeg
theorem own_AJ.ext {xs : List Int64} (F : own_AJ Z h a k n xs) (E : Ext h h') : own_AJ Z h' a k n xs := ⟨F.1.ext E, F.2⟩
theorem own_AJ.other {xs : List Int64} {sl : Nat} {v : Value} (F : own_AJ Z h b k n xs) (W : Wr h h' a sl v) (q : b ≠ a) : own_AJ Z h' b k n xs := ⟨F.1.other W q, F.2⟩
theorem own_AJ.keep {xs : List Int64} {ws : List Addr} (F : own_AJ Z h a k n xs) (K : Keep h h' ws) (q : a ∉ ws) : own_AJ Z h' a k n xs := ⟨F.1.keep K q, F.2⟩
theorem own_AJ.lt {xs : List Int64} (F : own_AJ Z h a k n xs) : a < h.size := F.1.lt
theorem own_ltn {j n : Int32} (q : ¬ j < 0 ∧ j < n) : j.toNatClampNeg < n.toNatClampNeg := by
  obtain ⟨q1, q2⟩ := q
  rw [Int32.lt_iff_toInt_lt] at q1 q2
  have e0 : (0 : Int32).toInt = 0 := rfl
  simp only [Int32.toNatClampNeg]; omega
theorem own_newI (A : Arr Z h a (newA k ty n) ty) (q : ¬ n < 0) (cnt : Nat) (hc : n.toNatClampNeg = cnt) (hd : defaultValue ty = .int 0) : own_AI Z h a k ty n (List.replicate cnt 0) := by
  have F := Arv.new A q
  rw [hd] at F
  exact ⟨by rw [List.map_replicate]; exact F.pad (pad_rep [] (.int 0) cnt), by rw [List.length_replicate, hc]⟩
theorem own_newJ (A : Arr Z h a (newA k .long n) .long) (q : ¬ n < 0) (cnt : Nat) (hc : n.toNatClampNeg = cnt) : own_AJ Z h a k n (List.replicate cnt 0) := by
  have F := Arv.new A q
  exact ⟨by rw [List.map_replicate]; exact F.pad (pad_rep [] (.long 0) cnt), by rw [List.length_replicate, hc]⟩
theorem own_stI (X : Stand p l e R s m args below meth c T locs cells slots) (hx : p.tables.exec = Jvm.exec) (hZ : Z.Warmed39 s.vm) (eT : T.heap = h) {xs : List Int32} (F : own_AI Z h a k .int n xs) {j x : Int32} (q : ¬ j < 0 ∧ j < n) {g : JFrame} (hg : g.method = m) {rest : List Value} (hs : g.stack = .int x :: .int j :: .ref a :: rest) (hd : decode c.code g.pc = .ok (.iastore, 1)) :
    ∃ T' h', Stand p l e R s m args below meth c T' (locs ++ [⟨a, j.toNatClampNeg⟩]) cells slots ∧ T'.heap = h' ∧ Wr h h' a j.toNatClampNeg (.int x) ∧ own_AI Z h' a k .int n (xs.set j.toNatClampNeg x) ∧ ∀ target, Steps p.tables e below (T'.setTop { g with pc := g.pc + 1, stack := rest }) target → Steps p.tables e below (T.setTop g) target := by
  obtain ⟨⟨cl, A, q1, S, q3, H, G⟩, hl⟩ := F
  obtain ⟨T', h', X', e', W, st⟩ := stI X hx hZ eT A (inb_of S q) hg hs hd
  refine ⟨T', h', X', e', W, ⟨?_, by rw [List.length_set]; exact hl⟩, st⟩
  rw [List.map_set]
  exact Arv.set A q1 S q3 H G rfl W _ rfl (by rw [List.length_map, hl]; exact own_ltn q)
theorem own_stB (X : Stand p l e R s m args below meth c T locs cells slots) (hx : p.tables.exec = Jvm.exec) (hZ : Z.Warmed39 s.vm) (eT : T.heap = h) {xs : List Int32} (F : own_AI Z h a k .byte n xs) {j x : Int32} (q : ¬ j < 0 ∧ j < n) {g : JFrame} (hg : g.method = m) {rest : List Value} (hs : g.stack = .int x :: .int j :: .ref a :: rest) (hd : decode c.code g.pc = .ok (.bastore, 1)) :
    ∃ T' h', Stand p l e R s m args below meth c T' (locs ++ [⟨a, j.toNatClampNeg⟩]) cells slots ∧ T'.heap = h' ∧ Wr h h' a j.toNatClampNeg (.int x.toInt8.toInt32) ∧ own_AI Z h' a k .byte n (xs.set j.toNatClampNeg x.toInt8.toInt32) ∧ ∀ target, Steps p.tables e below (T'.setTop { g with pc := g.pc + 1, stack := rest }) target → Steps p.tables e below (T.setTop g) target := by
  obtain ⟨⟨cl, A, q1, S, q3, H, G⟩, hl⟩ := F
  obtain ⟨T', h', X', e', W, st⟩ := stB X hx hZ eT A (inb_of S q) hg hs hd
  refine ⟨T', h', X', e', W, ⟨?_, by rw [List.length_set]; exact hl⟩, st⟩
  rw [List.map_set]
  exact Arv.set A q1 S q3 H G (fits_nar_byte _) W _ rfl (by rw [List.length_map, hl]; exact own_ltn q)
theorem own_stJ (X : Stand p l e R s m args below meth c T locs cells slots) (hx : p.tables.exec = Jvm.exec) (hZ : Z.Warmed39 s.vm) (eT : T.heap = h) {xs : List Int64} (F : own_AJ Z h a k n xs) {j : Int32} {x : Int64} (q : ¬ j < 0 ∧ j < n) {g : JFrame} (hg : g.method = m) {rest : List Value} (hs : g.stack = .long x :: .int j :: .ref a :: rest) (hd : decode c.code g.pc = .ok (.lastore, 1)) :
    ∃ T' h', Stand p l e R s m args below meth c T' (locs ++ [⟨a, j.toNatClampNeg⟩]) cells slots ∧ T'.heap = h' ∧ Wr h h' a j.toNatClampNeg (.long x) ∧ own_AJ Z h' a k n (xs.set j.toNatClampNeg x) ∧ ∀ target, Steps p.tables e below (T'.setTop { g with pc := g.pc + 1, stack := rest }) target → Steps p.tables e below (T.setTop g) target := by
  obtain ⟨⟨cl, A, q1, S, q3, H, G⟩, hl⟩ := F
  obtain ⟨T', h', X', e', W, st⟩ := stJ X hx hZ eT A (inb_of S q) hg hs hd
  refine ⟨T', h', X', e', W, ⟨?_, by rw [List.length_set]; exact hl⟩, st⟩
  rw [List.map_set]
  exact Arv.set A q1 S q3 H G rfl W _ rfl (by rw [List.length_map, hl]; exact own_ltn q)
theorem own_getI (xs : List Int32) (i : Nat) : (xs.map Value.int).getD i (.int 0) = .int (xs.getD i 0) := by
  simp only [List.getD_eq_getElem?_getD, List.getElem?_map]
  cases xs[i]? <;> rfl
theorem own_getJ (xs : List Int64) (i : Nat) : (xs.map Value.long).getD i (.long 0) = .long (xs.getD i 0) := by
  simp only [List.getD_eq_getElem?_getD, List.getElem?_map]
  cases xs[i]? <;> rfl
theorem own_ldI (X : Stand p l e R s m args below meth c T locs cells slots) (hx : p.tables.exec = Jvm.exec) (hZ : Z.Warmed39 s.vm) (eT : T.heap = h) {xs : List Int32} (F : own_AI Z h a k .int n xs) {j : Int32} (q : ¬ j < 0 ∧ j < n) {g : JFrame} (hg : g.method = m) {rest : List Value} (hs : g.stack = .int j :: .ref a :: rest) (hd : decode c.code g.pc = .ok (.iaload, 1)) :
    ∀ target, Steps p.tables e below (T.setTop { g with pc := g.pc + 1, stack := .int (xs.getD j.toNatClampNeg 0) :: rest }) target → Steps p.tables e below (T.setTop g) target := by
  obtain ⟨⟨cl, A, q1, S, q3, H, G⟩, hl⟩ := F
  intro target hr
  exact X.iaload hx (by rw [eT]; exact A.1) (State.isArrayOf_alike hZ.alike A.2.1) A.2.2 (inb_of S q) (H.at (inb_of S q) (own_getI xs _)) hg hs hd target hr
theorem own_ldB (X : Stand p l e R s m args below meth c T locs cells slots) (hx : p.tables.exec = Jvm.exec) (hZ : Z.Warmed39 s.vm) (eT : T.heap = h) {xs : List Int32} (F : own_AI Z h a k .byte n xs) {j : Int32} (q : ¬ j < 0 ∧ j < n) {g : JFrame} (hg : g.method = m) {rest : List Value} (hs : g.stack = .int j :: .ref a :: rest) (hd : decode c.code g.pc = .ok (.baload, 1)) :
    ∀ target, Steps p.tables e below (T.setTop { g with pc := g.pc + 1, stack := .int (xs.getD j.toNatClampNeg 0) :: rest }) target → Steps p.tables e below (T.setTop g) target := by
  obtain ⟨⟨cl, A, q1, S, q3, H, G⟩, hl⟩ := F
  intro target hr
  exact X.baloadBytes hx (by rw [eT]; exact A.1) (State.isArrayOf_alike hZ.alike A.2.1) A.2.2 (inb_of S q) (H.at (inb_of S q) (own_getI xs _)) hg hs hd target hr
theorem own_ldJ (X : Stand p l e R s m args below meth c T locs cells slots) (hx : p.tables.exec = Jvm.exec) (hZ : Z.Warmed39 s.vm) (eT : T.heap = h) {xs : List Int64} (F : own_AJ Z h a k n xs) {j : Int32} (q : ¬ j < 0 ∧ j < n) {g : JFrame} (hg : g.method = m) {rest : List Value} (hs : g.stack = .int j :: .ref a :: rest) (hd : decode c.code g.pc = .ok (.laload, 1)) :
    ∀ target, Steps p.tables e below (T.setTop { g with pc := g.pc + 1, stack := .long (xs.getD j.toNatClampNeg 0) :: rest }) target → Steps p.tables e below (T.setTop g) target := by
  obtain ⟨⟨cl, A, q1, S, q3, H, G⟩, hl⟩ := F
  intro target hr
  exact X.laload hx (by rw [eT]; exact A.1) (State.isArrayOf_alike hZ.alike A.2.1) A.2.2 (inb_of S q) (H.at (inb_of S q) (own_getJ xs _)) hg hs hd target hr
theorem own_lenJ (X : Stand p l e R s m args below meth c T locs cells slots) (hx : p.tables.exec = Jvm.exec) (hZ : Z.Warmed39 s.vm) (eT : T.heap = h) {xs : List Int64} (F : own_AJ Z h a k n xs) {g : JFrame} (hg : g.method = m) {rest : List Value} (hs : g.stack = .ref a :: rest) (hd : decode c.code g.pc = .ok (.arraylength, 1)) :
    ∀ target, Steps p.tables e below (T.setTop { g with pc := g.pc + 1, stack := .int n :: rest }) target → Steps p.tables e below (T.setTop g) target := by
  obtain ⟨⟨cl, A, q1, S, q3, H, G⟩, hl⟩ := F
  intro target hr
  refine X.arraylength hx (by rw [eT]; exact A.1) (State.isArrayOf_alike hZ.alike A.2.1) hg hs hd target ?_
  rw [len_of S q3]; exact hr
theorem own_rng {α : Type} (d : α) (xs : List α) (n : Nat) (hn : xs.length = n) : (List.range n).map (fun i => xs.getD (0 + i) d) = xs := by
  subst hn
  apply List.ext_getElem?
  intro i
  simp only [List.getElem?_map, List.getD_eq_getElem?_getD, Nat.zero_add]
  by_cases q : i < xs.length
  · simp [List.getElem?_range q, List.getElem?_eq_getElem q]
  · have q' : xs.length ≤ i := Nat.le_of_not_lt q
    rw [List.getElem?_eq_none (by simpa using q'), List.getElem?_eq_none q']; rfl
theorem own_cpJ (X : Stand p l e R s m args below meth c T locs cells slots) (hx : p.tables.exec = Jvm.exec) (hZ : Z.Warmed39 s.vm) {a0 : Array Value} {own : String} {index : Nat} (hown : s.vm.findClass own = some m.cls)
    (w1 : (Cond.methodLink own index Jvm.Stand.acN).before a0 Z = true) (w2 : (Cond.native Jvm.Stand.acN).before a0 Z = true) (w3 : (Cond.static Jvm.Stand.acN).before a0 Z = true) (w4 : (Cond.initialized "java/lang/System").before a0 Z = true) (eT : T.heap = h)
    {xs ys : List Int64} (A : own_AJ Z h a k n xs) (B : own_AJ Z h b k' n ys) (h3 : ¬ n < 0) (h4 : (0 : Int32).toNatClampNeg = 0) {n0 : Nat} (N : Fr n0 locs) (ge : n0 ≤ b)
    {g : JFrame} (hg : g.method = m) (hsize : g.locals.size = c.maxLocals) {rest : List Value} (hs : g.stack = .int n :: .int 0 :: .ref b :: .int 0 :: .ref a :: rest) (hd : decode c.code g.pc = .ok (.invokestatic index, 3))
    (hf : 1 ≤ R.frames) {W : Nat} (hW : 2 * g.monitorRoom + (rest.map fun v => v.category).sum ≤ W) (hlo : W + (nativeFrameWords "java/lang/System" "arraycopy" 5 + 11) ≤ R.locals) :
    ∃ T' h' L, Stand p l e R s m args below meth c T' L cells slots ∧ T'.heap = h' ∧ Fr n0 L ∧ Keep h h' [b] ∧ own_AJ Z h' b k' n xs ∧
      ∀ target, Steps p.tables e below (T'.setTop { g with pc := g.pc + 3, stack := rest }) target → Steps p.tables e below (T.setTop g) target := by
  obtain ⟨A, la⟩ := A
  obtain ⟨B, lb⟩ := B
  obtain ⟨T', h', L, X', e', N', K', V', st⟩ := cpA X hx hZ hown w1 w2 w3 w4 eT A B (Or.inl ⟨rfl, rfl⟩) (sp := 0) (dp := 0) (nn := n) (by decide) (by decide) h3 (by rw [h4]; omega) (by rw [h4]; omega) rfl (by rw [h4, List.length_map, lb]; omega) N ge hg hsize hs hd hf hW hlo
  refine ⟨T', h', L, X', e', N', K', ⟨?_, la⟩, st⟩
  rw [h4] at V'
  rw [own_rng (.long 0) (xs.map Value.long) _ (by rw [List.length_map, la])] at V'
  have q : List.drop (0 + n.toNatClampNeg) (ys.map Value.long) = [] := by rw [List.drop_eq_nil_iff, List.length_map, lb]; omega
  rw [q] at V'
  simpa using V'
end Own
def own_next (at_ sp rl : Int32) : Int32 := if sp = 0 then at_ else if 0 < rl then at_ + 1 else if 64 < sp then at_ + 2 else at_ + 1
def own_b1 (sp rl : Int32) : Int32 := ((((128 : Int32) ||| ((rl - 1) <<< ((2 : Int32) &&& 31))) ||| (sp - 1)).toInt8.toInt32).toInt8.toInt32
def own_b2 (sp : Int32) : Int32 := (((64 : Int32) ||| (((sp - 1).toUInt32 >>> ((8 : Int32) &&& 31).toUInt32).toInt32)).toInt8.toInt32).toInt8.toInt32
def own_b3 (sp : Int32) : Int32 := ((sp - 1).toInt8.toInt32).toInt8.toInt32
def own_wr (xs : List Int32) (at_ sp rl : Int32) : List Int32 := if sp = 0 then xs else if 0 < rl then xs.set at_.toNatClampNeg (own_b1 sp rl) else if 64 < sp then (xs.set at_.toNatClampNeg (own_b2 sp)).set (at_ + 1).toNatClampNeg (own_b3 sp) else xs.set at_.toNatClampNeg (own_b3 sp)
def own_same (xs : List Int32) (ix lo hi ff : Int32) : Int32 := if ix < lo then (if xs.getD ix.toNatClampNeg 0 = ff then 1 else 0) else if ix < hi then 1 else (if xs.getD ix.toNatClampNeg 0 = ff then 1 else 0)
theorem own_c0 : (0 : Int32).toInt = 0 := rfl
theorem own_add {x y : Int32} {z : Int} (h : x.toInt + y.toInt = z) (h1 : -2147483648 ≤ z) (h2 : z < 2147483648) : (x + y).toInt = z := by
  have q := c_iadd x y
  have r := rng32 (x + y)
  omega
theorem own_at1 {x : Int32} (h : 0 ≤ x.toInt ∧ x.toInt ≤ 6) : (x + 1).toInt = x.toInt + 1 := own_add (y := 1) rfl (by have : (1 : Int32).toInt = 1 := rfl; omega) (by have : (1 : Int32).toInt = 1 := rfl; omega)
theorem own_at2 {x : Int32} (h : 0 ≤ x.toInt ∧ x.toInt ≤ 6) : (x + 2).toInt = x.toInt + 2 := own_add (y := 2) rfl (by have : (2 : Int32).toInt = 2 := rfl; omega) (by have : (2 : Int32).toInt = 2 := rfl; omega)
theorem own_in0 {x : Int32} (h : 0 ≤ x.toInt ∧ x.toInt ≤ 6) : ¬ x < (0 : Int32) ∧ x < (8 : Int32) := by
  have e8 : (8 : Int32).toInt = 8 := rfl
  rw [Int32.lt_iff_toInt_lt, Int32.lt_iff_toInt_lt, own_c0, e8]; omega
theorem own_in1 {x : Int32} (h : 0 ≤ x.toInt ∧ x.toInt ≤ 6) : ¬ (x + (1 : Int32)) < (0 : Int32) ∧ (x + (1 : Int32)) < (8 : Int32) := by
  have e8 : (8 : Int32).toInt = 8 := rfl
  rw [Int32.lt_iff_toInt_lt, Int32.lt_iff_toInt_lt, own_c0, e8, own_at1 h]; omega
theorem own_msk (a : Int32) : 0 ≤ (a &&& (2147483647 : Int32)).toInt := by
  rw [c_mask a 2147483647 31 (by decide) (by decide)]; omega
theorem own_rem {a y : Int32} (d : Int) (hy : y.toInt = d) (hd : 0 < d) : 0 ≤ ((a &&& (2147483647 : Int32)) % y).toInt ∧ ((a &&& (2147483647 : Int32)) % y).toInt < d := by
  rw [(c_irem (a &&& (2147483647 : Int32)) y d hy).1 (own_msk a)]
  exact ⟨Int.emod_nonneg _ (by omega), Int.emod_lt_of_pos _ hd⟩
theorem own_atb {a x : Int32} (h : (a &&& (2147483647 : Int32)) % (7 : Int32) = x) : 0 ≤ x.toInt ∧ x.toInt ≤ 6 := by
  have q := own_rem (a := a) (y := 7) 7 rfl (by decide)
  rw [h] at q; omega
theorem own_rlb {a x : Int32} (h : (a &&& (2147483647 : Int32)) % (33 : Int32) = x) : 0 ≤ x.toInt ∧ x.toInt ≤ 32 := by
  have q := own_rem (a := a) (y := 33) 33 rfl (by decide)
  rw [h] at q; omega
theorem own_spb {a b x y : Int32} (h : (a &&& (2147483647 : Int32)) % (33 : Int32) = x) (q : y = (if (0 : Int32) < x then ((b &&& (2147483647 : Int32)) % (5 : Int32)) else ((b &&& (2147483647 : Int32)) % (16385 : Int32)))) : 0 ≤ y.toInt ∧ y.toInt ≤ 16384 := by
  subst q
  split
  · have q := own_rem (a := b) (y := 5) 5 rfl (by decide)
    omega
  · have q := own_rem (a := b) (y := 16385) 16385 rfl (by decide)
    omega
theorem own_spb5 {a b x y : Int32} (h : (a &&& (2147483647 : Int32)) % (33 : Int32) = x) (q : y = (if (0 : Int32) < x then ((b &&& (2147483647 : Int32)) % (5 : Int32)) else ((b &&& (2147483647 : Int32)) % (16385 : Int32)))) (hx : (0 : Int32) < x) : 0 ≤ y.toInt ∧ y.toInt ≤ 4 := by
  subst q
  rw [if_pos hx]
  have q := own_rem (a := b) (y := 5) 5 rfl (by decide)
  omega
theorem own_bb {a x : Int32} (h : a.toInt8.toInt32 = x) : x.toInt8.toInt32 = x := by subst h; simp
theorem own_gs {xs : List Int32} {i j : Nat} {v : Int32} (h : i ≠ j) : (xs.set i v).getD j 0 = xs.getD j 0 := by
  simp only [List.getD_eq_getElem?_getD, List.getElem?_set_ne h]
theorem own_gt {xs : List Int32} {i : Nat} {v : Int32} (h : i < xs.length) : (xs.set i v).getD i 0 = v := by
  simp [List.getD_eq_getElem?_getD, h]
theorem own_cl {x : Int32} (h : 0 ≤ x.toInt) : (x.toNatClampNeg : Int) = x.toInt := by simp only [Int32.toNatClampNeg]; omega
theorem own_rep {g : Int32} (i : Nat) (h : i < 8) : [g, g, g, g, g, g, g, g].getD i 0 = g := by
  match i, h with
  | 0, _ | 1, _ | 2, _ | 3, _ | 4, _ | 5, _ | 6, _ | 7, _ => rfl
theorem own_unt {g f at_ sp rl hi : Int32} (hg : g = f) (hat : 0 ≤ at_.toInt ∧ at_.toInt ≤ 6) (hh : hi = own_next at_ sp rl) : ∀ ix : Int32, ¬ ix < (0 : Int32) ∧ ix < (8 : Int32) → own_same (own_wr [g, g, g, g, g, g, g, g] at_ sp rl) ix at_ hi f = 1 := by
  intro ix hx
  have e8 : (8 : Int32).toInt = 8 := rfl
  rw [Int32.lt_iff_toInt_lt, Int32.lt_iff_toInt_lt, own_c0, e8] at hx
  have c1 := own_cl (x := ix) (by omega)
  have c2 := own_cl (x := at_) (by omega)
  have t1 := own_at1 hat
  have t2 := own_at2 hat
  have c3 := own_cl (x := at_ + 1) (by omega)
  have hr := own_rep (g := g) ix.toNatClampNeg (by omega)
  have key : ¬ (¬ ix < at_ ∧ ix < hi) → (own_wr [g, g, g, g, g, g, g, g] at_ sp rl).getD ix.toNatClampNeg 0 = f := by
    intro hn
    rw [hh, Int32.lt_iff_toInt_lt, Int32.lt_iff_toInt_lt] at hn
    unfold own_wr
    unfold own_next at hn
    by_cases h1 : sp = 0
    · rw [if_pos h1]; exact hr.trans hg
    · rw [if_neg h1] at hn ⊢
      by_cases h2 : 0 < rl
      · rw [if_pos h2] at hn ⊢
        rw [own_gs (by omega)]; exact hr.trans hg
      · rw [if_neg h2] at hn ⊢
        by_cases h3 : 64 < sp
        · rw [if_pos h3] at hn ⊢
          rw [own_gs (by omega), own_gs (by omega)]; exact hr.trans hg
        · rw [if_neg h3] at hn ⊢
          rw [own_gs (by omega)]; exact hr.trans hg
  unfold own_same
  by_cases h1 : ix < at_
  · rw [if_pos h1, key (fun q => q.1 h1), if_pos rfl]
  · rw [if_neg h1]
    by_cases h2 : ix < hi
    · rw [if_pos h2]
    · rw [if_neg h2, key (fun q => h2 q.2), if_pos rfl]
theorem own_g1 {g at_ sp rl b : Int32} (hat : 0 ≤ at_.toInt ∧ at_.toInt ≤ 6) (h1 : ¬ sp = (0 : Int32)) (h2 : (0 : Int32) < rl) (q : (List.getD (own_wr [g, g, g, g, g, g, g, g] at_ sp rl) at_.toNatClampNeg 0) &&& (255 : Int32) = b) : b = own_b1 sp rl &&& 255 := by
  have c2 := own_cl (x := at_) (by omega)
  rw [← q, own_wr, if_neg h1, if_pos h2, own_gt (by show _ < 8; omega)]
theorem own_g4 {g at_ sp rl b : Int32} (hat : 0 ≤ at_.toInt ∧ at_.toInt ≤ 6) (h1 : ¬ sp = (0 : Int32)) (h2 : ¬ (0 : Int32) < rl) (h3 : ¬ (64 : Int32) < sp) (q : (List.getD (own_wr [g, g, g, g, g, g, g, g] at_ sp rl) at_.toNatClampNeg 0) &&& (255 : Int32) = b) : b = own_b3 sp &&& 255 := by
  have c2 := own_cl (x := at_) (by omega)
  rw [← q, own_wr, if_neg h1, if_neg h2, if_neg h3, own_gt (by show _ < 8; omega)]
theorem own_g2 {g at_ sp rl b : Int32} (hat : 0 ≤ at_.toInt ∧ at_.toInt ≤ 6) (h1 : ¬ sp = (0 : Int32)) (h2 : ¬ (0 : Int32) < rl) (h3 : (64 : Int32) < sp) (q : (List.getD (own_wr [g, g, g, g, g, g, g, g] at_ sp rl) at_.toNatClampNeg 0) &&& (255 : Int32) = b) : b = own_b2 sp &&& 255 := by
  have c2 := own_cl (x := at_) (by omega)
  have t1 := own_at1 hat
  have c3 := own_cl (x := at_ + 1) (by omega)
  rw [← q, own_wr, if_neg h1, if_neg h2, if_pos h3, own_gs (by omega), own_gt (by show _ < 8; omega)]
theorem own_g3 {g at_ sp rl b : Int32} (hat : 0 ≤ at_.toInt ∧ at_.toInt ≤ 6) (h1 : ¬ sp = (0 : Int32)) (h2 : ¬ (0 : Int32) < rl) (h3 : (64 : Int32) < sp) (q : (List.getD (own_wr [g, g, g, g, g, g, g, g] at_ sp rl) (at_ + (1 : Int32)).toNatClampNeg 0) &&& (255 : Int32) = b) : b = own_b3 sp &&& 255 := by
  have t1 := own_at1 hat
  have c3 := own_cl (x := at_ + 1) (by omega)
  rw [← q, own_wr, if_neg h1, if_neg h2, if_pos h3, own_gt (by rw [List.length_set]; show _ < 8; omega)]
theorem own_fin {x : Int32} (n : Nat) (h : 0 ≤ x.toInt ∧ x.toInt < n) : ∃ k : Fin n, x = Int32.ofInt (k.1 : Int) :=
  ⟨⟨x.toInt.toNat, by omega⟩, by rw [show ((x.toInt.toNat : Nat) : Int) = x.toInt by omega, Int32.ofInt_toInt]⟩
theorem own_t1 : ∀ (r : Fin 33) (s : Fin 5), ¬ Int32.ofInt (s.1 : Int) = (0 : Int32) → (0 : Int32) < Int32.ofInt (r.1 : Int) →
    ¬ (((own_b1 (Int32.ofInt (s.1 : Int)) (Int32.ofInt (r.1 : Int)) &&& 255) &&& (128 : Int32)) = (0 : Int32)) ∧ (((((own_b1 (Int32.ofInt (s.1 : Int)) (Int32.ofInt (r.1 : Int)) &&& 255).toUInt32 >>> ((2 : Int32) &&& 31).toUInt32).toInt32) &&& (31 : Int32)) + (1 : Int32)) = Int32.ofInt (r.1 : Int) ∧ (((own_b1 (Int32.ofInt (s.1 : Int)) (Int32.ofInt (r.1 : Int)) &&& 255) &&& (3 : Int32)) + (1 : Int32)) = Int32.ofInt (s.1 : Int) := by decide +kernel
theorem own_d1 {sp rl b : Int32} (hr : 0 ≤ rl.toInt ∧ rl.toInt ≤ 32) (hs : 0 ≤ sp.toInt ∧ sp.toInt ≤ 4) (h1 : ¬ sp = (0 : Int32)) (h2 : (0 : Int32) < rl) (hb : b = own_b1 sp rl &&& 255) :
    ¬ ((b &&& (128 : Int32)) = (0 : Int32)) ∧ ((((b.toUInt32 >>> ((2 : Int32) &&& 31).toUInt32).toInt32) &&& (31 : Int32)) + (1 : Int32)) = rl ∧ ((b &&& (3 : Int32)) + (1 : Int32)) = sp := by
  obtain ⟨r, rfl⟩ := own_fin 33 (x := rl) (by omega)
  obtain ⟨s, rfl⟩ := own_fin 5 (x := sp) (by omega)
  subst hb
  exact own_t1 r s h1 h2
theorem own_t4 : ∀ s : Fin 65, ¬ Int32.ofInt (s.1 : Int) = (0 : Int32) → (((own_b3 (Int32.ofInt (s.1 : Int)) &&& 255) &&& (192 : Int32)) = (0 : Int32)) ∧ (((own_b3 (Int32.ofInt (s.1 : Int)) &&& 255) &&& (63 : Int32)) + (1 : Int32)) = Int32.ofInt (s.1 : Int) := by decide +kernel
theorem own_d4 {sp b : Int32} (hs : 0 ≤ sp.toInt ∧ sp.toInt ≤ 16384) (h1 : ¬ sp = (0 : Int32)) (h3 : ¬ (64 : Int32) < sp) (hb : b = own_b3 sp &&& 255) : ((b &&& (192 : Int32)) = (0 : Int32)) ∧ ((b &&& (63 : Int32)) + (1 : Int32)) = sp := by
  have e64 : (64 : Int32).toInt = 64 := rfl
  rw [Int32.lt_iff_toInt_lt, e64] at h3
  obtain ⟨s, rfl⟩ := own_fin 65 (x := sp) (by omega)
  subst hb
  exact own_t4 s h1
theorem own_h64 : ∀ k : Fin 64, (((((64 : Int32) ||| Int32.ofInt (k.1 : Int)).toInt8.toInt32).toInt8.toInt32 &&& 255) &&& (192 : Int32)) = (64 : Int32) ∧ (((((64 : Int32) ||| Int32.ofInt (k.1 : Int)).toInt8.toInt32).toInt8.toInt32 &&& 255) &&& (63 : Int32)) = Int32.ofInt (k.1 : Int) := by decide +kernel
theorem own_d2 {sp b b' : Int32} (hs : 0 ≤ sp.toInt ∧ sp.toInt ≤ 16384) (h3 : (64 : Int32) < sp) (hb : b = own_b2 sp &&& 255) (hb' : b' = own_b3 sp &&& 255) : ((b &&& (192 : Int32)) = (64 : Int32)) ∧ ((((b &&& (63 : Int32)) <<< ((8 : Int32) &&& 31)) ||| b') + (1 : Int32)) = sp := by
  have e64 : (64 : Int32).toInt = 64 := rfl
  have e1 : (1 : Int32).toInt = 1 := rfl
  rw [Int32.lt_iff_toInt_lt, e64] at h3
  have t0 := c_isub sp 1
  have r0 := rng32 (sp - 1)
  have t1 : (sp - 1).toInt = sp.toInt - 1 := by omega
  have t2 := c_iushr (sp - 1) 8 8 (by decide) (by decide)
  have p8 : ((2 ^ 8 : Nat) : Int) = 256 := rfl
  rw [t1, p8] at t2
  unfold own_b2 at hb
  generalize hk : ((sp - 1).toUInt32 >>> ((8 : Int32) &&& 31).toUInt32).toInt32 = kk at *
  obtain ⟨k, rfl⟩ := own_fin 64 (x := kk) (by omega)
  have q := own_h64 k
  rw [← hb] at q
  refine ⟨q.1, ?_⟩
  rw [q.2]
  generalize Int32.ofInt (k.1 : Int) = kk at *
  have s1 := c_ishl kk 8 8 (by decide)
  rw [p8] at s1
  have r1 := rng32 (kk <<< ((8 : Int32) &&& 31))
  have s2 : (kk <<< ((8 : Int32) &&& 31)).toInt = kk.toInt * 256 := by omega
  have m1 : (own_b3 sp &&& (255 : Int32)).toInt = (own_b3 sp).toInt % (2 ^ 8 : Nat) := c_mask _ 255 8 (by decide) (by decide)
  have m2 := (c_i2b (sp - 1)).1
  have m3 := (c_i2b ((sp - 1).toInt8.toInt32)).1
  have m4 : own_b3 sp = ((sp - 1).toInt8.toInt32).toInt8.toInt32 := rfl
  rw [← m4] at m3
  rw [p8] at m1
  have m5 : b'.toInt = (sp.toInt - 1) % 256 := by rw [hb', m1]; omega
  have s3 := c_or (kk <<< ((8 : Int32) &&& 31)) b' 8 (by decide) 256 rfl (by rw [s2]; omega) (by omega) (by omega)
  have r3 := rng32 ((kk <<< ((8 : Int32) &&& 31)) ||| b')
  have s4 := c_iadd ((kk <<< ((8 : Int32) &&& 31)) ||| b') 1
  have r4 := rng32 (((kk <<< ((8 : Int32) &&& 31)) ||| b') + 1)
  apply Int32.toInt_inj.mp
  omega
theorem own_pd0 : parseMethodDescriptor "([BIIIB)Z" = some ⟨[(.array .byte), .int, .int, .int, .byte], some .boolean⟩ := by decide +kernel
theorem own_pd1 : parseMethodDescriptor "([BIII)I" = some ⟨[(.array .byte), .int, .int, .int], some .int⟩ := by decide +kernel
theorem own_pd2 : parseMethodDescriptor "([BIIB)Z" = some ⟨[(.array .byte), .int, .int, .byte], some .boolean⟩ := by decide +kernel
theorem own_d1_0 : decode prog_11_method_19_code 0 = .ok (.iload_n 2, 1) := by decide +kernel
theorem own_d1_1 : decode prog_11_method_19_code 1 = .ok (.ifCond .ne 5, 3) := by decide +kernel
theorem own_d1_4 : decode prog_11_method_19_code 4 = .ok (.iload_n 1, 1) := by decide +kernel
theorem own_d1_5 : decode prog_11_method_19_code 5 = .ok (.ireturn, 1) := by decide +kernel
theorem own_d1_6 : decode prog_11_method_19_code 6 = .ok (.iload_n 3, 1) := by decide +kernel
theorem own_d1_7 : decode prog_11_method_19_code 7 = .ok (.ifCond .le 24, 3) := by decide +kernel
theorem own_d1_10 : decode prog_11_method_19_code 10 = .ok (.aload_n 0, 1) := by decide +kernel
theorem own_d1_11 : decode prog_11_method_19_code 11 = .ok (.iload_n 1, 1) := by decide +kernel
theorem own_d1_12 : decode prog_11_method_19_code 12 = .ok (.sipush 128, 3) := by decide +kernel
theorem own_d1_15 : decode prog_11_method_19_code 15 = .ok (.iload_n 3, 1) := by decide +kernel
theorem own_d1_16 : decode prog_11_method_19_code 16 = .ok (.iconst 1, 1) := by decide +kernel
theorem own_d1_17 : decode prog_11_method_19_code 17 = .ok (.isub, 1) := by decide +kernel
theorem own_d1_18 : decode prog_11_method_19_code 18 = .ok (.iconst 2, 1) := by decide +kernel
theorem own_d1_19 : decode prog_11_method_19_code 19 = .ok (.ishl, 1) := by decide +kernel
theorem own_d1_20 : decode prog_11_method_19_code 20 = .ok (.ior, 1) := by decide +kernel
theorem own_d1_21 : decode prog_11_method_19_code 21 = .ok (.iload_n 2, 1) := by decide +kernel
theorem own_d1_22 : decode prog_11_method_19_code 22 = .ok (.iconst 1, 1) := by decide +kernel
theorem own_d1_23 : decode prog_11_method_19_code 23 = .ok (.isub, 1) := by decide +kernel
theorem own_d1_24 : decode prog_11_method_19_code 24 = .ok (.ior, 1) := by decide +kernel
theorem own_d1_25 : decode prog_11_method_19_code 25 = .ok (.i2b, 1) := by decide +kernel
theorem own_d1_26 : decode prog_11_method_19_code 26 = .ok (.bastore, 1) := by decide +kernel
theorem own_d1_27 : decode prog_11_method_19_code 27 = .ok (.iload_n 1, 1) := by decide +kernel
theorem own_d1_28 : decode prog_11_method_19_code 28 = .ok (.iconst 1, 1) := by decide +kernel
theorem own_d1_29 : decode prog_11_method_19_code 29 = .ok (.iadd, 1) := by decide +kernel
theorem own_d1_30 : decode prog_11_method_19_code 30 = .ok (.ireturn, 1) := by decide +kernel
theorem own_d1_31 : decode prog_11_method_19_code 31 = .ok (.iload_n 2, 1) := by decide +kernel
theorem own_d1_32 : decode prog_11_method_19_code 32 = .ok (.bipush 64, 2) := by decide +kernel
theorem own_d1_34 : decode prog_11_method_19_code 34 = .ok (.if_icmp .gt 14, 3) := by decide +kernel
theorem own_d1_37 : decode prog_11_method_19_code 37 = .ok (.aload_n 0, 1) := by decide +kernel
theorem own_d1_38 : decode prog_11_method_19_code 38 = .ok (.iload_n 1, 1) := by decide +kernel
theorem own_d1_39 : decode prog_11_method_19_code 39 = .ok (.iload_n 2, 1) := by decide +kernel
theorem own_d1_40 : decode prog_11_method_19_code 40 = .ok (.iconst 1, 1) := by decide +kernel
theorem own_d1_41 : decode prog_11_method_19_code 41 = .ok (.isub, 1) := by decide +kernel
theorem own_d1_42 : decode prog_11_method_19_code 42 = .ok (.i2b, 1) := by decide +kernel
theorem own_d1_43 : decode prog_11_method_19_code 43 = .ok (.bastore, 1) := by decide +kernel
theorem own_d1_44 : decode prog_11_method_19_code 44 = .ok (.iload_n 1, 1) := by decide +kernel
theorem own_d1_45 : decode prog_11_method_19_code 45 = .ok (.iconst 1, 1) := by decide +kernel
theorem own_d1_46 : decode prog_11_method_19_code 46 = .ok (.iadd, 1) := by decide +kernel
theorem own_d1_47 : decode prog_11_method_19_code 47 = .ok (.ireturn, 1) := by decide +kernel
theorem own_d1_48 : decode prog_11_method_19_code 48 = .ok (.aload_n 0, 1) := by decide +kernel
theorem own_d1_49 : decode prog_11_method_19_code 49 = .ok (.iload_n 1, 1) := by decide +kernel
theorem own_d1_50 : decode prog_11_method_19_code 50 = .ok (.bipush 64, 2) := by decide +kernel
theorem own_d1_52 : decode prog_11_method_19_code 52 = .ok (.iload_n 2, 1) := by decide +kernel
theorem own_d1_53 : decode prog_11_method_19_code 53 = .ok (.iconst 1, 1) := by decide +kernel
theorem own_d1_54 : decode prog_11_method_19_code 54 = .ok (.isub, 1) := by decide +kernel
theorem own_d1_55 : decode prog_11_method_19_code 55 = .ok (.bipush 8, 2) := by decide +kernel
theorem own_d1_57 : decode prog_11_method_19_code 57 = .ok (.iushr, 1) := by decide +kernel
theorem own_d1_58 : decode prog_11_method_19_code 58 = .ok (.ior, 1) := by decide +kernel
theorem own_d1_59 : decode prog_11_method_19_code 59 = .ok (.i2b, 1) := by decide +kernel
theorem own_d1_60 : decode prog_11_method_19_code 60 = .ok (.bastore, 1) := by decide +kernel
theorem own_d1_61 : decode prog_11_method_19_code 61 = .ok (.aload_n 0, 1) := by decide +kernel
theorem own_d1_62 : decode prog_11_method_19_code 62 = .ok (.iload_n 1, 1) := by decide +kernel
theorem own_d1_63 : decode prog_11_method_19_code 63 = .ok (.iconst 1, 1) := by decide +kernel
theorem own_d1_64 : decode prog_11_method_19_code 64 = .ok (.iadd, 1) := by decide +kernel
theorem own_d1_65 : decode prog_11_method_19_code 65 = .ok (.iload_n 2, 1) := by decide +kernel
theorem own_d1_66 : decode prog_11_method_19_code 66 = .ok (.iconst 1, 1) := by decide +kernel
theorem own_d1_67 : decode prog_11_method_19_code 67 = .ok (.isub, 1) := by decide +kernel
theorem own_d1_68 : decode prog_11_method_19_code 68 = .ok (.i2b, 1) := by decide +kernel
theorem own_d1_69 : decode prog_11_method_19_code 69 = .ok (.bastore, 1) := by decide +kernel
theorem own_d1_70 : decode prog_11_method_19_code 70 = .ok (.iload_n 1, 1) := by decide +kernel
theorem own_d1_71 : decode prog_11_method_19_code 71 = .ok (.iconst 2, 1) := by decide +kernel
theorem own_d1_72 : decode prog_11_method_19_code 72 = .ok (.iadd, 1) := by decide +kernel
theorem own_d1_73 : decode prog_11_method_19_code 73 = .ok (.ireturn, 1) := by decide +kernel
abbrev own_room1 : Room := { frames := 0, cells := 0, slots := 0, locals := 0 }
theorem own_pn1 : plainName "com/example/distinct_counter/distinctcounter/SparseRegisters" = true := by first | (simp [plainName, overriddenIn]; done) | decide +kernel
theorem own_ef1 (m : MethodId) (ar : Addr) (at_ : Int32) (sp : Int32) (rl : Int32) : entryFrame m #[(.ref ar), (.int at_), (.int sp), (.int rl)] 4 = mkF m 0 #[.val (.ref ar), .val (.int at_), .val (.int sp), .val (.int rl)] [] := by first | (simp [entryFrame, mkF, argsToLocals, Value.category]; done) | rfl
def own_Q1 (Z : State) (ar : Addr) (at_ : Int32) (sp : Int32) (rl : Int32) (ka : ClassId) (xs : List Int32) (h0 : Heap) (n0 : Nat) (v : Option Value) (h : Heap) (L : List Loc) : Prop := v = some (.int (own_next at_ sp rl)) ∧ Fr n0 L ∧ Keep h0 h [ar] ∧ own_AI Z h ar ka .byte (8 : Int32) (own_wr xs at_ sp rl)
set_option maxRecDepth 65536 in
set_option maxHeartbeats 40000000 in
theorem own_rm1 (l : Launch) (Z : State) (a0 : Array Value) (hw : ∀ d ∈ tables_1, d.before a0 Z = true) (ws : List Jvm.Cond) (ar : Addr) (at_ : Int32) (sp : Int32) (rl : Int32) (ka : ClassId) (xs : List Int32) (h0 : Heap) (n0 : Nat) (F0 : own_AI Z h0 ar ka .byte (8 : Int32) xs) (g_ar : n0 ≤ ar) (hat : 0 ≤ at_.toInt ∧ at_.toInt ≤ 6) :
    MetFree l (⟨"com/example/distinct_counter/distinctcounter/SparseRegisters", "writeRun", "([BIII)I"⟩ : MethodName) (head1 (Jvm.Cond.code (⟨"com/example/distinct_counter/distinctcounter/SparseRegisters", "writeRun", "([BIII)I"⟩ : MethodName) prog_11_method_19_code 4 (some .int) :: ws) (own_room1 : Room)) (fun a U => a = #[(.ref ar), (.int at_), (.int sp), (.int rl)] ∧ Z.Warmed39 U.vm ∧ U.heap = h0) (fun _ _ _ _ _ => True) (fun _ U o U' => ∃ v L, o = .returned v ∧ own_Q1 Z ar at_ sp rl ka xs h0 n0 v U'.heap L ∧ FrameEnd U o U' L (own_room1 : Room).cells (own_room1 : Room).slots) := by
  refine MetFree.of_bodySF (plainFor_of_name own_pn1) hisR ?_
  intro p e s m args below meth c s₁ Bd hml0 hP hK
  obtain ⟨rfl, hZ, hh⟩ := hP
  have hx := Bd.exec
  have hby := Bd.bytes
  have hml : c.maxLocals = 4 := hml0
  have hown : s.vm.findClass "com/example/distinct_counter/distinctcounter/SparseRegisters" = some m.cls := findClass_of_methodNamed Bd.named
  have hnm := (name_of_methodNamed Bd.named Bd.method).1
  have X0 : Stand p l e (own_room1 : Room) s m #[(.ref ar), (.int at_), (.int sp), (.int rl)] below meth c s₁ [] 0 0 := Stand.of_body Bd
  have e0 : s₁.heap = h0 := by rw [← hh, Bd.state]; rfl
  have N0 := Fr.nil n0
  have K0 := Keep.refl h0 [ar]
  refine own_out fun G hG => ?_
  rw [own_ef1 m ar at_ sp rl]
  show own_Go p.tables e below G (s₁.setTop (mkF m 0 #[.val (.ref ar), .val (.int at_), .val (.int sp), .val (.int rl)] []))
  refine own_of (S' := s₁.setTop (mkF m 1 #[.val (.ref ar), .val (.int at_), .val (.int sp), .val (.int rl)] [(.int sp)])) (fun t k => XS.iloadN X0.here hx rfl (hb hby own_d1_0) rfl k) ?_
  by_cases hc1 : sp = (0 : Int32)
  · refine own_of (S' := s₁.setTop (mkF m 4 #[.val (.ref ar), .val (.int at_), .val (.int sp), .val (.int rl)] [])) (fun t k => XS.ifNo X0.here hx rfl (hb hby own_d1_1) rfl ((if0 _ _).trans (teq hc1).2) k) ?_
    refine own_of (S' := s₁.setTop (mkF m 5 #[.val (.ref ar), .val (.int at_), .val (.int sp), .val (.int rl)] [(.int at_)])) (fun t k => XS.iloadN X0.here hx rfl (hb hby own_d1_4) rfl k) ?_
    obtain ⟨fs, hr, hrun, hended, hW, hsame⟩ := X0.leave (v := some (.int at_)) (fun h => by rw [Bd.returns] at h; cases h)
    refine ⟨_, _, own_retI X0 hx Bd.returns (hb hby own_d1_5) hr, hrun, hended, hG _ _ ⟨_, _, rfl, ?_, ⟨_, rfl⟩, hW, hsame.mono (by decide) (by decide)⟩⟩
    show own_Q1 Z ar at_ sp rl ka xs h0 n0 _ s₁.heap _
    rw [e0]
    have hl : at_ = (own_next at_ sp rl) := by rw [own_next, if_pos hc1]
    have qq2 : xs = (own_wr xs at_ sp rl) := by rw [own_wr, if_pos hc1]
    have qq3 : own_AI Z h0 ar ka .byte (8 : Int32) (own_wr xs at_ sp rl) := by rw [← qq2]; exact F0
    exact ⟨congrArg (fun w => some (Value.int w)) hl, N0, K0, qq3⟩
  · refine own_of (S' := s₁.setTop (mkF m 6 #[.val (.ref ar), .val (.int at_), .val (.int sp), .val (.int rl)] [])) (fun t k => XS.ifYes X0.here hx rfl (pc0 := 1) (pc' := 6) rfl (hb hby own_d1_1) rfl ((if0 _ _).trans (feq hc1).2) (by decide) (by decide) k) ?_
    refine own_of (S' := s₁.setTop (mkF m 7 #[.val (.ref ar), .val (.int at_), .val (.int sp), .val (.int rl)] [(.int rl)])) (fun t k => XS.iloadN X0.here hx rfl (hb hby own_d1_6) rfl k) ?_
    by_cases hc7 : (0 : Int32) < rl
    · refine own_of (S' := s₁.setTop (mkF m 10 #[.val (.ref ar), .val (.int at_), .val (.int sp), .val (.int rl)] [])) (fun t k => XS.ifNo X0.here hx rfl (hb hby own_d1_7) rfl ((if0 _ _).trans (tlt hc7).2.2.2) k) ?_
      refine own_of (S' := s₁.setTop (mkF m 11 #[.val (.ref ar), .val (.int at_), .val (.int sp), .val (.int rl)] [(.ref ar)])) (fun t k => XS.aloadN X0.here hx rfl (hb hby own_d1_10) rfl rfl k) ?_
      refine own_of (S' := s₁.setTop (mkF m 12 #[.val (.ref ar), .val (.int at_), .val (.int sp), .val (.int rl)] [(.int at_), (.ref ar)])) (fun t k => XS.iloadN X0.here hx rfl (hb hby own_d1_11) rfl k) ?_
      refine own_of (S' := s₁.setTop (mkF m 15 #[.val (.ref ar), .val (.int at_), .val (.int sp), .val (.int rl)] [(.int (128 : Int32)), (.int at_), (.ref ar)])) (fun t k => XS.sipush X0.here hx rfl (hb hby own_d1_12) k) ?_
      refine own_of (S' := s₁.setTop (mkF m 16 #[.val (.ref ar), .val (.int at_), .val (.int sp), .val (.int rl)] [(.int rl), (.int (128 : Int32)), (.int at_), (.ref ar)])) (fun t k => XS.iloadN X0.here hx rfl (hb hby own_d1_15) rfl k) ?_
      refine own_of (S' := s₁.setTop (mkF m 17 #[.val (.ref ar), .val (.int at_), .val (.int sp), .val (.int rl)] [(.int (1 : Int32)), (.int rl), (.int (128 : Int32)), (.int at_), (.ref ar)])) (fun t k => XS.iconst X0.here hx rfl (hb hby own_d1_16) k) ?_
      refine own_of (S' := s₁.setTop (mkF m 18 #[.val (.ref ar), .val (.int at_), .val (.int sp), .val (.int rl)] [(.int (rl - (1 : Int32))), (.int (128 : Int32)), (.int at_), (.ref ar)])) (fun t k => XS.isub X0.here hx rfl (hb hby own_d1_17) rfl k) ?_
      refine own_of (S' := s₁.setTop (mkF m 19 #[.val (.ref ar), .val (.int at_), .val (.int sp), .val (.int rl)] [(.int (2 : Int32)), (.int (rl - (1 : Int32))), (.int (128 : Int32)), (.int at_), (.ref ar)])) (fun t k => XS.iconst X0.here hx rfl (hb hby own_d1_18) k) ?_
      refine own_of (S' := s₁.setTop (mkF m 20 #[.val (.ref ar), .val (.int at_), .val (.int sp), .val (.int rl)] [(.int ((rl - (1 : Int32)) <<< ((2 : Int32) &&& 31))), (.int (128 : Int32)), (.int at_), (.ref ar)])) (fun t k => XS.ishl X0.here hx rfl (hb hby own_d1_19) rfl k) ?_
      refine own_of (S' := s₁.setTop (mkF m 21 #[.val (.ref ar), .val (.int at_), .val (.int sp), .val (.int rl)] [(.int ((128 : Int32) ||| ((rl - (1 : Int32)) <<< ((2 : Int32) &&& 31)))), (.int at_), (.ref ar)])) (fun t k => XS.ior X0.here hx rfl (hb hby own_d1_20) rfl k) ?_
      refine own_of (S' := s₁.setTop (mkF m 22 #[.val (.ref ar), .val (.int at_), .val (.int sp), .val (.int rl)] [(.int sp), (.int ((128 : Int32) ||| ((rl - (1 : Int32)) <<< ((2 : Int32) &&& 31)))), (.int at_), (.ref ar)])) (fun t k => XS.iloadN X0.here hx rfl (hb hby own_d1_21) rfl k) ?_
      refine own_of (S' := s₁.setTop (mkF m 23 #[.val (.ref ar), .val (.int at_), .val (.int sp), .val (.int rl)] [(.int (1 : Int32)), (.int sp), (.int ((128 : Int32) ||| ((rl - (1 : Int32)) <<< ((2 : Int32) &&& 31)))), (.int at_), (.ref ar)])) (fun t k => XS.iconst X0.here hx rfl (hb hby own_d1_22) k) ?_
      refine own_of (S' := s₁.setTop (mkF m 24 #[.val (.ref ar), .val (.int at_), .val (.int sp), .val (.int rl)] [(.int (sp - (1 : Int32))), (.int ((128 : Int32) ||| ((rl - (1 : Int32)) <<< ((2 : Int32) &&& 31)))), (.int at_), (.ref ar)])) (fun t k => XS.isub X0.here hx rfl (hb hby own_d1_23) rfl k) ?_
      refine own_of (S' := s₁.setTop (mkF m 25 #[.val (.ref ar), .val (.int at_), .val (.int sp), .val (.int rl)] [(.int (((128 : Int32) ||| ((rl - (1 : Int32)) <<< ((2 : Int32) &&& 31))) ||| (sp - (1 : Int32)))), (.int at_), (.ref ar)])) (fun t k => XS.ior X0.here hx rfl (hb hby own_d1_24) rfl k) ?_
      refine own_of (S' := s₁.setTop (mkF m 26 #[.val (.ref ar), .val (.int at_), .val (.int sp), .val (.int rl)] [(.int ((((128 : Int32) ||| ((rl - (1 : Int32)) <<< ((2 : Int32) &&& 31))) ||| (sp - (1 : Int32))).toInt8.toInt32)), (.int at_), (.ref ar)])) (fun t k => XS.i2b X0.here hx rfl (hb hby own_d1_25) rfl k) ?_
      generalize q26 : ((((128 : Int32) ||| ((rl - (1 : Int32)) <<< ((2 : Int32) &&& 31))) ||| (sp - (1 : Int32))).toInt8.toInt32) = x26
      obtain ⟨T5, h5, X5, e5, W5, V5, st5⟩ := own_stB X0 hx hZ e0 F0 (j := at_) (own_in0 hat) (g := (mkF m 26 #[.val (.ref ar), .val (.int at_), .val (.int sp), .val (.int rl)] [(.int x26), (.int at_), (.ref ar)])) rfl rfl (hb hby own_d1_26)
      have f6 : own_AI Z h5 ar ka .byte (8 : Int32) (List.set xs (at_).toNatClampNeg (x26.toInt8.toInt32)) := V5
      have N5 := Fr.snoc X5 N0 g_ar
      have kk7 : Keep h0 h5 [ar] := K0.wr W5 (Or.inl (List.mem_of_getElem? (i := 0) rfl))
      refine own_of (S' := T5.setTop (mkF m 27 #[.val (.ref ar), .val (.int at_), .val (.int sp), .val (.int rl)] [])) st5 ?_
      refine own_of (S' := T5.setTop (mkF m 28 #[.val (.ref ar), .val (.int at_), .val (.int sp), .val (.int rl)] [(.int at_)])) (fun t k => XS.iloadN X5.here hx rfl (hb hby own_d1_27) rfl k) ?_
      refine own_of (S' := T5.setTop (mkF m 29 #[.val (.ref ar), .val (.int at_), .val (.int sp), .val (.int rl)] [(.int (1 : Int32)), (.int at_)])) (fun t k => XS.iconst X5.here hx rfl (hb hby own_d1_28) k) ?_
      refine own_of (S' := T5.setTop (mkF m 30 #[.val (.ref ar), .val (.int at_), .val (.int sp), .val (.int rl)] [(.int (at_ + (1 : Int32)))])) (fun t k => XS.iadd X5.here hx rfl (hb hby own_d1_29) rfl k) ?_
      obtain ⟨fs, hr, hrun, hended, hW, hsame⟩ := X5.leave (v := some (.int (at_ + (1 : Int32)))) (fun h => by rw [Bd.returns] at h; cases h)
      refine ⟨_, _, own_retI X5 hx Bd.returns (hb hby own_d1_30) hr, hrun, hended, hG _ _ ⟨_, _, rfl, ?_, ⟨_, rfl⟩, hW, hsame.mono (by decide) (by decide)⟩⟩
      show own_Q1 Z ar at_ sp rl ka xs h0 n0 _ T5.heap _
      rw [e5]
      have hl : (at_ + (1 : Int32)) = (own_next at_ sp rl) := by rw [own_next, if_neg hc1, if_pos hc7]
      have qq8 : (List.set xs (at_).toNatClampNeg (x26.toInt8.toInt32)) = (own_wr xs at_ sp rl) := by subst q26; rw [own_wr, if_neg hc1, if_pos hc7]; rfl
      have qq9 : own_AI Z h5 ar ka .byte (8 : Int32) (own_wr xs at_ sp rl) := by rw [← qq8]; exact f6
      exact ⟨congrArg (fun w => some (Value.int w)) hl, N5, kk7, qq9⟩
    · refine own_of (S' := s₁.setTop (mkF m 31 #[.val (.ref ar), .val (.int at_), .val (.int sp), .val (.int rl)] [])) (fun t k => XS.ifYes X0.here hx rfl (pc0 := 7) (pc' := 31) rfl (hb hby own_d1_7) rfl ((if0 _ _).trans (flt hc7).2.2.2) (by decide) (by decide) k) ?_
      refine own_of (S' := s₁.setTop (mkF m 32 #[.val (.ref ar), .val (.int at_), .val (.int sp), .val (.int rl)] [(.int sp)])) (fun t k => XS.iloadN X0.here hx rfl (hb hby own_d1_31) rfl k) ?_
      refine own_of (S' := s₁.setTop (mkF m 34 #[.val (.ref ar), .val (.int at_), .val (.int sp), .val (.int rl)] [(.int (64 : Int32)), (.int sp)])) (fun t k => XS.bipush X0.here hx rfl (hb hby own_d1_32) k) ?_
      by_cases hc34 : (64 : Int32) < sp
      · refine own_of (S' := s₁.setTop (mkF m 48 #[.val (.ref ar), .val (.int at_), .val (.int sp), .val (.int rl)] [])) (fun t k => XS.icmpYes X0.here hx rfl (pc0 := 34) (pc' := 48) rfl (hb hby own_d1_34) rfl (tlt hc34).2.2.1 (by decide) (by decide) k) ?_
        refine own_of (S' := s₁.setTop (mkF m 49 #[.val (.ref ar), .val (.int at_), .val (.int sp), .val (.int rl)] [(.ref ar)])) (fun t k => XS.aloadN X0.here hx rfl (hb hby own_d1_48) rfl rfl k) ?_
        refine own_of (S' := s₁.setTop (mkF m 50 #[.val (.ref ar), .val (.int at_), .val (.int sp), .val (.int rl)] [(.int at_), (.ref ar)])) (fun t k => XS.iloadN X0.here hx rfl (hb hby own_d1_49) rfl k) ?_
        refine own_of (S' := s₁.setTop (mkF m 52 #[.val (.ref ar), .val (.int at_), .val (.int sp), .val (.int rl)] [(.int (64 : Int32)), (.int at_), (.ref ar)])) (fun t k => XS.bipush X0.here hx rfl (hb hby own_d1_50) k) ?_
        refine own_of (S' := s₁.setTop (mkF m 53 #[.val (.ref ar), .val (.int at_), .val (.int sp), .val (.int rl)] [(.int sp), (.int (64 : Int32)), (.int at_), (.ref ar)])) (fun t k => XS.iloadN X0.here hx rfl (hb hby own_d1_52) rfl k) ?_
        refine own_of (S' := s₁.setTop (mkF m 54 #[.val (.ref ar), .val (.int at_), .val (.int sp), .val (.int rl)] [(.int (1 : Int32)), (.int sp), (.int (64 : Int32)), (.int at_), (.ref ar)])) (fun t k => XS.iconst X0.here hx rfl (hb hby own_d1_53) k) ?_
        refine own_of (S' := s₁.setTop (mkF m 55 #[.val (.ref ar), .val (.int at_), .val (.int sp), .val (.int rl)] [(.int (sp - (1 : Int32))), (.int (64 : Int32)), (.int at_), (.ref ar)])) (fun t k => XS.isub X0.here hx rfl (hb hby own_d1_54) rfl k) ?_
        refine own_of (S' := s₁.setTop (mkF m 57 #[.val (.ref ar), .val (.int at_), .val (.int sp), .val (.int rl)] [(.int (8 : Int32)), (.int (sp - (1 : Int32))), (.int (64 : Int32)), (.int at_), (.ref ar)])) (fun t k => XS.bipush X0.here hx rfl (hb hby own_d1_55) k) ?_
        refine own_of (S' := s₁.setTop (mkF m 58 #[.val (.ref ar), .val (.int at_), .val (.int sp), .val (.int rl)] [(.int (((sp - (1 : Int32)).toUInt32 >>> ((8 : Int32) &&& 31).toUInt32).toInt32)), (.int (64 : Int32)), (.int at_), (.ref ar)])) (fun t k => XS.iushr X0.here hx rfl (hb hby own_d1_57) rfl k) ?_
        refine own_of (S' := s₁.setTop (mkF m 59 #[.val (.ref ar), .val (.int at_), .val (.int sp), .val (.int rl)] [(.int ((64 : Int32) ||| (((sp - (1 : Int32)).toUInt32 >>> ((8 : Int32) &&& 31).toUInt32).toInt32))), (.int at_), (.ref ar)])) (fun t k => XS.ior X0.here hx rfl (hb hby own_d1_58) rfl k) ?_
        refine own_of (S' := s₁.setTop (mkF m 60 #[.val (.ref ar), .val (.int at_), .val (.int sp), .val (.int rl)] [(.int (((64 : Int32) ||| (((sp - (1 : Int32)).toUInt32 >>> ((8 : Int32) &&& 31).toUInt32).toInt32)).toInt8.toInt32)), (.int at_), (.ref ar)])) (fun t k => XS.i2b X0.here hx rfl (hb hby own_d1_59) rfl k) ?_
        generalize q60 : (((64 : Int32) ||| (((sp - (1 : Int32)).toUInt32 >>> ((8 : Int32) &&& 31).toUInt32).toInt32)).toInt8.toInt32) = x60
        obtain ⟨T11, h11, X11, e11, W11, V11, st11⟩ := own_stB X0 hx hZ e0 F0 (j := at_) (own_in0 hat) (g := (mkF m 60 #[.val (.ref ar), .val (.int at_), .val (.int sp), .val (.int rl)] [(.int x60), (.int at_), (.ref ar)])) rfl rfl (hb hby own_d1_60)
        have f12 : own_AI Z h11 ar ka .byte (8 : Int32) (List.set xs (at_).toNatClampNeg (x60.toInt8.toInt32)) := V11
        have N11 := Fr.snoc X11 N0 g_ar
        have kk13 : Keep h0 h11 [ar] := K0.wr W11 (Or.inl (List.mem_of_getElem? (i := 0) rfl))
        refine own_of (S' := T11.setTop (mkF m 61 #[.val (.ref ar), .val (.int at_), .val (.int sp), .val (.int rl)] [])) st11 ?_
        refine own_of (S' := T11.setTop (mkF m 62 #[.val (.ref ar), .val (.int at_), .val (.int sp), .val (.int rl)] [(.ref ar)])) (fun t k => XS.aloadN X11.here hx rfl (hb hby own_d1_61) rfl rfl k) ?_
        refine own_of (S' := T11.setTop (mkF m 63 #[.val (.ref ar), .val (.int at_), .val (.int sp), .val (.int rl)] [(.int at_), (.ref ar)])) (fun t k => XS.iloadN X11.here hx rfl (hb hby own_d1_62) rfl k) ?_
        refine own_of (S' := T11.setTop (mkF m 64 #[.val (.ref ar), .val (.int at_), .val (.int sp), .val (.int rl)] [(.int (1 : Int32)), (.int at_), (.ref ar)])) (fun t k => XS.iconst X11.here hx rfl (hb hby own_d1_63) k) ?_
        refine own_of (S' := T11.setTop (mkF m 65 #[.val (.ref ar), .val (.int at_), .val (.int sp), .val (.int rl)] [(.int (at_ + (1 : Int32))), (.ref ar)])) (fun t k => XS.iadd X11.here hx rfl (hb hby own_d1_64) rfl k) ?_
        refine own_of (S' := T11.setTop (mkF m 66 #[.val (.ref ar), .val (.int at_), .val (.int sp), .val (.int rl)] [(.int sp), (.int (at_ + (1 : Int32))), (.ref ar)])) (fun t k => XS.iloadN X11.here hx rfl (hb hby own_d1_65) rfl k) ?_
        refine own_of (S' := T11.setTop (mkF m 67 #[.val (.ref ar), .val (.int at_), .val (.int sp), .val (.int rl)] [(.int (1 : Int32)), (.int sp), (.int (at_ + (1 : Int32))), (.ref ar)])) (fun t k => XS.iconst X11.here hx rfl (hb hby own_d1_66) k) ?_
        refine own_of (S' := T11.setTop (mkF m 68 #[.val (.ref ar), .val (.int at_), .val (.int sp), .val (.int rl)] [(.int (sp - (1 : Int32))), (.int (at_ + (1 : Int32))), (.ref ar)])) (fun t k => XS.isub X11.here hx rfl (hb hby own_d1_67) rfl k) ?_
        refine own_of (S' := T11.setTop (mkF m 69 #[.val (.ref ar), .val (.int at_), .val (.int sp), .val (.int rl)] [(.int ((sp - (1 : Int32)).toInt8.toInt32)), (.int (at_ + (1 : Int32))), (.ref ar)])) (fun t k => XS.i2b X11.here hx rfl (hb hby own_d1_68) rfl k) ?_
        generalize q69 : ((sp - (1 : Int32)).toInt8.toInt32) = x69
        obtain ⟨T14, h14, X14, e14, W14, V14, st14⟩ := own_stB X11 hx hZ e11 f12 (j := (at_ + (1 : Int32))) (own_in1 hat) (g := (mkF m 69 #[.val (.ref ar), .val (.int at_), .val (.int sp), .val (.int rl)] [(.int x69), (.int (at_ + (1 : Int32))), (.ref ar)])) rfl rfl (hb hby own_d1_69)
        have f15 : own_AI Z h14 ar ka .byte (8 : Int32) (List.set (List.set xs (at_).toNatClampNeg (x60.toInt8.toInt32)) ((at_ + (1 : Int32))).toNatClampNeg (x69.toInt8.toInt32)) := V14
        have N14 := Fr.snoc X14 N11 g_ar
        have kk16 : Keep h0 h14 [ar] := kk13.wr W14 (Or.inl (List.mem_of_getElem? (i := 0) rfl))
        refine own_of (S' := T14.setTop (mkF m 70 #[.val (.ref ar), .val (.int at_), .val (.int sp), .val (.int rl)] [])) st14 ?_
        refine own_of (S' := T14.setTop (mkF m 71 #[.val (.ref ar), .val (.int at_), .val (.int sp), .val (.int rl)] [(.int at_)])) (fun t k => XS.iloadN X14.here hx rfl (hb hby own_d1_70) rfl k) ?_
        refine own_of (S' := T14.setTop (mkF m 72 #[.val (.ref ar), .val (.int at_), .val (.int sp), .val (.int rl)] [(.int (2 : Int32)), (.int at_)])) (fun t k => XS.iconst X14.here hx rfl (hb hby own_d1_71) k) ?_
        refine own_of (S' := T14.setTop (mkF m 73 #[.val (.ref ar), .val (.int at_), .val (.int sp), .val (.int rl)] [(.int (at_ + (2 : Int32)))])) (fun t k => XS.iadd X14.here hx rfl (hb hby own_d1_72) rfl k) ?_
        obtain ⟨fs, hr, hrun, hended, hW, hsame⟩ := X14.leave (v := some (.int (at_ + (2 : Int32)))) (fun h => by rw [Bd.returns] at h; cases h)
        refine ⟨_, _, own_retI X14 hx Bd.returns (hb hby own_d1_73) hr, hrun, hended, hG _ _ ⟨_, _, rfl, ?_, ⟨_, rfl⟩, hW, hsame.mono (by decide) (by decide)⟩⟩
        show own_Q1 Z ar at_ sp rl ka xs h0 n0 _ T14.heap _
        rw [e14]
        have hl : (at_ + (2 : Int32)) = (own_next at_ sp rl) := by rw [own_next, if_neg hc1, if_neg hc7, if_pos hc34]
        have qq17 : (List.set (List.set xs (at_).toNatClampNeg (x60.toInt8.toInt32)) ((at_ + (1 : Int32))).toNatClampNeg (x69.toInt8.toInt32)) = (own_wr xs at_ sp rl) := by subst q60 q69; rw [own_wr, if_neg hc1, if_neg hc7, if_pos hc34]; rfl
        have qq18 : own_AI Z h14 ar ka .byte (8 : Int32) (own_wr xs at_ sp rl) := by rw [← qq17]; exact f15
        exact ⟨congrArg (fun w => some (Value.int w)) hl, N14, kk16, qq18⟩
      · refine own_of (S' := s₁.setTop (mkF m 37 #[.val (.ref ar), .val (.int at_), .val (.int sp), .val (.int rl)] [])) (fun t k => XS.icmpNo X0.here hx rfl (hb hby own_d1_34) rfl (flt hc34).2.2.1 k) ?_
        refine own_of (S' := s₁.setTop (mkF m 38 #[.val (.ref ar), .val (.int at_), .val (.int sp), .val (.int rl)] [(.ref ar)])) (fun t k => XS.aloadN X0.here hx rfl (hb hby own_d1_37) rfl rfl k) ?_
        refine own_of (S' := s₁.setTop (mkF m 39 #[.val (.ref ar), .val (.int at_), .val (.int sp), .val (.int rl)] [(.int at_), (.ref ar)])) (fun t k => XS.iloadN X0.here hx rfl (hb hby own_d1_38) rfl k) ?_
        refine own_of (S' := s₁.setTop (mkF m 40 #[.val (.ref ar), .val (.int at_), .val (.int sp), .val (.int rl)] [(.int sp), (.int at_), (.ref ar)])) (fun t k => XS.iloadN X0.here hx rfl (hb hby own_d1_39) rfl k) ?_
        refine own_of (S' := s₁.setTop (mkF m 41 #[.val (.ref ar), .val (.int at_), .val (.int sp), .val (.int rl)] [(.int (1 : Int32)), (.int sp), (.int at_), (.ref ar)])) (fun t k => XS.iconst X0.here hx rfl (hb hby own_d1_40) k) ?_
        refine own_of (S' := s₁.setTop (mkF m 42 #[.val (.ref ar), .val (.int at_), .val (.int sp), .val (.int rl)] [(.int (sp - (1 : Int32))), (.int at_), (.ref ar)])) (fun t k => XS.isub X0.here hx rfl (hb hby own_d1_41) rfl k) ?_
        refine own_of (S' := s₁.setTop (mkF m 43 #[.val (.ref ar), .val (.int at_), .val (.int sp), .val (.int rl)] [(.int ((sp - (1 : Int32)).toInt8.toInt32)), (.int at_), (.ref ar)])) (fun t k => XS.i2b X0.here hx rfl (hb hby own_d1_42) rfl k) ?_
        generalize q43 : ((sp - (1 : Int32)).toInt8.toInt32) = x43
        obtain ⟨T19, h19, X19, e19, W19, V19, st19⟩ := own_stB X0 hx hZ e0 F0 (j := at_) (own_in0 hat) (g := (mkF m 43 #[.val (.ref ar), .val (.int at_), .val (.int sp), .val (.int rl)] [(.int x43), (.int at_), (.ref ar)])) rfl rfl (hb hby own_d1_43)
        have f20 : own_AI Z h19 ar ka .byte (8 : Int32) (List.set xs (at_).toNatClampNeg (x43.toInt8.toInt32)) := V19
        have N19 := Fr.snoc X19 N0 g_ar
        have kk21 : Keep h0 h19 [ar] := K0.wr W19 (Or.inl (List.mem_of_getElem? (i := 0) rfl))
        refine own_of (S' := T19.setTop (mkF m 44 #[.val (.ref ar), .val (.int at_), .val (.int sp), .val (.int rl)] [])) st19 ?_
        refine own_of (S' := T19.setTop (mkF m 45 #[.val (.ref ar), .val (.int at_), .val (.int sp), .val (.int rl)] [(.int at_)])) (fun t k => XS.iloadN X19.here hx rfl (hb hby own_d1_44) rfl k) ?_
        refine own_of (S' := T19.setTop (mkF m 46 #[.val (.ref ar), .val (.int at_), .val (.int sp), .val (.int rl)] [(.int (1 : Int32)), (.int at_)])) (fun t k => XS.iconst X19.here hx rfl (hb hby own_d1_45) k) ?_
        refine own_of (S' := T19.setTop (mkF m 47 #[.val (.ref ar), .val (.int at_), .val (.int sp), .val (.int rl)] [(.int (at_ + (1 : Int32)))])) (fun t k => XS.iadd X19.here hx rfl (hb hby own_d1_46) rfl k) ?_
        obtain ⟨fs, hr, hrun, hended, hW, hsame⟩ := X19.leave (v := some (.int (at_ + (1 : Int32)))) (fun h => by rw [Bd.returns] at h; cases h)
        refine ⟨_, _, own_retI X19 hx Bd.returns (hb hby own_d1_47) hr, hrun, hended, hG _ _ ⟨_, _, rfl, ?_, ⟨_, rfl⟩, hW, hsame.mono (by decide) (by decide)⟩⟩
        show own_Q1 Z ar at_ sp rl ka xs h0 n0 _ T19.heap _
        rw [e19]
        have hl : (at_ + (1 : Int32)) = (own_next at_ sp rl) := by rw [own_next, if_neg hc1, if_neg hc7, if_neg hc34]
        have qq22 : (List.set xs (at_).toNatClampNeg (x43.toInt8.toInt32)) = (own_wr xs at_ sp rl) := by subst q43; rw [own_wr, if_neg hc1, if_neg hc7, if_neg hc34]; rfl
        have qq23 : own_AI Z h19 ar ka .byte (8 : Int32) (own_wr xs at_ sp rl) := by rw [← qq22]; exact f20
        exact ⟨congrArg (fun w => some (Value.int w)) hl, N19, kk21, qq23⟩
theorem own_d2_0 : decode method_3_code 0 = .ok (.iload_n 1, 1) := by decide +kernel
theorem own_d2_1 : decode method_3_code 1 = .ok (.iload_n 2, 1) := by decide +kernel
theorem own_d2_2 : decode method_3_code 2 = .ok (.if_icmp .lt 8, 3) := by decide +kernel
theorem own_d2_5 : decode method_3_code 5 = .ok (.iload_n 1, 1) := by decide +kernel
theorem own_d2_6 : decode method_3_code 6 = .ok (.iload_n 3, 1) := by decide +kernel
theorem own_d2_7 : decode method_3_code 7 = .ok (.if_icmp .lt 11, 3) := by decide +kernel
theorem own_d2_10 : decode method_3_code 10 = .ok (.aload_n 0, 1) := by decide +kernel
theorem own_d2_11 : decode method_3_code 11 = .ok (.iload_n 1, 1) := by decide +kernel
theorem own_d2_12 : decode method_3_code 12 = .ok (.baload, 1) := by decide +kernel
theorem own_d2_13 : decode method_3_code 13 = .ok (.iload 4, 2) := by decide +kernel
theorem own_d2_15 : decode method_3_code 15 = .ok (.if_icmp .ne 7, 3) := by decide +kernel
theorem own_d2_18 : decode method_3_code 18 = .ok (.iconst 1, 1) := by decide +kernel
theorem own_d2_19 : decode method_3_code 19 = .ok (.goto 4, 3) := by decide +kernel
theorem own_d2_22 : decode method_3_code 22 = .ok (.iconst 0, 1) := by decide +kernel
theorem own_d2_23 : decode method_3_code 23 = .ok (.ireturn, 1) := by decide +kernel
abbrev own_room2 : Room := { frames := 0, cells := 0, slots := 0, locals := 0 }
theorem own_pn2 : plainName "com/example/distinct_counter/distinctcounter/SparseRegistersWriteRunPinLaw" = true := by first | (simp [plainName, overriddenIn]; done) | decide +kernel
theorem own_ef2 (m : MethodId) (ar : Addr) (ix : Int32) (lo : Int32) (hi : Int32) (ff : Int32) : entryFrame m #[(.ref ar), (.int ix), (.int lo), (.int hi), (.int ff)] 5 = mkF m 0 #[.val (.ref ar), .val (.int ix), .val (.int lo), .val (.int hi), .val (.int ff)] [] := by first | (simp [entryFrame, mkF, argsToLocals, Value.category]; done) | rfl
def own_Q2 (Z : State) (ar : Addr) (ix : Int32) (lo : Int32) (hi : Int32) (ff : Int32) (ka : ClassId) (xs : List Int32) (h0 : Heap) (n0 : Nat) (v : Option Value) (h : Heap) (L : List Loc) : Prop := v = some (.int (own_same xs ix lo hi ff)) ∧ Fr n0 L ∧ h = h0
set_option maxRecDepth 65536 in
set_option maxHeartbeats 40000000 in
theorem own_rm2 (l : Launch) (Z : State) (a0 : Array Value) (hw : ∀ d ∈ tables_1, d.before a0 Z = true) (ws : List Jvm.Cond) (ar : Addr) (ix : Int32) (lo : Int32) (hi : Int32) (ff : Int32) (ka : ClassId) (xs : List Int32) (h0 : Heap) (n0 : Nat) (F0 : own_AI Z h0 ar ka .byte (8 : Int32) xs) (hin : ¬ ix < (0 : Int32) ∧ ix < (8 : Int32)) :
    MetFree l (⟨"com/example/distinct_counter/distinctcounter/SparseRegistersWriteRunPinLaw", "same", "([BIIIB)Z"⟩ : MethodName) (head1 (Jvm.Cond.code (⟨"com/example/distinct_counter/distinctcounter/SparseRegistersWriteRunPinLaw", "same", "([BIIIB)Z"⟩ : MethodName) method_3_code 5 (some .boolean) :: ws) (own_room2 : Room)) (fun a U => a = #[(.ref ar), (.int ix), (.int lo), (.int hi), (.int ff)] ∧ Z.Warmed39 U.vm ∧ U.heap = h0) (fun _ _ _ _ _ => True) (fun _ U o U' => ∃ v L, o = .returned v ∧ own_Q2 Z ar ix lo hi ff ka xs h0 n0 v U'.heap L ∧ FrameEnd U o U' L (own_room2 : Room).cells (own_room2 : Room).slots) := by
  refine MetFree.of_bodySF (plainFor_of_name own_pn2) hisR ?_
  intro p e s m args below meth c s₁ Bd hml0 hP hK
  obtain ⟨rfl, hZ, hh⟩ := hP
  have hx := Bd.exec
  have hby := Bd.bytes
  have hml : c.maxLocals = 5 := hml0
  have hown : s.vm.findClass "com/example/distinct_counter/distinctcounter/SparseRegistersWriteRunPinLaw" = some m.cls := findClass_of_methodNamed Bd.named
  have hnm := (name_of_methodNamed Bd.named Bd.method).1
  have X0 : Stand p l e (own_room2 : Room) s m #[(.ref ar), (.int ix), (.int lo), (.int hi), (.int ff)] below meth c s₁ [] 0 0 := Stand.of_body Bd
  have e0 : s₁.heap = h0 := by rw [← hh, Bd.state]; rfl
  have N0 := Fr.nil n0
  refine own_out fun G hG => ?_
  rw [own_ef2 m ar ix lo hi ff]
  show own_Go p.tables e below G (s₁.setTop (mkF m 0 #[.val (.ref ar), .val (.int ix), .val (.int lo), .val (.int hi), .val (.int ff)] []))
  refine own_of (S' := s₁.setTop (mkF m 1 #[.val (.ref ar), .val (.int ix), .val (.int lo), .val (.int hi), .val (.int ff)] [(.int ix)])) (fun t k => XS.iloadN X0.here hx rfl (hb hby own_d2_0) rfl k) ?_
  refine own_of (S' := s₁.setTop (mkF m 2 #[.val (.ref ar), .val (.int ix), .val (.int lo), .val (.int hi), .val (.int ff)] [(.int lo), (.int ix)])) (fun t k => XS.iloadN X0.here hx rfl (hb hby own_d2_1) rfl k) ?_
  by_cases hc2 : ix < lo
  · refine own_of (S' := s₁.setTop (mkF m 10 #[.val (.ref ar), .val (.int ix), .val (.int lo), .val (.int hi), .val (.int ff)] [])) (fun t k => XS.icmpYes X0.here hx rfl (pc0 := 2) (pc' := 10) rfl (hb hby own_d2_2) rfl (tlt hc2).1 (by decide) (by decide) k) ?_
    refine own_of (S' := s₁.setTop (mkF m 11 #[.val (.ref ar), .val (.int ix), .val (.int lo), .val (.int hi), .val (.int ff)] [(.ref ar)])) (fun t k => XS.aloadN X0.here hx rfl (hb hby own_d2_10) rfl rfl k) ?_
    refine own_of (S' := s₁.setTop (mkF m 12 #[.val (.ref ar), .val (.int ix), .val (.int lo), .val (.int hi), .val (.int ff)] [(.int ix), (.ref ar)])) (fun t k => XS.iloadN X0.here hx rfl (hb hby own_d2_11) rfl k) ?_
    refine own_of (S' := s₁.setTop (mkF m 13 #[.val (.ref ar), .val (.int ix), .val (.int lo), .val (.int hi), .val (.int ff)] [(.int (List.getD xs (ix).toNatClampNeg 0))])) (own_ldB X0 hx hZ e0 F0 (j := ix) hin (g := (mkF m 12 #[.val (.ref ar), .val (.int ix), .val (.int lo), .val (.int hi), .val (.int ff)] [(.int ix), (.ref ar)])) rfl rfl (hb hby own_d2_12)) ?_
    refine own_of (S' := s₁.setTop (mkF m 15 #[.val (.ref ar), .val (.int ix), .val (.int lo), .val (.int hi), .val (.int ff)] [(.int ff), (.int (List.getD xs (ix).toNatClampNeg 0))])) (fun t k => XS.iload X0.here hx rfl (hb hby own_d2_13) rfl k) ?_
    by_cases hc15 : (List.getD xs (ix).toNatClampNeg 0) = ff
    · refine own_of (S' := s₁.setTop (mkF m 18 #[.val (.ref ar), .val (.int ix), .val (.int lo), .val (.int hi), .val (.int ff)] [])) (fun t k => XS.icmpNo X0.here hx rfl (hb hby own_d2_15) rfl (teq hc15).2 k) ?_
      refine own_of (S' := s₁.setTop (mkF m 19 #[.val (.ref ar), .val (.int ix), .val (.int lo), .val (.int hi), .val (.int ff)] [(.int (1 : Int32))])) (fun t k => XS.iconst X0.here hx rfl (hb hby own_d2_18) k) ?_
      refine own_of (S' := s₁.setTop (mkF m 23 #[.val (.ref ar), .val (.int ix), .val (.int lo), .val (.int hi), .val (.int ff)] [(.int (1 : Int32))])) (fun t k => XS.goto X0.here hx rfl (pc0 := 19) (pc' := 23) rfl (hb hby own_d2_19) (by decide) (by decide) k) ?_
      obtain ⟨fs, hr, hrun, hended, hW, hsame⟩ := X0.leave (v := some (.int (nar .boolean (1 : Int32)))) (fun h => by rw [Bd.returns] at h; cases h)
      refine ⟨_, _, retN X0 hx (t := .boolean) Bd.returns (by simp) (hb hby own_d2_23) hr, hrun, hended, hG _ _ ⟨_, _, rfl, ?_, ⟨_, rfl⟩, hW, hsame.mono (by decide) (by decide)⟩⟩
      show own_Q2 Z ar ix lo hi ff ka xs h0 n0 _ s₁.heap _
      rw [e0]
      have hl : nar .boolean (1 : Int32) = (own_same xs ix lo hi ff) := by unfold own_same; first | (rw [if_pos hc2, if_pos hc15]; rfl) | (rw [if_pos hc2, if_neg hc15]; rfl) | (rw [if_neg hc2, if_pos hc7]; rfl) | (rw [if_neg hc2, if_neg hc7, if_pos hc15]; rfl) | (rw [if_neg hc2, if_neg hc7, if_neg hc15]; rfl)
      exact ⟨congrArg (fun w => some (Value.int w)) hl, N0, rfl⟩
    · refine own_of (S' := s₁.setTop (mkF m 22 #[.val (.ref ar), .val (.int ix), .val (.int lo), .val (.int hi), .val (.int ff)] [])) (fun t k => XS.icmpYes X0.here hx rfl (pc0 := 15) (pc' := 22) rfl (hb hby own_d2_15) rfl (feq hc15).2 (by decide) (by decide) k) ?_
      refine own_of (S' := s₁.setTop (mkF m 23 #[.val (.ref ar), .val (.int ix), .val (.int lo), .val (.int hi), .val (.int ff)] [(.int (0 : Int32))])) (fun t k => XS.iconst X0.here hx rfl (hb hby own_d2_22) k) ?_
      obtain ⟨fs, hr, hrun, hended, hW, hsame⟩ := X0.leave (v := some (.int (nar .boolean (0 : Int32)))) (fun h => by rw [Bd.returns] at h; cases h)
      refine ⟨_, _, retN X0 hx (t := .boolean) Bd.returns (by simp) (hb hby own_d2_23) hr, hrun, hended, hG _ _ ⟨_, _, rfl, ?_, ⟨_, rfl⟩, hW, hsame.mono (by decide) (by decide)⟩⟩
      show own_Q2 Z ar ix lo hi ff ka xs h0 n0 _ s₁.heap _
      rw [e0]
      have hl : nar .boolean (0 : Int32) = (own_same xs ix lo hi ff) := by unfold own_same; first | (rw [if_pos hc2, if_pos hc15]; rfl) | (rw [if_pos hc2, if_neg hc15]; rfl) | (rw [if_neg hc2, if_pos hc7]; rfl) | (rw [if_neg hc2, if_neg hc7, if_pos hc15]; rfl) | (rw [if_neg hc2, if_neg hc7, if_neg hc15]; rfl)
      exact ⟨congrArg (fun w => some (Value.int w)) hl, N0, rfl⟩
  · refine own_of (S' := s₁.setTop (mkF m 5 #[.val (.ref ar), .val (.int ix), .val (.int lo), .val (.int hi), .val (.int ff)] [])) (fun t k => XS.icmpNo X0.here hx rfl (hb hby own_d2_2) rfl (flt hc2).1 k) ?_
    refine own_of (S' := s₁.setTop (mkF m 6 #[.val (.ref ar), .val (.int ix), .val (.int lo), .val (.int hi), .val (.int ff)] [(.int ix)])) (fun t k => XS.iloadN X0.here hx rfl (hb hby own_d2_5) rfl k) ?_
    refine own_of (S' := s₁.setTop (mkF m 7 #[.val (.ref ar), .val (.int ix), .val (.int lo), .val (.int hi), .val (.int ff)] [(.int hi), (.int ix)])) (fun t k => XS.iloadN X0.here hx rfl (hb hby own_d2_6) rfl k) ?_
    by_cases hc7 : ix < hi
    · refine own_of (S' := s₁.setTop (mkF m 18 #[.val (.ref ar), .val (.int ix), .val (.int lo), .val (.int hi), .val (.int ff)] [])) (fun t k => XS.icmpYes X0.here hx rfl (pc0 := 7) (pc' := 18) rfl (hb hby own_d2_7) rfl (tlt hc7).1 (by decide) (by decide) k) ?_
      refine own_of (S' := s₁.setTop (mkF m 19 #[.val (.ref ar), .val (.int ix), .val (.int lo), .val (.int hi), .val (.int ff)] [(.int (1 : Int32))])) (fun t k => XS.iconst X0.here hx rfl (hb hby own_d2_18) k) ?_
      refine own_of (S' := s₁.setTop (mkF m 23 #[.val (.ref ar), .val (.int ix), .val (.int lo), .val (.int hi), .val (.int ff)] [(.int (1 : Int32))])) (fun t k => XS.goto X0.here hx rfl (pc0 := 19) (pc' := 23) rfl (hb hby own_d2_19) (by decide) (by decide) k) ?_
      obtain ⟨fs, hr, hrun, hended, hW, hsame⟩ := X0.leave (v := some (.int (nar .boolean (1 : Int32)))) (fun h => by rw [Bd.returns] at h; cases h)
      refine ⟨_, _, retN X0 hx (t := .boolean) Bd.returns (by simp) (hb hby own_d2_23) hr, hrun, hended, hG _ _ ⟨_, _, rfl, ?_, ⟨_, rfl⟩, hW, hsame.mono (by decide) (by decide)⟩⟩
      show own_Q2 Z ar ix lo hi ff ka xs h0 n0 _ s₁.heap _
      rw [e0]
      have hl : nar .boolean (1 : Int32) = (own_same xs ix lo hi ff) := by unfold own_same; first | (rw [if_pos hc2, if_pos hc15]; rfl) | (rw [if_pos hc2, if_neg hc15]; rfl) | (rw [if_neg hc2, if_pos hc7]; rfl) | (rw [if_neg hc2, if_neg hc7, if_pos hc15]; rfl) | (rw [if_neg hc2, if_neg hc7, if_neg hc15]; rfl)
      exact ⟨congrArg (fun w => some (Value.int w)) hl, N0, rfl⟩
    · refine own_of (S' := s₁.setTop (mkF m 10 #[.val (.ref ar), .val (.int ix), .val (.int lo), .val (.int hi), .val (.int ff)] [])) (fun t k => XS.icmpNo X0.here hx rfl (hb hby own_d2_7) rfl (flt hc7).1 k) ?_
      refine own_of (S' := s₁.setTop (mkF m 11 #[.val (.ref ar), .val (.int ix), .val (.int lo), .val (.int hi), .val (.int ff)] [(.ref ar)])) (fun t k => XS.aloadN X0.here hx rfl (hb hby own_d2_10) rfl rfl k) ?_
      refine own_of (S' := s₁.setTop (mkF m 12 #[.val (.ref ar), .val (.int ix), .val (.int lo), .val (.int hi), .val (.int ff)] [(.int ix), (.ref ar)])) (fun t k => XS.iloadN X0.here hx rfl (hb hby own_d2_11) rfl k) ?_
      refine own_of (S' := s₁.setTop (mkF m 13 #[.val (.ref ar), .val (.int ix), .val (.int lo), .val (.int hi), .val (.int ff)] [(.int (List.getD xs (ix).toNatClampNeg 0))])) (own_ldB X0 hx hZ e0 F0 (j := ix) hin (g := (mkF m 12 #[.val (.ref ar), .val (.int ix), .val (.int lo), .val (.int hi), .val (.int ff)] [(.int ix), (.ref ar)])) rfl rfl (hb hby own_d2_12)) ?_
      refine own_of (S' := s₁.setTop (mkF m 15 #[.val (.ref ar), .val (.int ix), .val (.int lo), .val (.int hi), .val (.int ff)] [(.int ff), (.int (List.getD xs (ix).toNatClampNeg 0))])) (fun t k => XS.iload X0.here hx rfl (hb hby own_d2_13) rfl k) ?_
      by_cases hc15 : (List.getD xs (ix).toNatClampNeg 0) = ff
      · refine own_of (S' := s₁.setTop (mkF m 18 #[.val (.ref ar), .val (.int ix), .val (.int lo), .val (.int hi), .val (.int ff)] [])) (fun t k => XS.icmpNo X0.here hx rfl (hb hby own_d2_15) rfl (teq hc15).2 k) ?_
        refine own_of (S' := s₁.setTop (mkF m 19 #[.val (.ref ar), .val (.int ix), .val (.int lo), .val (.int hi), .val (.int ff)] [(.int (1 : Int32))])) (fun t k => XS.iconst X0.here hx rfl (hb hby own_d2_18) k) ?_
        refine own_of (S' := s₁.setTop (mkF m 23 #[.val (.ref ar), .val (.int ix), .val (.int lo), .val (.int hi), .val (.int ff)] [(.int (1 : Int32))])) (fun t k => XS.goto X0.here hx rfl (pc0 := 19) (pc' := 23) rfl (hb hby own_d2_19) (by decide) (by decide) k) ?_
        obtain ⟨fs, hr, hrun, hended, hW, hsame⟩ := X0.leave (v := some (.int (nar .boolean (1 : Int32)))) (fun h => by rw [Bd.returns] at h; cases h)
        refine ⟨_, _, retN X0 hx (t := .boolean) Bd.returns (by simp) (hb hby own_d2_23) hr, hrun, hended, hG _ _ ⟨_, _, rfl, ?_, ⟨_, rfl⟩, hW, hsame.mono (by decide) (by decide)⟩⟩
        show own_Q2 Z ar ix lo hi ff ka xs h0 n0 _ s₁.heap _
        rw [e0]
        have hl : nar .boolean (1 : Int32) = (own_same xs ix lo hi ff) := by unfold own_same; first | (rw [if_pos hc2, if_pos hc15]; rfl) | (rw [if_pos hc2, if_neg hc15]; rfl) | (rw [if_neg hc2, if_pos hc7]; rfl) | (rw [if_neg hc2, if_neg hc7, if_pos hc15]; rfl) | (rw [if_neg hc2, if_neg hc7, if_neg hc15]; rfl)
        exact ⟨congrArg (fun w => some (Value.int w)) hl, N0, rfl⟩
      · refine own_of (S' := s₁.setTop (mkF m 22 #[.val (.ref ar), .val (.int ix), .val (.int lo), .val (.int hi), .val (.int ff)] [])) (fun t k => XS.icmpYes X0.here hx rfl (pc0 := 15) (pc' := 22) rfl (hb hby own_d2_15) rfl (feq hc15).2 (by decide) (by decide) k) ?_
        refine own_of (S' := s₁.setTop (mkF m 23 #[.val (.ref ar), .val (.int ix), .val (.int lo), .val (.int hi), .val (.int ff)] [(.int (0 : Int32))])) (fun t k => XS.iconst X0.here hx rfl (hb hby own_d2_22) k) ?_
        obtain ⟨fs, hr, hrun, hended, hW, hsame⟩ := X0.leave (v := some (.int (nar .boolean (0 : Int32)))) (fun h => by rw [Bd.returns] at h; cases h)
        refine ⟨_, _, retN X0 hx (t := .boolean) Bd.returns (by simp) (hb hby own_d2_23) hr, hrun, hended, hG _ _ ⟨_, _, rfl, ?_, ⟨_, rfl⟩, hW, hsame.mono (by decide) (by decide)⟩⟩
        show own_Q2 Z ar ix lo hi ff ka xs h0 n0 _ s₁.heap _
        rw [e0]
        have hl : nar .boolean (0 : Int32) = (own_same xs ix lo hi ff) := by unfold own_same; first | (rw [if_pos hc2, if_pos hc15]; rfl) | (rw [if_pos hc2, if_neg hc15]; rfl) | (rw [if_neg hc2, if_pos hc7]; rfl) | (rw [if_neg hc2, if_neg hc7, if_pos hc15]; rfl) | (rw [if_neg hc2, if_neg hc7, if_neg hc15]; rfl)
        exact ⟨congrArg (fun w => some (Value.int w)) hl, N0, rfl⟩
theorem own_d3_0 : decode method_4_code 0 = .ok (.aload_n 0, 1) := by decide +kernel
theorem own_d3_1 : decode method_4_code 1 = .ok (.iconst 0, 1) := by decide +kernel
theorem own_d3_2 : decode method_4_code 2 = .ok (.iload_n 1, 1) := by decide +kernel
theorem own_d3_3 : decode method_4_code 3 = .ok (.iload_n 2, 1) := by decide +kernel
theorem own_d3_4 : decode method_4_code 4 = .ok (.iload_n 3, 1) := by decide +kernel
theorem own_d3_5 : decode method_4_code 5 = .ok (.invokestatic 20, 3) := by decide +kernel
theorem own_d3_8 : decode method_4_code 8 = .ok (.ifCond .eq 86, 3) := by decide +kernel
theorem own_d3_11 : decode method_4_code 11 = .ok (.aload_n 0, 1) := by decide +kernel
theorem own_d3_12 : decode method_4_code 12 = .ok (.iconst 1, 1) := by decide +kernel
theorem own_d3_13 : decode method_4_code 13 = .ok (.iload_n 1, 1) := by decide +kernel
theorem own_d3_14 : decode method_4_code 14 = .ok (.iload_n 2, 1) := by decide +kernel
theorem own_d3_15 : decode method_4_code 15 = .ok (.iload_n 3, 1) := by decide +kernel
theorem own_d3_16 : decode method_4_code 16 = .ok (.invokestatic 20, 3) := by decide +kernel
theorem own_d3_19 : decode method_4_code 19 = .ok (.ifCond .eq 75, 3) := by decide +kernel
theorem own_d3_22 : decode method_4_code 22 = .ok (.aload_n 0, 1) := by decide +kernel
theorem own_d3_23 : decode method_4_code 23 = .ok (.iconst 2, 1) := by decide +kernel
theorem own_d3_24 : decode method_4_code 24 = .ok (.iload_n 1, 1) := by decide +kernel
theorem own_d3_25 : decode method_4_code 25 = .ok (.iload_n 2, 1) := by decide +kernel
theorem own_d3_26 : decode method_4_code 26 = .ok (.iload_n 3, 1) := by decide +kernel
theorem own_d3_27 : decode method_4_code 27 = .ok (.invokestatic 20, 3) := by decide +kernel
theorem own_d3_30 : decode method_4_code 30 = .ok (.ifCond .eq 64, 3) := by decide +kernel
theorem own_d3_33 : decode method_4_code 33 = .ok (.aload_n 0, 1) := by decide +kernel
theorem own_d3_34 : decode method_4_code 34 = .ok (.iconst 3, 1) := by decide +kernel
theorem own_d3_35 : decode method_4_code 35 = .ok (.iload_n 1, 1) := by decide +kernel
theorem own_d3_36 : decode method_4_code 36 = .ok (.iload_n 2, 1) := by decide +kernel
theorem own_d3_37 : decode method_4_code 37 = .ok (.iload_n 3, 1) := by decide +kernel
theorem own_d3_38 : decode method_4_code 38 = .ok (.invokestatic 20, 3) := by decide +kernel
theorem own_d3_41 : decode method_4_code 41 = .ok (.ifCond .eq 53, 3) := by decide +kernel
theorem own_d3_44 : decode method_4_code 44 = .ok (.aload_n 0, 1) := by decide +kernel
theorem own_d3_45 : decode method_4_code 45 = .ok (.iconst 4, 1) := by decide +kernel
theorem own_d3_46 : decode method_4_code 46 = .ok (.iload_n 1, 1) := by decide +kernel
theorem own_d3_47 : decode method_4_code 47 = .ok (.iload_n 2, 1) := by decide +kernel
theorem own_d3_48 : decode method_4_code 48 = .ok (.iload_n 3, 1) := by decide +kernel
theorem own_d3_49 : decode method_4_code 49 = .ok (.invokestatic 20, 3) := by decide +kernel
theorem own_d3_52 : decode method_4_code 52 = .ok (.ifCond .eq 42, 3) := by decide +kernel
theorem own_d3_55 : decode method_4_code 55 = .ok (.aload_n 0, 1) := by decide +kernel
theorem own_d3_56 : decode method_4_code 56 = .ok (.iconst 5, 1) := by decide +kernel
theorem own_d3_57 : decode method_4_code 57 = .ok (.iload_n 1, 1) := by decide +kernel
theorem own_d3_58 : decode method_4_code 58 = .ok (.iload_n 2, 1) := by decide +kernel
theorem own_d3_59 : decode method_4_code 59 = .ok (.iload_n 3, 1) := by decide +kernel
theorem own_d3_60 : decode method_4_code 60 = .ok (.invokestatic 20, 3) := by decide +kernel
theorem own_d3_63 : decode method_4_code 63 = .ok (.ifCond .eq 31, 3) := by decide +kernel
theorem own_d3_66 : decode method_4_code 66 = .ok (.aload_n 0, 1) := by decide +kernel
theorem own_d3_67 : decode method_4_code 67 = .ok (.bipush 6, 2) := by decide +kernel
theorem own_d3_69 : decode method_4_code 69 = .ok (.iload_n 1, 1) := by decide +kernel
theorem own_d3_70 : decode method_4_code 70 = .ok (.iload_n 2, 1) := by decide +kernel
theorem own_d3_71 : decode method_4_code 71 = .ok (.iload_n 3, 1) := by decide +kernel
theorem own_d3_72 : decode method_4_code 72 = .ok (.invokestatic 20, 3) := by decide +kernel
theorem own_d3_75 : decode method_4_code 75 = .ok (.ifCond .eq 19, 3) := by decide +kernel
theorem own_d3_78 : decode method_4_code 78 = .ok (.aload_n 0, 1) := by decide +kernel
theorem own_d3_79 : decode method_4_code 79 = .ok (.bipush 7, 2) := by decide +kernel
theorem own_d3_81 : decode method_4_code 81 = .ok (.iload_n 1, 1) := by decide +kernel
theorem own_d3_82 : decode method_4_code 82 = .ok (.iload_n 2, 1) := by decide +kernel
theorem own_d3_83 : decode method_4_code 83 = .ok (.iload_n 3, 1) := by decide +kernel
theorem own_d3_84 : decode method_4_code 84 = .ok (.invokestatic 20, 3) := by decide +kernel
theorem own_d3_87 : decode method_4_code 87 = .ok (.ifCond .eq 7, 3) := by decide +kernel
theorem own_d3_90 : decode method_4_code 90 = .ok (.iconst 1, 1) := by decide +kernel
theorem own_d3_91 : decode method_4_code 91 = .ok (.goto 4, 3) := by decide +kernel
theorem own_d3_95 : decode method_4_code 95 = .ok (.ireturn, 1) := by decide +kernel
abbrev own_room3 : Room := { frames := 1, cells := 0, slots := 0, locals := 16 }
theorem own_pn3 : plainName "com/example/distinct_counter/distinctcounter/SparseRegistersWriteRunPinLaw" = true := by first | (simp [plainName, overriddenIn]; done) | decide +kernel
theorem own_ef3 (m : MethodId) (ar : Addr) (lo : Int32) (hi : Int32) (ff : Int32) : entryFrame m #[(.ref ar), (.int lo), (.int hi), (.int ff)] 4 = mkF m 0 #[.val (.ref ar), .val (.int lo), .val (.int hi), .val (.int ff)] [] := by first | (simp [entryFrame, mkF, argsToLocals, Value.category]; done) | rfl
def own_Q3 (Z : State) (ar : Addr) (lo : Int32) (hi : Int32) (ff : Int32) (ka : ClassId) (xs : List Int32) (h0 : Heap) (n0 : Nat) (v : Option Value) (h : Heap) (L : List Loc) : Prop := v = some (.int (1 : Int32)) ∧ Fr n0 L ∧ h = h0
set_option maxRecDepth 65536 in
set_option maxHeartbeats 40000000 in
theorem own_rm3 (l : Launch) (Z : State) (a0 : Array Value) (hw : ∀ d ∈ tables_1, d.before a0 Z = true) (ws : List Jvm.Cond) (ar : Addr) (lo : Int32) (hi : Int32) (ff : Int32) (ka : ClassId) (xs : List Int32) (h0 : Heap) (n0 : Nat) (F0 : own_AI Z h0 ar ka .byte (8 : Int32) xs) (hs : ∀ ix : Int32, ¬ ix < (0 : Int32) ∧ ix < (8 : Int32) → own_same xs ix lo hi ff = 1) :
    MetFree l (⟨"com/example/distinct_counter/distinctcounter/SparseRegistersWriteRunPinLaw", "untouched", "([BIIB)Z"⟩ : MethodName) (head1 (Jvm.Cond.code (⟨"com/example/distinct_counter/distinctcounter/SparseRegistersWriteRunPinLaw", "untouched", "([BIIB)Z"⟩ : MethodName) method_4_code 4 (some .boolean) :: ws) (own_room3 : Room)) (fun a U => a = #[(.ref ar), (.int lo), (.int hi), (.int ff)] ∧ Z.Warmed39 U.vm ∧ U.heap = h0) (fun _ _ _ _ _ => True) (fun _ U o U' => ∃ v L, o = .returned v ∧ own_Q3 Z ar lo hi ff ka xs h0 n0 v U'.heap L ∧ FrameEnd U o U' L (own_room3 : Room).cells (own_room3 : Room).slots) := by
  refine MetFree.of_bodySF (plainFor_of_name own_pn3) hisR ?_
  intro p e s m args below meth c s₁ Bd hml0 hP hK
  obtain ⟨rfl, hZ, hh⟩ := hP
  have hx := Bd.exec
  have hby := Bd.bytes
  have hml : c.maxLocals = 4 := hml0
  have hown : s.vm.findClass "com/example/distinct_counter/distinctcounter/SparseRegistersWriteRunPinLaw" = some m.cls := findClass_of_methodNamed Bd.named
  have hnm := (name_of_methodNamed Bd.named Bd.method).1
  have X0 : Stand p l e (own_room3 : Room) s m #[(.ref ar), (.int lo), (.int hi), (.int ff)] below meth c s₁ [] 0 0 := Stand.of_body Bd
  have e0 : s₁.heap = h0 := by rw [← hh, Bd.state]; rfl
  have N0 := Fr.nil n0
  refine own_out fun G hG => ?_
  rw [own_ef3 m ar lo hi ff]
  show own_Go p.tables e below G (s₁.setTop (mkF m 0 #[.val (.ref ar), .val (.int lo), .val (.int hi), .val (.int ff)] []))
  refine own_of (S' := s₁.setTop (mkF m 1 #[.val (.ref ar), .val (.int lo), .val (.int hi), .val (.int ff)] [(.ref ar)])) (fun t k => XS.aloadN X0.here hx rfl (hb hby own_d3_0) rfl rfl k) ?_
  refine own_of (S' := s₁.setTop (mkF m 2 #[.val (.ref ar), .val (.int lo), .val (.int hi), .val (.int ff)] [(.int (0 : Int32)), (.ref ar)])) (fun t k => XS.iconst X0.here hx rfl (hb hby own_d3_1) k) ?_
  refine own_of (S' := s₁.setTop (mkF m 3 #[.val (.ref ar), .val (.int lo), .val (.int hi), .val (.int ff)] [(.int lo), (.int (0 : Int32)), (.ref ar)])) (fun t k => XS.iloadN X0.here hx rfl (hb hby own_d3_2) rfl k) ?_
  refine own_of (S' := s₁.setTop (mkF m 4 #[.val (.ref ar), .val (.int lo), .val (.int hi), .val (.int ff)] [(.int hi), (.int lo), (.int (0 : Int32)), (.ref ar)])) (fun t k => XS.iloadN X0.here hx rfl (hb hby own_d3_3) rfl k) ?_
  refine own_of (S' := s₁.setTop (mkF m 5 #[.val (.ref ar), .val (.int lo), .val (.int hi), .val (.int ff)] [(.int ff), (.int hi), (.int lo), (.int (0 : Int32)), (.ref ar)])) (fun t k => XS.iloadN X0.here hx rfl (hb hby own_d3_4) rfl k) ?_
  obtain ⟨_, _, ⟨T28, L28, k28, n28⟩, -, X28, ⟨Lc28, hQ28, l28, y28, z28⟩, st28⟩ := Jvm.LawKit.callS X0 hx (y := (⟨"com/example/distinct_counter/distinctcounter/SparseRegistersWriteRunPinLaw", "same", "([BIIIB)Z"⟩ : MethodName)) hown (mvT hZ (hw _ (List.mem_of_getElem? (i := 10) rfl))) (mvT hZ (hw _ (List.mem_of_getElem? (i := 11) rfl))) (mvT hZ (hw _ (List.mem_of_getElem? (i := 8) rfl))) (mvT hZ (hw _ (List.mem_of_getElem? (i := 12) rfl))) (by decide) (backOf (W := 0) (own_rm2 l Z _ hw [] ar (0 : Int32) lo hi ff ka xs h0 n0 F0 (⟨by decide, by decide⟩ : ¬ (0 : Int32) < (0 : Int32) ∧ (0 : Int32) < (8 : Int32))) hZ (hw _ (List.mem_of_getElem? (i := 12) rfl)) (hw _ (List.mem_of_getElem? (i := 8) rfl)) (by decide) (by decide)) (g := (mkF m 5 #[.val (.ref ar), .val (.int lo), .val (.int hi), .val (.int ff)] [(.int ff), (.int hi), (.int lo), (.int (0 : Int32)), (.ref ar)])) rfl (by rw [hml]; rfl) (argsL := [(.ref ar), (.int (0 : Int32)), (.int lo), (.int hi), (.int ff)]) (rest := []) (lenOf own_pd0 rfl) rfl (by show 2 * 0 + _ ≤ _; exact Nat.le_of_eq rfl) (hb hby own_d3_5) (fun _ _ => ⟨rfl, e0, (by decide : 0 + 0 ≤ _), (by decide : 0 + 0 ≤ _)⟩)
  dsimp only [Pt.U, Pt.locs, Pt.cells, Pt.slots] at X28 l28 y28 z28 st28 hQ28
  subst l28 y28 z28
  obtain ⟨rfl, M28, eh28⟩ := hQ28
  have N28 := Fr.app N0 M28
  refine own_of (S' := T28.setTop (mkF m 8 #[.val (.ref ar), .val (.int lo), .val (.int hi), .val (.int ff)] [(.int (own_same xs (0 : Int32) lo hi ff))])) (fun t k => st28 _ k) ?_
  generalize q5 : (own_same xs (0 : Int32) lo hi ff) = r5
  have hc8 : ¬ (r5 = (0 : Int32)) := by rw [← q5, hs _ ⟨by decide, by decide⟩]; decide
  refine own_of (S' := T28.setTop (mkF m 11 #[.val (.ref ar), .val (.int lo), .val (.int hi), .val (.int ff)] [])) (fun t k => XS.ifNo X28.here hx rfl (hb hby own_d3_8) rfl ((if0 _ _).trans (feq hc8).1) k) ?_
  refine own_of (S' := T28.setTop (mkF m 12 #[.val (.ref ar), .val (.int lo), .val (.int hi), .val (.int ff)] [(.ref ar)])) (fun t k => XS.aloadN X28.here hx rfl (hb hby own_d3_11) rfl rfl k) ?_
  refine own_of (S' := T28.setTop (mkF m 13 #[.val (.ref ar), .val (.int lo), .val (.int hi), .val (.int ff)] [(.int (1 : Int32)), (.ref ar)])) (fun t k => XS.iconst X28.here hx rfl (hb hby own_d3_12) k) ?_
  refine own_of (S' := T28.setTop (mkF m 14 #[.val (.ref ar), .val (.int lo), .val (.int hi), .val (.int ff)] [(.int lo), (.int (1 : Int32)), (.ref ar)])) (fun t k => XS.iloadN X28.here hx rfl (hb hby own_d3_13) rfl k) ?_
  refine own_of (S' := T28.setTop (mkF m 15 #[.val (.ref ar), .val (.int lo), .val (.int hi), .val (.int ff)] [(.int hi), (.int lo), (.int (1 : Int32)), (.ref ar)])) (fun t k => XS.iloadN X28.here hx rfl (hb hby own_d3_14) rfl k) ?_
  refine own_of (S' := T28.setTop (mkF m 16 #[.val (.ref ar), .val (.int lo), .val (.int hi), .val (.int ff)] [(.int ff), (.int hi), (.int lo), (.int (1 : Int32)), (.ref ar)])) (fun t k => XS.iloadN X28.here hx rfl (hb hby own_d3_15) rfl k) ?_
  obtain ⟨_, _, ⟨T30, L30, k30, n30⟩, -, X30, ⟨Lc30, hQ30, l30, y30, z30⟩, st30⟩ := Jvm.LawKit.callS X28 hx (y := (⟨"com/example/distinct_counter/distinctcounter/SparseRegistersWriteRunPinLaw", "same", "([BIIIB)Z"⟩ : MethodName)) hown (mvT hZ (hw _ (List.mem_of_getElem? (i := 10) rfl))) (mvT hZ (hw _ (List.mem_of_getElem? (i := 11) rfl))) (mvT hZ (hw _ (List.mem_of_getElem? (i := 8) rfl))) (mvT hZ (hw _ (List.mem_of_getElem? (i := 12) rfl))) (by decide) (backOf (W := 0) (own_rm2 l Z _ hw [] ar (1 : Int32) lo hi ff ka xs h0 n0 F0 (⟨by decide, by decide⟩ : ¬ (1 : Int32) < (0 : Int32) ∧ (1 : Int32) < (8 : Int32))) hZ (hw _ (List.mem_of_getElem? (i := 12) rfl)) (hw _ (List.mem_of_getElem? (i := 8) rfl)) (by decide) (by decide)) (g := (mkF m 16 #[.val (.ref ar), .val (.int lo), .val (.int hi), .val (.int ff)] [(.int ff), (.int hi), (.int lo), (.int (1 : Int32)), (.ref ar)])) rfl (by rw [hml]; rfl) (argsL := [(.ref ar), (.int (1 : Int32)), (.int lo), (.int hi), (.int ff)]) (rest := []) (lenOf own_pd0 rfl) rfl (by show 2 * 0 + _ ≤ _; exact Nat.le_of_eq rfl) (hb hby own_d3_16) (fun _ _ => ⟨rfl, eh28, (by decide : 0 + 0 ≤ _), (by decide : 0 + 0 ≤ _)⟩)
  dsimp only [Pt.U, Pt.locs, Pt.cells, Pt.slots] at X30 l30 y30 z30 st30 hQ30
  subst l30 y30 z30
  obtain ⟨rfl, M30, eh30⟩ := hQ30
  have N30 := Fr.app N28 M30
  refine own_of (S' := T30.setTop (mkF m 19 #[.val (.ref ar), .val (.int lo), .val (.int hi), .val (.int ff)] [(.int (own_same xs (1 : Int32) lo hi ff))])) (fun t k => st30 _ k) ?_
  generalize q16 : (own_same xs (1 : Int32) lo hi ff) = r16
  have hc19 : ¬ (r16 = (0 : Int32)) := by rw [← q16, hs _ ⟨by decide, by decide⟩]; decide
  refine own_of (S' := T30.setTop (mkF m 22 #[.val (.ref ar), .val (.int lo), .val (.int hi), .val (.int ff)] [])) (fun t k => XS.ifNo X30.here hx rfl (hb hby own_d3_19) rfl ((if0 _ _).trans (feq hc19).1) k) ?_
  refine own_of (S' := T30.setTop (mkF m 23 #[.val (.ref ar), .val (.int lo), .val (.int hi), .val (.int ff)] [(.ref ar)])) (fun t k => XS.aloadN X30.here hx rfl (hb hby own_d3_22) rfl rfl k) ?_
  refine own_of (S' := T30.setTop (mkF m 24 #[.val (.ref ar), .val (.int lo), .val (.int hi), .val (.int ff)] [(.int (2 : Int32)), (.ref ar)])) (fun t k => XS.iconst X30.here hx rfl (hb hby own_d3_23) k) ?_
  refine own_of (S' := T30.setTop (mkF m 25 #[.val (.ref ar), .val (.int lo), .val (.int hi), .val (.int ff)] [(.int lo), (.int (2 : Int32)), (.ref ar)])) (fun t k => XS.iloadN X30.here hx rfl (hb hby own_d3_24) rfl k) ?_
  refine own_of (S' := T30.setTop (mkF m 26 #[.val (.ref ar), .val (.int lo), .val (.int hi), .val (.int ff)] [(.int hi), (.int lo), (.int (2 : Int32)), (.ref ar)])) (fun t k => XS.iloadN X30.here hx rfl (hb hby own_d3_25) rfl k) ?_
  refine own_of (S' := T30.setTop (mkF m 27 #[.val (.ref ar), .val (.int lo), .val (.int hi), .val (.int ff)] [(.int ff), (.int hi), (.int lo), (.int (2 : Int32)), (.ref ar)])) (fun t k => XS.iloadN X30.here hx rfl (hb hby own_d3_26) rfl k) ?_
  obtain ⟨_, _, ⟨T32, L32, k32, n32⟩, -, X32, ⟨Lc32, hQ32, l32, y32, z32⟩, st32⟩ := Jvm.LawKit.callS X30 hx (y := (⟨"com/example/distinct_counter/distinctcounter/SparseRegistersWriteRunPinLaw", "same", "([BIIIB)Z"⟩ : MethodName)) hown (mvT hZ (hw _ (List.mem_of_getElem? (i := 10) rfl))) (mvT hZ (hw _ (List.mem_of_getElem? (i := 11) rfl))) (mvT hZ (hw _ (List.mem_of_getElem? (i := 8) rfl))) (mvT hZ (hw _ (List.mem_of_getElem? (i := 12) rfl))) (by decide) (backOf (W := 0) (own_rm2 l Z _ hw [] ar (2 : Int32) lo hi ff ka xs h0 n0 F0 (⟨by decide, by decide⟩ : ¬ (2 : Int32) < (0 : Int32) ∧ (2 : Int32) < (8 : Int32))) hZ (hw _ (List.mem_of_getElem? (i := 12) rfl)) (hw _ (List.mem_of_getElem? (i := 8) rfl)) (by decide) (by decide)) (g := (mkF m 27 #[.val (.ref ar), .val (.int lo), .val (.int hi), .val (.int ff)] [(.int ff), (.int hi), (.int lo), (.int (2 : Int32)), (.ref ar)])) rfl (by rw [hml]; rfl) (argsL := [(.ref ar), (.int (2 : Int32)), (.int lo), (.int hi), (.int ff)]) (rest := []) (lenOf own_pd0 rfl) rfl (by show 2 * 0 + _ ≤ _; exact Nat.le_of_eq rfl) (hb hby own_d3_27) (fun _ _ => ⟨rfl, eh30, (by decide : 0 + 0 ≤ _), (by decide : 0 + 0 ≤ _)⟩)
  dsimp only [Pt.U, Pt.locs, Pt.cells, Pt.slots] at X32 l32 y32 z32 st32 hQ32
  subst l32 y32 z32
  obtain ⟨rfl, M32, eh32⟩ := hQ32
  have N32 := Fr.app N30 M32
  refine own_of (S' := T32.setTop (mkF m 30 #[.val (.ref ar), .val (.int lo), .val (.int hi), .val (.int ff)] [(.int (own_same xs (2 : Int32) lo hi ff))])) (fun t k => st32 _ k) ?_
  generalize q27 : (own_same xs (2 : Int32) lo hi ff) = r27
  have hc30 : ¬ (r27 = (0 : Int32)) := by rw [← q27, hs _ ⟨by decide, by decide⟩]; decide
  refine own_of (S' := T32.setTop (mkF m 33 #[.val (.ref ar), .val (.int lo), .val (.int hi), .val (.int ff)] [])) (fun t k => XS.ifNo X32.here hx rfl (hb hby own_d3_30) rfl ((if0 _ _).trans (feq hc30).1) k) ?_
  refine own_of (S' := T32.setTop (mkF m 34 #[.val (.ref ar), .val (.int lo), .val (.int hi), .val (.int ff)] [(.ref ar)])) (fun t k => XS.aloadN X32.here hx rfl (hb hby own_d3_33) rfl rfl k) ?_
  refine own_of (S' := T32.setTop (mkF m 35 #[.val (.ref ar), .val (.int lo), .val (.int hi), .val (.int ff)] [(.int (3 : Int32)), (.ref ar)])) (fun t k => XS.iconst X32.here hx rfl (hb hby own_d3_34) k) ?_
  refine own_of (S' := T32.setTop (mkF m 36 #[.val (.ref ar), .val (.int lo), .val (.int hi), .val (.int ff)] [(.int lo), (.int (3 : Int32)), (.ref ar)])) (fun t k => XS.iloadN X32.here hx rfl (hb hby own_d3_35) rfl k) ?_
  refine own_of (S' := T32.setTop (mkF m 37 #[.val (.ref ar), .val (.int lo), .val (.int hi), .val (.int ff)] [(.int hi), (.int lo), (.int (3 : Int32)), (.ref ar)])) (fun t k => XS.iloadN X32.here hx rfl (hb hby own_d3_36) rfl k) ?_
  refine own_of (S' := T32.setTop (mkF m 38 #[.val (.ref ar), .val (.int lo), .val (.int hi), .val (.int ff)] [(.int ff), (.int hi), (.int lo), (.int (3 : Int32)), (.ref ar)])) (fun t k => XS.iloadN X32.here hx rfl (hb hby own_d3_37) rfl k) ?_
  obtain ⟨_, _, ⟨T34, L34, k34, n34⟩, -, X34, ⟨Lc34, hQ34, l34, y34, z34⟩, st34⟩ := Jvm.LawKit.callS X32 hx (y := (⟨"com/example/distinct_counter/distinctcounter/SparseRegistersWriteRunPinLaw", "same", "([BIIIB)Z"⟩ : MethodName)) hown (mvT hZ (hw _ (List.mem_of_getElem? (i := 10) rfl))) (mvT hZ (hw _ (List.mem_of_getElem? (i := 11) rfl))) (mvT hZ (hw _ (List.mem_of_getElem? (i := 8) rfl))) (mvT hZ (hw _ (List.mem_of_getElem? (i := 12) rfl))) (by decide) (backOf (W := 0) (own_rm2 l Z _ hw [] ar (3 : Int32) lo hi ff ka xs h0 n0 F0 (⟨by decide, by decide⟩ : ¬ (3 : Int32) < (0 : Int32) ∧ (3 : Int32) < (8 : Int32))) hZ (hw _ (List.mem_of_getElem? (i := 12) rfl)) (hw _ (List.mem_of_getElem? (i := 8) rfl)) (by decide) (by decide)) (g := (mkF m 38 #[.val (.ref ar), .val (.int lo), .val (.int hi), .val (.int ff)] [(.int ff), (.int hi), (.int lo), (.int (3 : Int32)), (.ref ar)])) rfl (by rw [hml]; rfl) (argsL := [(.ref ar), (.int (3 : Int32)), (.int lo), (.int hi), (.int ff)]) (rest := []) (lenOf own_pd0 rfl) rfl (by show 2 * 0 + _ ≤ _; exact Nat.le_of_eq rfl) (hb hby own_d3_38) (fun _ _ => ⟨rfl, eh32, (by decide : 0 + 0 ≤ _), (by decide : 0 + 0 ≤ _)⟩)
  dsimp only [Pt.U, Pt.locs, Pt.cells, Pt.slots] at X34 l34 y34 z34 st34 hQ34
  subst l34 y34 z34
  obtain ⟨rfl, M34, eh34⟩ := hQ34
  have N34 := Fr.app N32 M34
  refine own_of (S' := T34.setTop (mkF m 41 #[.val (.ref ar), .val (.int lo), .val (.int hi), .val (.int ff)] [(.int (own_same xs (3 : Int32) lo hi ff))])) (fun t k => st34 _ k) ?_
  generalize q38 : (own_same xs (3 : Int32) lo hi ff) = r38
  have hc41 : ¬ (r38 = (0 : Int32)) := by rw [← q38, hs _ ⟨by decide, by decide⟩]; decide
  refine own_of (S' := T34.setTop (mkF m 44 #[.val (.ref ar), .val (.int lo), .val (.int hi), .val (.int ff)] [])) (fun t k => XS.ifNo X34.here hx rfl (hb hby own_d3_41) rfl ((if0 _ _).trans (feq hc41).1) k) ?_
  refine own_of (S' := T34.setTop (mkF m 45 #[.val (.ref ar), .val (.int lo), .val (.int hi), .val (.int ff)] [(.ref ar)])) (fun t k => XS.aloadN X34.here hx rfl (hb hby own_d3_44) rfl rfl k) ?_
  refine own_of (S' := T34.setTop (mkF m 46 #[.val (.ref ar), .val (.int lo), .val (.int hi), .val (.int ff)] [(.int (4 : Int32)), (.ref ar)])) (fun t k => XS.iconst X34.here hx rfl (hb hby own_d3_45) k) ?_
  refine own_of (S' := T34.setTop (mkF m 47 #[.val (.ref ar), .val (.int lo), .val (.int hi), .val (.int ff)] [(.int lo), (.int (4 : Int32)), (.ref ar)])) (fun t k => XS.iloadN X34.here hx rfl (hb hby own_d3_46) rfl k) ?_
  refine own_of (S' := T34.setTop (mkF m 48 #[.val (.ref ar), .val (.int lo), .val (.int hi), .val (.int ff)] [(.int hi), (.int lo), (.int (4 : Int32)), (.ref ar)])) (fun t k => XS.iloadN X34.here hx rfl (hb hby own_d3_47) rfl k) ?_
  refine own_of (S' := T34.setTop (mkF m 49 #[.val (.ref ar), .val (.int lo), .val (.int hi), .val (.int ff)] [(.int ff), (.int hi), (.int lo), (.int (4 : Int32)), (.ref ar)])) (fun t k => XS.iloadN X34.here hx rfl (hb hby own_d3_48) rfl k) ?_
  obtain ⟨_, _, ⟨T36, L36, k36, n36⟩, -, X36, ⟨Lc36, hQ36, l36, y36, z36⟩, st36⟩ := Jvm.LawKit.callS X34 hx (y := (⟨"com/example/distinct_counter/distinctcounter/SparseRegistersWriteRunPinLaw", "same", "([BIIIB)Z"⟩ : MethodName)) hown (mvT hZ (hw _ (List.mem_of_getElem? (i := 10) rfl))) (mvT hZ (hw _ (List.mem_of_getElem? (i := 11) rfl))) (mvT hZ (hw _ (List.mem_of_getElem? (i := 8) rfl))) (mvT hZ (hw _ (List.mem_of_getElem? (i := 12) rfl))) (by decide) (backOf (W := 0) (own_rm2 l Z _ hw [] ar (4 : Int32) lo hi ff ka xs h0 n0 F0 (⟨by decide, by decide⟩ : ¬ (4 : Int32) < (0 : Int32) ∧ (4 : Int32) < (8 : Int32))) hZ (hw _ (List.mem_of_getElem? (i := 12) rfl)) (hw _ (List.mem_of_getElem? (i := 8) rfl)) (by decide) (by decide)) (g := (mkF m 49 #[.val (.ref ar), .val (.int lo), .val (.int hi), .val (.int ff)] [(.int ff), (.int hi), (.int lo), (.int (4 : Int32)), (.ref ar)])) rfl (by rw [hml]; rfl) (argsL := [(.ref ar), (.int (4 : Int32)), (.int lo), (.int hi), (.int ff)]) (rest := []) (lenOf own_pd0 rfl) rfl (by show 2 * 0 + _ ≤ _; exact Nat.le_of_eq rfl) (hb hby own_d3_49) (fun _ _ => ⟨rfl, eh34, (by decide : 0 + 0 ≤ _), (by decide : 0 + 0 ≤ _)⟩)
  dsimp only [Pt.U, Pt.locs, Pt.cells, Pt.slots] at X36 l36 y36 z36 st36 hQ36
  subst l36 y36 z36
  obtain ⟨rfl, M36, eh36⟩ := hQ36
  have N36 := Fr.app N34 M36
  refine own_of (S' := T36.setTop (mkF m 52 #[.val (.ref ar), .val (.int lo), .val (.int hi), .val (.int ff)] [(.int (own_same xs (4 : Int32) lo hi ff))])) (fun t k => st36 _ k) ?_
  generalize q49 : (own_same xs (4 : Int32) lo hi ff) = r49
  have hc52 : ¬ (r49 = (0 : Int32)) := by rw [← q49, hs _ ⟨by decide, by decide⟩]; decide
  refine own_of (S' := T36.setTop (mkF m 55 #[.val (.ref ar), .val (.int lo), .val (.int hi), .val (.int ff)] [])) (fun t k => XS.ifNo X36.here hx rfl (hb hby own_d3_52) rfl ((if0 _ _).trans (feq hc52).1) k) ?_
  refine own_of (S' := T36.setTop (mkF m 56 #[.val (.ref ar), .val (.int lo), .val (.int hi), .val (.int ff)] [(.ref ar)])) (fun t k => XS.aloadN X36.here hx rfl (hb hby own_d3_55) rfl rfl k) ?_
  refine own_of (S' := T36.setTop (mkF m 57 #[.val (.ref ar), .val (.int lo), .val (.int hi), .val (.int ff)] [(.int (5 : Int32)), (.ref ar)])) (fun t k => XS.iconst X36.here hx rfl (hb hby own_d3_56) k) ?_
  refine own_of (S' := T36.setTop (mkF m 58 #[.val (.ref ar), .val (.int lo), .val (.int hi), .val (.int ff)] [(.int lo), (.int (5 : Int32)), (.ref ar)])) (fun t k => XS.iloadN X36.here hx rfl (hb hby own_d3_57) rfl k) ?_
  refine own_of (S' := T36.setTop (mkF m 59 #[.val (.ref ar), .val (.int lo), .val (.int hi), .val (.int ff)] [(.int hi), (.int lo), (.int (5 : Int32)), (.ref ar)])) (fun t k => XS.iloadN X36.here hx rfl (hb hby own_d3_58) rfl k) ?_
  refine own_of (S' := T36.setTop (mkF m 60 #[.val (.ref ar), .val (.int lo), .val (.int hi), .val (.int ff)] [(.int ff), (.int hi), (.int lo), (.int (5 : Int32)), (.ref ar)])) (fun t k => XS.iloadN X36.here hx rfl (hb hby own_d3_59) rfl k) ?_
  obtain ⟨_, _, ⟨T38, L38, k38, n38⟩, -, X38, ⟨Lc38, hQ38, l38, y38, z38⟩, st38⟩ := Jvm.LawKit.callS X36 hx (y := (⟨"com/example/distinct_counter/distinctcounter/SparseRegistersWriteRunPinLaw", "same", "([BIIIB)Z"⟩ : MethodName)) hown (mvT hZ (hw _ (List.mem_of_getElem? (i := 10) rfl))) (mvT hZ (hw _ (List.mem_of_getElem? (i := 11) rfl))) (mvT hZ (hw _ (List.mem_of_getElem? (i := 8) rfl))) (mvT hZ (hw _ (List.mem_of_getElem? (i := 12) rfl))) (by decide) (backOf (W := 0) (own_rm2 l Z _ hw [] ar (5 : Int32) lo hi ff ka xs h0 n0 F0 (⟨by decide, by decide⟩ : ¬ (5 : Int32) < (0 : Int32) ∧ (5 : Int32) < (8 : Int32))) hZ (hw _ (List.mem_of_getElem? (i := 12) rfl)) (hw _ (List.mem_of_getElem? (i := 8) rfl)) (by decide) (by decide)) (g := (mkF m 60 #[.val (.ref ar), .val (.int lo), .val (.int hi), .val (.int ff)] [(.int ff), (.int hi), (.int lo), (.int (5 : Int32)), (.ref ar)])) rfl (by rw [hml]; rfl) (argsL := [(.ref ar), (.int (5 : Int32)), (.int lo), (.int hi), (.int ff)]) (rest := []) (lenOf own_pd0 rfl) rfl (by show 2 * 0 + _ ≤ _; exact Nat.le_of_eq rfl) (hb hby own_d3_60) (fun _ _ => ⟨rfl, eh36, (by decide : 0 + 0 ≤ _), (by decide : 0 + 0 ≤ _)⟩)
  dsimp only [Pt.U, Pt.locs, Pt.cells, Pt.slots] at X38 l38 y38 z38 st38 hQ38
  subst l38 y38 z38
  obtain ⟨rfl, M38, eh38⟩ := hQ38
  have N38 := Fr.app N36 M38
  refine own_of (S' := T38.setTop (mkF m 63 #[.val (.ref ar), .val (.int lo), .val (.int hi), .val (.int ff)] [(.int (own_same xs (5 : Int32) lo hi ff))])) (fun t k => st38 _ k) ?_
  generalize q60 : (own_same xs (5 : Int32) lo hi ff) = r60
  have hc63 : ¬ (r60 = (0 : Int32)) := by rw [← q60, hs _ ⟨by decide, by decide⟩]; decide
  refine own_of (S' := T38.setTop (mkF m 66 #[.val (.ref ar), .val (.int lo), .val (.int hi), .val (.int ff)] [])) (fun t k => XS.ifNo X38.here hx rfl (hb hby own_d3_63) rfl ((if0 _ _).trans (feq hc63).1) k) ?_
  refine own_of (S' := T38.setTop (mkF m 67 #[.val (.ref ar), .val (.int lo), .val (.int hi), .val (.int ff)] [(.ref ar)])) (fun t k => XS.aloadN X38.here hx rfl (hb hby own_d3_66) rfl rfl k) ?_
  refine own_of (S' := T38.setTop (mkF m 69 #[.val (.ref ar), .val (.int lo), .val (.int hi), .val (.int ff)] [(.int (6 : Int32)), (.ref ar)])) (fun t k => XS.bipush X38.here hx rfl (hb hby own_d3_67) k) ?_
  refine own_of (S' := T38.setTop (mkF m 70 #[.val (.ref ar), .val (.int lo), .val (.int hi), .val (.int ff)] [(.int lo), (.int (6 : Int32)), (.ref ar)])) (fun t k => XS.iloadN X38.here hx rfl (hb hby own_d3_69) rfl k) ?_
  refine own_of (S' := T38.setTop (mkF m 71 #[.val (.ref ar), .val (.int lo), .val (.int hi), .val (.int ff)] [(.int hi), (.int lo), (.int (6 : Int32)), (.ref ar)])) (fun t k => XS.iloadN X38.here hx rfl (hb hby own_d3_70) rfl k) ?_
  refine own_of (S' := T38.setTop (mkF m 72 #[.val (.ref ar), .val (.int lo), .val (.int hi), .val (.int ff)] [(.int ff), (.int hi), (.int lo), (.int (6 : Int32)), (.ref ar)])) (fun t k => XS.iloadN X38.here hx rfl (hb hby own_d3_71) rfl k) ?_
  obtain ⟨_, _, ⟨T40, L40, k40, n40⟩, -, X40, ⟨Lc40, hQ40, l40, y40, z40⟩, st40⟩ := Jvm.LawKit.callS X38 hx (y := (⟨"com/example/distinct_counter/distinctcounter/SparseRegistersWriteRunPinLaw", "same", "([BIIIB)Z"⟩ : MethodName)) hown (mvT hZ (hw _ (List.mem_of_getElem? (i := 10) rfl))) (mvT hZ (hw _ (List.mem_of_getElem? (i := 11) rfl))) (mvT hZ (hw _ (List.mem_of_getElem? (i := 8) rfl))) (mvT hZ (hw _ (List.mem_of_getElem? (i := 12) rfl))) (by decide) (backOf (W := 0) (own_rm2 l Z _ hw [] ar (6 : Int32) lo hi ff ka xs h0 n0 F0 (⟨by decide, by decide⟩ : ¬ (6 : Int32) < (0 : Int32) ∧ (6 : Int32) < (8 : Int32))) hZ (hw _ (List.mem_of_getElem? (i := 12) rfl)) (hw _ (List.mem_of_getElem? (i := 8) rfl)) (by decide) (by decide)) (g := (mkF m 72 #[.val (.ref ar), .val (.int lo), .val (.int hi), .val (.int ff)] [(.int ff), (.int hi), (.int lo), (.int (6 : Int32)), (.ref ar)])) rfl (by rw [hml]; rfl) (argsL := [(.ref ar), (.int (6 : Int32)), (.int lo), (.int hi), (.int ff)]) (rest := []) (lenOf own_pd0 rfl) rfl (by show 2 * 0 + _ ≤ _; exact Nat.le_of_eq rfl) (hb hby own_d3_72) (fun _ _ => ⟨rfl, eh38, (by decide : 0 + 0 ≤ _), (by decide : 0 + 0 ≤ _)⟩)
  dsimp only [Pt.U, Pt.locs, Pt.cells, Pt.slots] at X40 l40 y40 z40 st40 hQ40
  subst l40 y40 z40
  obtain ⟨rfl, M40, eh40⟩ := hQ40
  have N40 := Fr.app N38 M40
  refine own_of (S' := T40.setTop (mkF m 75 #[.val (.ref ar), .val (.int lo), .val (.int hi), .val (.int ff)] [(.int (own_same xs (6 : Int32) lo hi ff))])) (fun t k => st40 _ k) ?_
  generalize q72 : (own_same xs (6 : Int32) lo hi ff) = r72
  have hc75 : ¬ (r72 = (0 : Int32)) := by rw [← q72, hs _ ⟨by decide, by decide⟩]; decide
  refine own_of (S' := T40.setTop (mkF m 78 #[.val (.ref ar), .val (.int lo), .val (.int hi), .val (.int ff)] [])) (fun t k => XS.ifNo X40.here hx rfl (hb hby own_d3_75) rfl ((if0 _ _).trans (feq hc75).1) k) ?_
  refine own_of (S' := T40.setTop (mkF m 79 #[.val (.ref ar), .val (.int lo), .val (.int hi), .val (.int ff)] [(.ref ar)])) (fun t k => XS.aloadN X40.here hx rfl (hb hby own_d3_78) rfl rfl k) ?_
  refine own_of (S' := T40.setTop (mkF m 81 #[.val (.ref ar), .val (.int lo), .val (.int hi), .val (.int ff)] [(.int (7 : Int32)), (.ref ar)])) (fun t k => XS.bipush X40.here hx rfl (hb hby own_d3_79) k) ?_
  refine own_of (S' := T40.setTop (mkF m 82 #[.val (.ref ar), .val (.int lo), .val (.int hi), .val (.int ff)] [(.int lo), (.int (7 : Int32)), (.ref ar)])) (fun t k => XS.iloadN X40.here hx rfl (hb hby own_d3_81) rfl k) ?_
  refine own_of (S' := T40.setTop (mkF m 83 #[.val (.ref ar), .val (.int lo), .val (.int hi), .val (.int ff)] [(.int hi), (.int lo), (.int (7 : Int32)), (.ref ar)])) (fun t k => XS.iloadN X40.here hx rfl (hb hby own_d3_82) rfl k) ?_
  refine own_of (S' := T40.setTop (mkF m 84 #[.val (.ref ar), .val (.int lo), .val (.int hi), .val (.int ff)] [(.int ff), (.int hi), (.int lo), (.int (7 : Int32)), (.ref ar)])) (fun t k => XS.iloadN X40.here hx rfl (hb hby own_d3_83) rfl k) ?_
  obtain ⟨_, _, ⟨T42, L42, k42, n42⟩, -, X42, ⟨Lc42, hQ42, l42, y42, z42⟩, st42⟩ := Jvm.LawKit.callS X40 hx (y := (⟨"com/example/distinct_counter/distinctcounter/SparseRegistersWriteRunPinLaw", "same", "([BIIIB)Z"⟩ : MethodName)) hown (mvT hZ (hw _ (List.mem_of_getElem? (i := 10) rfl))) (mvT hZ (hw _ (List.mem_of_getElem? (i := 11) rfl))) (mvT hZ (hw _ (List.mem_of_getElem? (i := 8) rfl))) (mvT hZ (hw _ (List.mem_of_getElem? (i := 12) rfl))) (by decide) (backOf (W := 0) (own_rm2 l Z _ hw [] ar (7 : Int32) lo hi ff ka xs h0 n0 F0 (⟨by decide, by decide⟩ : ¬ (7 : Int32) < (0 : Int32) ∧ (7 : Int32) < (8 : Int32))) hZ (hw _ (List.mem_of_getElem? (i := 12) rfl)) (hw _ (List.mem_of_getElem? (i := 8) rfl)) (by decide) (by decide)) (g := (mkF m 84 #[.val (.ref ar), .val (.int lo), .val (.int hi), .val (.int ff)] [(.int ff), (.int hi), (.int lo), (.int (7 : Int32)), (.ref ar)])) rfl (by rw [hml]; rfl) (argsL := [(.ref ar), (.int (7 : Int32)), (.int lo), (.int hi), (.int ff)]) (rest := []) (lenOf own_pd0 rfl) rfl (by show 2 * 0 + _ ≤ _; exact Nat.le_of_eq rfl) (hb hby own_d3_84) (fun _ _ => ⟨rfl, eh40, (by decide : 0 + 0 ≤ _), (by decide : 0 + 0 ≤ _)⟩)
  dsimp only [Pt.U, Pt.locs, Pt.cells, Pt.slots] at X42 l42 y42 z42 st42 hQ42
  subst l42 y42 z42
  obtain ⟨rfl, M42, eh42⟩ := hQ42
  have N42 := Fr.app N40 M42
  refine own_of (S' := T42.setTop (mkF m 87 #[.val (.ref ar), .val (.int lo), .val (.int hi), .val (.int ff)] [(.int (own_same xs (7 : Int32) lo hi ff))])) (fun t k => st42 _ k) ?_
  generalize q84 : (own_same xs (7 : Int32) lo hi ff) = r84
  have hc87 : ¬ (r84 = (0 : Int32)) := by rw [← q84, hs _ ⟨by decide, by decide⟩]; decide
  refine own_of (S' := T42.setTop (mkF m 90 #[.val (.ref ar), .val (.int lo), .val (.int hi), .val (.int ff)] [])) (fun t k => XS.ifNo X42.here hx rfl (hb hby own_d3_87) rfl ((if0 _ _).trans (feq hc87).1) k) ?_
  refine own_of (S' := T42.setTop (mkF m 91 #[.val (.ref ar), .val (.int lo), .val (.int hi), .val (.int ff)] [(.int (1 : Int32))])) (fun t k => XS.iconst X42.here hx rfl (hb hby own_d3_90) k) ?_
  refine own_of (S' := T42.setTop (mkF m 95 #[.val (.ref ar), .val (.int lo), .val (.int hi), .val (.int ff)] [(.int (1 : Int32))])) (fun t k => XS.goto X42.here hx rfl (pc0 := 91) (pc' := 95) rfl (hb hby own_d3_91) (by decide) (by decide) k) ?_
  obtain ⟨fs, hr, hrun, hended, hW, hsame⟩ := X42.leave (v := some (.int (nar .boolean (1 : Int32)))) (fun h => by rw [Bd.returns] at h; cases h)
  refine ⟨_, _, retN X42 hx (t := .boolean) Bd.returns (by simp) (hb hby own_d3_95) hr, hrun, hended, hG _ _ ⟨_, _, rfl, ?_, ⟨_, rfl⟩, hW, hsame.mono (by decide) (by decide)⟩⟩
  show own_Q3 Z ar lo hi ff ka xs h0 n0 _ T42.heap _
  rw [eh42]
  exact ⟨rfl, N42, rfl⟩
theorem own_pn0 : plainName "com/example/distinct_counter/distinctcounter/SparseRegistersWriteRunPinLaw" = true := by first | (simp [plainName, overriddenIn]; done) | decide +kernel
theorem own_ef0 (m : MethodId) (aa : Int32) (as_ : Int32) (ar_ : Int32) (af : Int32) : entryFrame m #[(.int aa), (.int as_), (.int ar_), (.int af)] maxLocals = mkF m 0 #[.val (.int aa), .val (.int as_), .val (.int ar_), .val (.int af), .unset, .unset, .unset, .unset, .unset, .unset, .unset, .unset] [] := by first | (simp [entryFrame, mkF, argsToLocals, Value.category, maxLocals]; done) | rfl
def own_Q0 (Z : State) (aa : Int32) (as_ : Int32) (ar_ : Int32) (af : Int32) (h0 : Heap) (n0 : Nat) (v : Option Value) (h : Heap) (L : List Loc) : Prop := v = some (.int 1) ∧ Fr n0 L
set_option maxRecDepth 65536 in
set_option maxHeartbeats 40000000 in
theorem own_rm0 (l : Launch) (Z : State) (a0 : Array Value) (hw : ∀ d ∈ tables_1, d.before a0 Z = true) (ws : List Jvm.Cond) (aa : Int32) (as_ : Int32) (ar_ : Int32) (af : Int32) (h0 : Heap) (n0 : Nat) (Z0 : n0 ≤ h0.size) :
    MetFree l x (head1 (Jvm.Cond.code x code maxLocals ret :: ws) room_1) (fun a U => a = #[(.int aa), (.int as_), (.int ar_), (.int af)] ∧ Z.Warmed39 U.vm ∧ U.heap = h0) (fun _ _ _ _ _ => True) (fun _ U o U' => ∃ v L, o = .returned v ∧ own_Q0 Z aa as_ ar_ af h0 n0 v U'.heap L ∧ FrameEnd U o U' L 1 8) := by
  refine MetFree.of_bodySF (plainFor_of_name own_pn0) hisR ?_
  intro p e s m args below meth c s₁ Bd hml0 hP hK
  obtain ⟨rfl, hZ, hh⟩ := hP
  have hx := Bd.exec
  have hby := Bd.bytes
  have hml : c.maxLocals = 12 := hml0
  have hown : s.vm.findClass "com/example/distinct_counter/distinctcounter/SparseRegistersWriteRunPinLaw" = some m.cls := findClass_of_methodNamed Bd.named
  have hnm := (name_of_methodNamed Bd.named Bd.method).1
  have X0 : Stand p l e room_1 s m #[(.int aa), (.int as_), (.int ar_), (.int af)] below meth c s₁ [] 0 0 := Stand.of_body Bd
  have e0 : s₁.heap = h0 := by rw [← hh, Bd.state]; rfl
  have N0 := Fr.nil n0
  refine own_out fun G hG => ?_
  rw [own_ef0 m aa as_ ar_ af]
  show own_Go p.tables e below G (s₁.setTop (mkF m 0 #[.val (.int aa), .val (.int as_), .val (.int ar_), .val (.int af), .unset, .unset, .unset, .unset, .unset, .unset, .unset, .unset] []))
  refine own_of (S' := s₁.setTop (mkF m 1 #[.val (.int aa), .val (.int as_), .val (.int ar_), .val (.int af), .unset, .unset, .unset, .unset, .unset, .unset, .unset, .unset] [(.int ar_)])) (fun t k => XS.iloadN X0.here hx rfl (hb hby at_0) rfl k) ?_
  refine own_of (S' := s₁.setTop (mkF m 3 #[.val (.int aa), .val (.int as_), .val (.int ar_), .val (.int af), .unset, .unset, .unset, .unset, .unset, .unset, .unset, .unset] [(.int (2147483647 : Int32)), (.int ar_)])) (X0.ldcInt hx hown (mvT hZ (hw _ (List.mem_of_getElem? (i := 0) rfl))) (g := (mkF m 1 #[.val (.int aa), .val (.int as_), .val (.int ar_), .val (.int af), .unset, .unset, .unset, .unset, .unset, .unset, .unset, .unset] [(.int ar_)])) rfl (hb hby at_1)) ?_
  refine own_of (S' := s₁.setTop (mkF m 4 #[.val (.int aa), .val (.int as_), .val (.int ar_), .val (.int af), .unset, .unset, .unset, .unset, .unset, .unset, .unset, .unset] [(.int (ar_ &&& (2147483647 : Int32)))])) (fun t k => XS.iand X0.here hx rfl (hb hby at_3) rfl k) ?_
  refine own_of (S' := s₁.setTop (mkF m 6 #[.val (.int aa), .val (.int as_), .val (.int ar_), .val (.int af), .unset, .unset, .unset, .unset, .unset, .unset, .unset, .unset] [(.int (33 : Int32)), (.int (ar_ &&& (2147483647 : Int32)))])) (fun t k => XS.bipush X0.here hx rfl (hb hby at_4) k) ?_
  have hz44 : (33 : Int32) ≠ (0 : Int32) := by decide
  refine own_of (S' := s₁.setTop (mkF m 7 #[.val (.int aa), .val (.int as_), .val (.int ar_), .val (.int af), .unset, .unset, .unset, .unset, .unset, .unset, .unset, .unset] [(.int ((ar_ &&& (2147483647 : Int32)) % (33 : Int32)))])) (fun t k => iremM X0 hx rfl (hb hby at_6) rfl hz44 k) ?_
  generalize q7 : ((ar_ &&& (2147483647 : Int32)) % (33 : Int32)) = x7
  refine own_of (S' := s₁.setTop (mkF m 9 #[.val (.int aa), .val (.int as_), .val (.int ar_), .val (.int af), .val (.int x7), .unset, .unset, .unset, .unset, .unset, .unset, .unset] [])) (fun t k => XS.istore X0.here hx rfl (hb hby at_7) rfl (l' := #[.val (.int aa), .val (.int as_), .val (.int ar_), .val (.int af), .val (.int x7), .unset, .unset, .unset, .unset, .unset, .unset, .unset]) rfl k) ?_
  refine own_of (S' := s₁.setTop (mkF m 11 #[.val (.int aa), .val (.int as_), .val (.int ar_), .val (.int af), .val (.int x7), .unset, .unset, .unset, .unset, .unset, .unset, .unset] [(.int x7)])) (fun t k => XS.iload X0.here hx rfl (hb hby at_9) rfl k) ?_
  obtain ⟨j31_s0, qj31_s0⟩ : ∃ z : Int32, z = (if (0 : Int32) < x7 then ((as_ &&& (2147483647 : Int32)) % (5 : Int32)) else ((as_ &&& (2147483647 : Int32)) % (16385 : Int32))) := ⟨_, rfl⟩
  suffices k48 : ∀ (T' : State) (locs' : List Loc), Stand p l e room_1 s m #[(.int aa), (.int as_), (.int ar_), (.int af)] below meth c T' locs' 0 0 → Fr n0 locs' → T'.heap = h0 → own_Go p.tables e below G (T'.setTop (mkF m 31 #[.val (.int aa), .val (.int as_), .val (.int ar_), .val (.int af), .val (.int x7), .unset, .unset, .unset, .unset, .unset, .unset, .unset] [(.int j31_s0)])) by
    by_cases hc11 : (0 : Int32) < x7
    · refine own_of (S' := s₁.setTop (mkF m 14 #[.val (.int aa), .val (.int as_), .val (.int ar_), .val (.int af), .val (.int x7), .unset, .unset, .unset, .unset, .unset, .unset, .unset] [])) (fun t k => XS.ifNo X0.here hx rfl (hb hby at_11) rfl ((if0 _ _).trans (tlt hc11).2.2.2) k) ?_
      refine own_of (S' := s₁.setTop (mkF m 15 #[.val (.int aa), .val (.int as_), .val (.int ar_), .val (.int af), .val (.int x7), .unset, .unset, .unset, .unset, .unset, .unset, .unset] [(.int as_)])) (fun t k => XS.iloadN X0.here hx rfl (hb hby at_14) rfl k) ?_
      refine own_of (S' := s₁.setTop (mkF m 17 #[.val (.int aa), .val (.int as_), .val (.int ar_), .val (.int af), .val (.int x7), .unset, .unset, .unset, .unset, .unset, .unset, .unset] [(.int (2147483647 : Int32)), (.int as_)])) (X0.ldcInt hx hown (mvT hZ (hw _ (List.mem_of_getElem? (i := 0) rfl))) (g := (mkF m 15 #[.val (.int aa), .val (.int as_), .val (.int ar_), .val (.int af), .val (.int x7), .unset, .unset, .unset, .unset, .unset, .unset, .unset] [(.int as_)])) rfl (hb hby at_15)) ?_
      refine own_of (S' := s₁.setTop (mkF m 18 #[.val (.int aa), .val (.int as_), .val (.int ar_), .val (.int af), .val (.int x7), .unset, .unset, .unset, .unset, .unset, .unset, .unset] [(.int (as_ &&& (2147483647 : Int32)))])) (fun t k => XS.iand X0.here hx rfl (hb hby at_17) rfl k) ?_
      refine own_of (S' := s₁.setTop (mkF m 19 #[.val (.int aa), .val (.int as_), .val (.int ar_), .val (.int af), .val (.int x7), .unset, .unset, .unset, .unset, .unset, .unset, .unset] [(.int (5 : Int32)), (.int (as_ &&& (2147483647 : Int32)))])) (fun t k => XS.iconst X0.here hx rfl (hb hby at_18) k) ?_
      have hz46 : (5 : Int32) ≠ (0 : Int32) := by decide
      refine own_of (S' := s₁.setTop (mkF m 20 #[.val (.int aa), .val (.int as_), .val (.int ar_), .val (.int af), .val (.int x7), .unset, .unset, .unset, .unset, .unset, .unset, .unset] [(.int ((as_ &&& (2147483647 : Int32)) % (5 : Int32)))])) (fun t k => iremM X0 hx rfl (hb hby at_19) rfl hz46 k) ?_
      refine own_of (S' := s₁.setTop (mkF m 31 #[.val (.int aa), .val (.int as_), .val (.int ar_), .val (.int af), .val (.int x7), .unset, .unset, .unset, .unset, .unset, .unset, .unset] [(.int ((as_ &&& (2147483647 : Int32)) % (5 : Int32)))])) (fun t k => XS.goto X0.here hx rfl (pc0 := 20) (pc' := 31) rfl (hb hby at_20) (by decide) (by decide) k) ?_
      have jw49 : j31_s0 = (((as_ &&& (2147483647 : Int32)) % (5 : Int32)) : Int32) := qj31_s0.trans (if_pos hc11)
      rw [jw49] at k48
      exact k48 s₁ _ X0 N0 e0
    · refine own_of (S' := s₁.setTop (mkF m 23 #[.val (.int aa), .val (.int as_), .val (.int ar_), .val (.int af), .val (.int x7), .unset, .unset, .unset, .unset, .unset, .unset, .unset] [])) (fun t k => XS.ifYes X0.here hx rfl (pc0 := 11) (pc' := 23) rfl (hb hby at_11) rfl ((if0 _ _).trans (flt hc11).2.2.2) (by decide) (by decide) k) ?_
      refine own_of (S' := s₁.setTop (mkF m 24 #[.val (.int aa), .val (.int as_), .val (.int ar_), .val (.int af), .val (.int x7), .unset, .unset, .unset, .unset, .unset, .unset, .unset] [(.int as_)])) (fun t k => XS.iloadN X0.here hx rfl (hb hby at_23) rfl k) ?_
      refine own_of (S' := s₁.setTop (mkF m 26 #[.val (.int aa), .val (.int as_), .val (.int ar_), .val (.int af), .val (.int x7), .unset, .unset, .unset, .unset, .unset, .unset, .unset] [(.int (2147483647 : Int32)), (.int as_)])) (X0.ldcInt hx hown (mvT hZ (hw _ (List.mem_of_getElem? (i := 0) rfl))) (g := (mkF m 24 #[.val (.int aa), .val (.int as_), .val (.int ar_), .val (.int af), .val (.int x7), .unset, .unset, .unset, .unset, .unset, .unset, .unset] [(.int as_)])) rfl (hb hby at_24)) ?_
      refine own_of (S' := s₁.setTop (mkF m 27 #[.val (.int aa), .val (.int as_), .val (.int ar_), .val (.int af), .val (.int x7), .unset, .unset, .unset, .unset, .unset, .unset, .unset] [(.int (as_ &&& (2147483647 : Int32)))])) (fun t k => XS.iand X0.here hx rfl (hb hby at_26) rfl k) ?_
      refine own_of (S' := s₁.setTop (mkF m 30 #[.val (.int aa), .val (.int as_), .val (.int ar_), .val (.int af), .val (.int x7), .unset, .unset, .unset, .unset, .unset, .unset, .unset] [(.int (16385 : Int32)), (.int (as_ &&& (2147483647 : Int32)))])) (fun t k => XS.sipush X0.here hx rfl (hb hby at_27) k) ?_
      have hz47 : (16385 : Int32) ≠ (0 : Int32) := by decide
      refine own_of (S' := s₁.setTop (mkF m 31 #[.val (.int aa), .val (.int as_), .val (.int ar_), .val (.int af), .val (.int x7), .unset, .unset, .unset, .unset, .unset, .unset, .unset] [(.int ((as_ &&& (2147483647 : Int32)) % (16385 : Int32)))])) (fun t k => iremM X0 hx rfl (hb hby at_30) rfl hz47 k) ?_
      have jw50 : j31_s0 = (((as_ &&& (2147483647 : Int32)) % (16385 : Int32)) : Int32) := qj31_s0.trans (if_neg hc11)
      rw [jw50] at k48
      exact k48 s₁ _ X0 N0 e0
  intro T48 locs48 X48 N48 e48
  refine own_of (S' := T48.setTop (mkF m 33 #[.val (.int aa), .val (.int as_), .val (.int ar_), .val (.int af), .val (.int x7), .val (.int j31_s0), .unset, .unset, .unset, .unset, .unset, .unset] [])) (fun t k => XS.istore X48.here hx rfl (hb hby at_31) rfl (l' := #[.val (.int aa), .val (.int as_), .val (.int ar_), .val (.int af), .val (.int x7), .val (.int j31_s0), .unset, .unset, .unset, .unset, .unset, .unset]) rfl k) ?_
  refine own_of (S' := T48.setTop (mkF m 34 #[.val (.int aa), .val (.int as_), .val (.int ar_), .val (.int af), .val (.int x7), .val (.int j31_s0), .unset, .unset, .unset, .unset, .unset, .unset] [(.int aa)])) (fun t k => XS.iloadN X48.here hx rfl (hb hby at_33) rfl k) ?_
  refine own_of (S' := T48.setTop (mkF m 36 #[.val (.int aa), .val (.int as_), .val (.int ar_), .val (.int af), .val (.int x7), .val (.int j31_s0), .unset, .unset, .unset, .unset, .unset, .unset] [(.int (2147483647 : Int32)), (.int aa)])) (X48.ldcInt hx hown (mvT hZ (hw _ (List.mem_of_getElem? (i := 0) rfl))) (g := (mkF m 34 #[.val (.int aa), .val (.int as_), .val (.int ar_), .val (.int af), .val (.int x7), .val (.int j31_s0), .unset, .unset, .unset, .unset, .unset, .unset] [(.int aa)])) rfl (hb hby at_34)) ?_
  refine own_of (S' := T48.setTop (mkF m 37 #[.val (.int aa), .val (.int as_), .val (.int ar_), .val (.int af), .val (.int x7), .val (.int j31_s0), .unset, .unset, .unset, .unset, .unset, .unset] [(.int (aa &&& (2147483647 : Int32)))])) (fun t k => XS.iand X48.here hx rfl (hb hby at_36) rfl k) ?_
  refine own_of (S' := T48.setTop (mkF m 39 #[.val (.int aa), .val (.int as_), .val (.int ar_), .val (.int af), .val (.int x7), .val (.int j31_s0), .unset, .unset, .unset, .unset, .unset, .unset] [(.int (7 : Int32)), (.int (aa &&& (2147483647 : Int32)))])) (fun t k => XS.bipush X48.here hx rfl (hb hby at_37) k) ?_
  have hz51 : (7 : Int32) ≠ (0 : Int32) := by decide
  refine own_of (S' := T48.setTop (mkF m 40 #[.val (.int aa), .val (.int as_), .val (.int ar_), .val (.int af), .val (.int x7), .val (.int j31_s0), .unset, .unset, .unset, .unset, .unset, .unset] [(.int ((aa &&& (2147483647 : Int32)) % (7 : Int32)))])) (fun t k => iremM X48 hx rfl (hb hby at_39) rfl hz51 k) ?_
  generalize q40 : ((aa &&& (2147483647 : Int32)) % (7 : Int32)) = x40
  refine own_of (S' := T48.setTop (mkF m 42 #[.val (.int aa), .val (.int as_), .val (.int ar_), .val (.int af), .val (.int x7), .val (.int j31_s0), .val (.int x40), .unset, .unset, .unset, .unset, .unset] [])) (fun t k => XS.istore X48.here hx rfl (hb hby at_40) rfl (l' := #[.val (.int aa), .val (.int as_), .val (.int ar_), .val (.int af), .val (.int x7), .val (.int j31_s0), .val (.int x40), .unset, .unset, .unset, .unset, .unset]) rfl k) ?_
  refine own_of (S' := T48.setTop (mkF m 43 #[.val (.int aa), .val (.int as_), .val (.int ar_), .val (.int af), .val (.int x7), .val (.int j31_s0), .val (.int x40), .unset, .unset, .unset, .unset, .unset] [(.int af)])) (fun t k => XS.iloadN X48.here hx rfl (hb hby at_42) rfl k) ?_
  refine own_of (S' := T48.setTop (mkF m 44 #[.val (.int aa), .val (.int as_), .val (.int ar_), .val (.int af), .val (.int x7), .val (.int j31_s0), .val (.int x40), .unset, .unset, .unset, .unset, .unset] [(.int (af.toInt8.toInt32))])) (fun t k => XS.i2b X48.here hx rfl (hb hby at_43) rfl k) ?_
  generalize q44 : (af.toInt8.toInt32) = x44
  refine own_of (S' := T48.setTop (mkF m 46 #[.val (.int aa), .val (.int as_), .val (.int ar_), .val (.int af), .val (.int x7), .val (.int j31_s0), .val (.int x40), .val (.int x44), .unset, .unset, .unset, .unset] [])) (fun t k => XS.istore X48.here hx rfl (hb hby at_44) rfl (l' := #[.val (.int aa), .val (.int as_), .val (.int ar_), .val (.int af), .val (.int x7), .val (.int j31_s0), .val (.int x40), .val (.int x44), .unset, .unset, .unset, .unset]) rfl k) ?_
  refine own_of (S' := T48.setTop (mkF m 48 #[.val (.int aa), .val (.int as_), .val (.int ar_), .val (.int af), .val (.int x7), .val (.int j31_s0), .val (.int x40), .val (.int x44), .unset, .unset, .unset, .unset] [(.int (8 : Int32))])) (fun t k => XS.bipush X48.here hx rfl (hb hby at_46) k) ?_
  obtain ⟨T52, h52, k52, X52, e52, E52, A52, st52⟩ := newP X48 hx hZ (hw _ (List.mem_of_getElem? (i := 1) rfl)) e48 (g := (mkF m 48 #[.val (.int aa), .val (.int as_), .val (.int ar_), .val (.int af), .val (.int x7), .val (.int j31_s0), .val (.int x40), .val (.int x44), .unset, .unset, .unset, .unset] [(.int (8 : Int32))])) rfl (hb hby at_48) rfl (by decide) (cap := 8) (by decide) (by decide) (by decide) (by decide)
  obtain ⟨b52, g52⟩ : ∃ z, z = h0.size := ⟨_, rfl⟩
  have g_b52 : n0 ≤ b52 := Nat.le_trans Z0 (Nat.le_of_eq g52.symm)
  rw [← g52] at A52 st52
  have f53 : own_AI Z h52 b52 k52 .byte (8 : Int32) [0, 0, 0, 0, 0, 0, 0, 0] := own_newI A52 (by decide) 8 (by decide) rfl
  have z54 : n0 ≤ h52.size := Nat.le_trans Z0 E52.1
  refine own_of (S' := T52.setTop (mkF m 50 #[.val (.int aa), .val (.int as_), .val (.int ar_), .val (.int af), .val (.int x7), .val (.int j31_s0), .val (.int x40), .val (.int x44), .unset, .unset, .unset, .unset] [(.ref b52)])) st52 ?_
  refine own_of (S' := T52.setTop (mkF m 52 #[.val (.int aa), .val (.int as_), .val (.int ar_), .val (.int af), .val (.int x7), .val (.int j31_s0), .val (.int x40), .val (.int x44), .val (.ref b52), .unset, .unset, .unset] [])) (fun t k => XS.astore X52.here hx rfl (hb hby at_50) rfl rfl (l' := #[.val (.int aa), .val (.int as_), .val (.int ar_), .val (.int af), .val (.int x7), .val (.int j31_s0), .val (.int x40), .val (.int x44), .val (.ref b52), .unset, .unset, .unset]) rfl k) ?_
  refine own_of (S' := T52.setTop (mkF m 54 #[.val (.int aa), .val (.int as_), .val (.int ar_), .val (.int af), .val (.int x7), .val (.int j31_s0), .val (.int x40), .val (.int x44), .val (.ref b52), .unset, .unset, .unset] [(.ref b52)])) (fun t k => XS.aload X52.here hx rfl (hb hby at_52) rfl rfl k) ?_
  refine own_of (S' := T52.setTop (mkF m 55 #[.val (.int aa), .val (.int as_), .val (.int ar_), .val (.int af), .val (.int x7), .val (.int j31_s0), .val (.int x40), .val (.int x44), .val (.ref b52), .unset, .unset, .unset] [(.int (0 : Int32)), (.ref b52)])) (fun t k => XS.iconst X52.here hx rfl (hb hby at_54) k) ?_
  refine own_of (S' := T52.setTop (mkF m 57 #[.val (.int aa), .val (.int as_), .val (.int ar_), .val (.int af), .val (.int x7), .val (.int j31_s0), .val (.int x40), .val (.int x44), .val (.ref b52), .unset, .unset, .unset] [(.int x44), (.int (0 : Int32)), (.ref b52)])) (fun t k => XS.iload X52.here hx rfl (hb hby at_55) rfl k) ?_
  obtain ⟨T55, h55, X55, e55, W55, V55, st55⟩ := own_stB X52 hx hZ e52 f53 (j := (0 : Int32)) ⟨by decide, by decide⟩ (g := (mkF m 57 #[.val (.int aa), .val (.int as_), .val (.int ar_), .val (.int af), .val (.int x7), .val (.int j31_s0), .val (.int x40), .val (.int x44), .val (.ref b52), .unset, .unset, .unset] [(.int x44), (.int (0 : Int32)), (.ref b52)])) rfl rfl (hb hby at_57)
  have f56 : own_AI Z h55 b52 k52 .byte (8 : Int32) [(x44.toInt8.toInt32), 0, 0, 0, 0, 0, 0, 0] := V55
  have N55 := Fr.snoc X55 N48 g_b52
  have z57 : n0 ≤ h55.size := Nat.le_trans z54 (Keep.of_wr W55).1
  refine own_of (S' := T55.setTop (mkF m 58 #[.val (.int aa), .val (.int as_), .val (.int ar_), .val (.int af), .val (.int x7), .val (.int j31_s0), .val (.int x40), .val (.int x44), .val (.ref b52), .unset, .unset, .unset] [])) st55 ?_
  refine own_of (S' := T55.setTop (mkF m 60 #[.val (.int aa), .val (.int as_), .val (.int ar_), .val (.int af), .val (.int x7), .val (.int j31_s0), .val (.int x40), .val (.int x44), .val (.ref b52), .unset, .unset, .unset] [(.ref b52)])) (fun t k => XS.aload X55.here hx rfl (hb hby at_58) rfl rfl k) ?_
  refine own_of (S' := T55.setTop (mkF m 61 #[.val (.int aa), .val (.int as_), .val (.int ar_), .val (.int af), .val (.int x7), .val (.int j31_s0), .val (.int x40), .val (.int x44), .val (.ref b52), .unset, .unset, .unset] [(.int (1 : Int32)), (.ref b52)])) (fun t k => XS.iconst X55.here hx rfl (hb hby at_60) k) ?_
  refine own_of (S' := T55.setTop (mkF m 63 #[.val (.int aa), .val (.int as_), .val (.int ar_), .val (.int af), .val (.int x7), .val (.int j31_s0), .val (.int x40), .val (.int x44), .val (.ref b52), .unset, .unset, .unset] [(.int x44), (.int (1 : Int32)), (.ref b52)])) (fun t k => XS.iload X55.here hx rfl (hb hby at_61) rfl k) ?_
  obtain ⟨T58, h58, X58, e58, W58, V58, st58⟩ := own_stB X55 hx hZ e55 f56 (j := (1 : Int32)) ⟨by decide, by decide⟩ (g := (mkF m 63 #[.val (.int aa), .val (.int as_), .val (.int ar_), .val (.int af), .val (.int x7), .val (.int j31_s0), .val (.int x40), .val (.int x44), .val (.ref b52), .unset, .unset, .unset] [(.int x44), (.int (1 : Int32)), (.ref b52)])) rfl rfl (hb hby at_63)
  have f59 : own_AI Z h58 b52 k52 .byte (8 : Int32) [(x44.toInt8.toInt32), (x44.toInt8.toInt32), 0, 0, 0, 0, 0, 0] := V58
  have N58 := Fr.snoc X58 N55 g_b52
  have z60 : n0 ≤ h58.size := Nat.le_trans z57 (Keep.of_wr W58).1
  refine own_of (S' := T58.setTop (mkF m 64 #[.val (.int aa), .val (.int as_), .val (.int ar_), .val (.int af), .val (.int x7), .val (.int j31_s0), .val (.int x40), .val (.int x44), .val (.ref b52), .unset, .unset, .unset] [])) st58 ?_
  refine own_of (S' := T58.setTop (mkF m 66 #[.val (.int aa), .val (.int as_), .val (.int ar_), .val (.int af), .val (.int x7), .val (.int j31_s0), .val (.int x40), .val (.int x44), .val (.ref b52), .unset, .unset, .unset] [(.ref b52)])) (fun t k => XS.aload X58.here hx rfl (hb hby at_64) rfl rfl k) ?_
  refine own_of (S' := T58.setTop (mkF m 67 #[.val (.int aa), .val (.int as_), .val (.int ar_), .val (.int af), .val (.int x7), .val (.int j31_s0), .val (.int x40), .val (.int x44), .val (.ref b52), .unset, .unset, .unset] [(.int (2 : Int32)), (.ref b52)])) (fun t k => XS.iconst X58.here hx rfl (hb hby at_66) k) ?_
  refine own_of (S' := T58.setTop (mkF m 69 #[.val (.int aa), .val (.int as_), .val (.int ar_), .val (.int af), .val (.int x7), .val (.int j31_s0), .val (.int x40), .val (.int x44), .val (.ref b52), .unset, .unset, .unset] [(.int x44), (.int (2 : Int32)), (.ref b52)])) (fun t k => XS.iload X58.here hx rfl (hb hby at_67) rfl k) ?_
  obtain ⟨T61, h61, X61, e61, W61, V61, st61⟩ := own_stB X58 hx hZ e58 f59 (j := (2 : Int32)) ⟨by decide, by decide⟩ (g := (mkF m 69 #[.val (.int aa), .val (.int as_), .val (.int ar_), .val (.int af), .val (.int x7), .val (.int j31_s0), .val (.int x40), .val (.int x44), .val (.ref b52), .unset, .unset, .unset] [(.int x44), (.int (2 : Int32)), (.ref b52)])) rfl rfl (hb hby at_69)
  have f62 : own_AI Z h61 b52 k52 .byte (8 : Int32) [(x44.toInt8.toInt32), (x44.toInt8.toInt32), (x44.toInt8.toInt32), 0, 0, 0, 0, 0] := V61
  have N61 := Fr.snoc X61 N58 g_b52
  have z63 : n0 ≤ h61.size := Nat.le_trans z60 (Keep.of_wr W61).1
  refine own_of (S' := T61.setTop (mkF m 70 #[.val (.int aa), .val (.int as_), .val (.int ar_), .val (.int af), .val (.int x7), .val (.int j31_s0), .val (.int x40), .val (.int x44), .val (.ref b52), .unset, .unset, .unset] [])) st61 ?_
  refine own_of (S' := T61.setTop (mkF m 72 #[.val (.int aa), .val (.int as_), .val (.int ar_), .val (.int af), .val (.int x7), .val (.int j31_s0), .val (.int x40), .val (.int x44), .val (.ref b52), .unset, .unset, .unset] [(.ref b52)])) (fun t k => XS.aload X61.here hx rfl (hb hby at_70) rfl rfl k) ?_
  refine own_of (S' := T61.setTop (mkF m 73 #[.val (.int aa), .val (.int as_), .val (.int ar_), .val (.int af), .val (.int x7), .val (.int j31_s0), .val (.int x40), .val (.int x44), .val (.ref b52), .unset, .unset, .unset] [(.int (3 : Int32)), (.ref b52)])) (fun t k => XS.iconst X61.here hx rfl (hb hby at_72) k) ?_
  refine own_of (S' := T61.setTop (mkF m 75 #[.val (.int aa), .val (.int as_), .val (.int ar_), .val (.int af), .val (.int x7), .val (.int j31_s0), .val (.int x40), .val (.int x44), .val (.ref b52), .unset, .unset, .unset] [(.int x44), (.int (3 : Int32)), (.ref b52)])) (fun t k => XS.iload X61.here hx rfl (hb hby at_73) rfl k) ?_
  obtain ⟨T64, h64, X64, e64, W64, V64, st64⟩ := own_stB X61 hx hZ e61 f62 (j := (3 : Int32)) ⟨by decide, by decide⟩ (g := (mkF m 75 #[.val (.int aa), .val (.int as_), .val (.int ar_), .val (.int af), .val (.int x7), .val (.int j31_s0), .val (.int x40), .val (.int x44), .val (.ref b52), .unset, .unset, .unset] [(.int x44), (.int (3 : Int32)), (.ref b52)])) rfl rfl (hb hby at_75)
  have f65 : own_AI Z h64 b52 k52 .byte (8 : Int32) [(x44.toInt8.toInt32), (x44.toInt8.toInt32), (x44.toInt8.toInt32), (x44.toInt8.toInt32), 0, 0, 0, 0] := V64
  have N64 := Fr.snoc X64 N61 g_b52
  have z66 : n0 ≤ h64.size := Nat.le_trans z63 (Keep.of_wr W64).1
  refine own_of (S' := T64.setTop (mkF m 76 #[.val (.int aa), .val (.int as_), .val (.int ar_), .val (.int af), .val (.int x7), .val (.int j31_s0), .val (.int x40), .val (.int x44), .val (.ref b52), .unset, .unset, .unset] [])) st64 ?_
  refine own_of (S' := T64.setTop (mkF m 78 #[.val (.int aa), .val (.int as_), .val (.int ar_), .val (.int af), .val (.int x7), .val (.int j31_s0), .val (.int x40), .val (.int x44), .val (.ref b52), .unset, .unset, .unset] [(.ref b52)])) (fun t k => XS.aload X64.here hx rfl (hb hby at_76) rfl rfl k) ?_
  refine own_of (S' := T64.setTop (mkF m 79 #[.val (.int aa), .val (.int as_), .val (.int ar_), .val (.int af), .val (.int x7), .val (.int j31_s0), .val (.int x40), .val (.int x44), .val (.ref b52), .unset, .unset, .unset] [(.int (4 : Int32)), (.ref b52)])) (fun t k => XS.iconst X64.here hx rfl (hb hby at_78) k) ?_
  refine own_of (S' := T64.setTop (mkF m 81 #[.val (.int aa), .val (.int as_), .val (.int ar_), .val (.int af), .val (.int x7), .val (.int j31_s0), .val (.int x40), .val (.int x44), .val (.ref b52), .unset, .unset, .unset] [(.int x44), (.int (4 : Int32)), (.ref b52)])) (fun t k => XS.iload X64.here hx rfl (hb hby at_79) rfl k) ?_
  obtain ⟨T67, h67, X67, e67, W67, V67, st67⟩ := own_stB X64 hx hZ e64 f65 (j := (4 : Int32)) ⟨by decide, by decide⟩ (g := (mkF m 81 #[.val (.int aa), .val (.int as_), .val (.int ar_), .val (.int af), .val (.int x7), .val (.int j31_s0), .val (.int x40), .val (.int x44), .val (.ref b52), .unset, .unset, .unset] [(.int x44), (.int (4 : Int32)), (.ref b52)])) rfl rfl (hb hby at_81)
  have f68 : own_AI Z h67 b52 k52 .byte (8 : Int32) [(x44.toInt8.toInt32), (x44.toInt8.toInt32), (x44.toInt8.toInt32), (x44.toInt8.toInt32), (x44.toInt8.toInt32), 0, 0, 0] := V67
  have N67 := Fr.snoc X67 N64 g_b52
  have z69 : n0 ≤ h67.size := Nat.le_trans z66 (Keep.of_wr W67).1
  refine own_of (S' := T67.setTop (mkF m 82 #[.val (.int aa), .val (.int as_), .val (.int ar_), .val (.int af), .val (.int x7), .val (.int j31_s0), .val (.int x40), .val (.int x44), .val (.ref b52), .unset, .unset, .unset] [])) st67 ?_
  refine own_of (S' := T67.setTop (mkF m 84 #[.val (.int aa), .val (.int as_), .val (.int ar_), .val (.int af), .val (.int x7), .val (.int j31_s0), .val (.int x40), .val (.int x44), .val (.ref b52), .unset, .unset, .unset] [(.ref b52)])) (fun t k => XS.aload X67.here hx rfl (hb hby at_82) rfl rfl k) ?_
  refine own_of (S' := T67.setTop (mkF m 85 #[.val (.int aa), .val (.int as_), .val (.int ar_), .val (.int af), .val (.int x7), .val (.int j31_s0), .val (.int x40), .val (.int x44), .val (.ref b52), .unset, .unset, .unset] [(.int (5 : Int32)), (.ref b52)])) (fun t k => XS.iconst X67.here hx rfl (hb hby at_84) k) ?_
  refine own_of (S' := T67.setTop (mkF m 87 #[.val (.int aa), .val (.int as_), .val (.int ar_), .val (.int af), .val (.int x7), .val (.int j31_s0), .val (.int x40), .val (.int x44), .val (.ref b52), .unset, .unset, .unset] [(.int x44), (.int (5 : Int32)), (.ref b52)])) (fun t k => XS.iload X67.here hx rfl (hb hby at_85) rfl k) ?_
  obtain ⟨T70, h70, X70, e70, W70, V70, st70⟩ := own_stB X67 hx hZ e67 f68 (j := (5 : Int32)) ⟨by decide, by decide⟩ (g := (mkF m 87 #[.val (.int aa), .val (.int as_), .val (.int ar_), .val (.int af), .val (.int x7), .val (.int j31_s0), .val (.int x40), .val (.int x44), .val (.ref b52), .unset, .unset, .unset] [(.int x44), (.int (5 : Int32)), (.ref b52)])) rfl rfl (hb hby at_87)
  have f71 : own_AI Z h70 b52 k52 .byte (8 : Int32) [(x44.toInt8.toInt32), (x44.toInt8.toInt32), (x44.toInt8.toInt32), (x44.toInt8.toInt32), (x44.toInt8.toInt32), (x44.toInt8.toInt32), 0, 0] := V70
  have N70 := Fr.snoc X70 N67 g_b52
  have z72 : n0 ≤ h70.size := Nat.le_trans z69 (Keep.of_wr W70).1
  refine own_of (S' := T70.setTop (mkF m 88 #[.val (.int aa), .val (.int as_), .val (.int ar_), .val (.int af), .val (.int x7), .val (.int j31_s0), .val (.int x40), .val (.int x44), .val (.ref b52), .unset, .unset, .unset] [])) st70 ?_
  refine own_of (S' := T70.setTop (mkF m 90 #[.val (.int aa), .val (.int as_), .val (.int ar_), .val (.int af), .val (.int x7), .val (.int j31_s0), .val (.int x40), .val (.int x44), .val (.ref b52), .unset, .unset, .unset] [(.ref b52)])) (fun t k => XS.aload X70.here hx rfl (hb hby at_88) rfl rfl k) ?_
  refine own_of (S' := T70.setTop (mkF m 92 #[.val (.int aa), .val (.int as_), .val (.int ar_), .val (.int af), .val (.int x7), .val (.int j31_s0), .val (.int x40), .val (.int x44), .val (.ref b52), .unset, .unset, .unset] [(.int (6 : Int32)), (.ref b52)])) (fun t k => XS.bipush X70.here hx rfl (hb hby at_90) k) ?_
  refine own_of (S' := T70.setTop (mkF m 94 #[.val (.int aa), .val (.int as_), .val (.int ar_), .val (.int af), .val (.int x7), .val (.int j31_s0), .val (.int x40), .val (.int x44), .val (.ref b52), .unset, .unset, .unset] [(.int x44), (.int (6 : Int32)), (.ref b52)])) (fun t k => XS.iload X70.here hx rfl (hb hby at_92) rfl k) ?_
  obtain ⟨T73, h73, X73, e73, W73, V73, st73⟩ := own_stB X70 hx hZ e70 f71 (j := (6 : Int32)) ⟨by decide, by decide⟩ (g := (mkF m 94 #[.val (.int aa), .val (.int as_), .val (.int ar_), .val (.int af), .val (.int x7), .val (.int j31_s0), .val (.int x40), .val (.int x44), .val (.ref b52), .unset, .unset, .unset] [(.int x44), (.int (6 : Int32)), (.ref b52)])) rfl rfl (hb hby at_94)
  have f74 : own_AI Z h73 b52 k52 .byte (8 : Int32) [(x44.toInt8.toInt32), (x44.toInt8.toInt32), (x44.toInt8.toInt32), (x44.toInt8.toInt32), (x44.toInt8.toInt32), (x44.toInt8.toInt32), (x44.toInt8.toInt32), 0] := V73
  have N73 := Fr.snoc X73 N70 g_b52
  have z75 : n0 ≤ h73.size := Nat.le_trans z72 (Keep.of_wr W73).1
  refine own_of (S' := T73.setTop (mkF m 95 #[.val (.int aa), .val (.int as_), .val (.int ar_), .val (.int af), .val (.int x7), .val (.int j31_s0), .val (.int x40), .val (.int x44), .val (.ref b52), .unset, .unset, .unset] [])) st73 ?_
  refine own_of (S' := T73.setTop (mkF m 97 #[.val (.int aa), .val (.int as_), .val (.int ar_), .val (.int af), .val (.int x7), .val (.int j31_s0), .val (.int x40), .val (.int x44), .val (.ref b52), .unset, .unset, .unset] [(.ref b52)])) (fun t k => XS.aload X73.here hx rfl (hb hby at_95) rfl rfl k) ?_
  refine own_of (S' := T73.setTop (mkF m 99 #[.val (.int aa), .val (.int as_), .val (.int ar_), .val (.int af), .val (.int x7), .val (.int j31_s0), .val (.int x40), .val (.int x44), .val (.ref b52), .unset, .unset, .unset] [(.int (7 : Int32)), (.ref b52)])) (fun t k => XS.bipush X73.here hx rfl (hb hby at_97) k) ?_
  refine own_of (S' := T73.setTop (mkF m 101 #[.val (.int aa), .val (.int as_), .val (.int ar_), .val (.int af), .val (.int x7), .val (.int j31_s0), .val (.int x40), .val (.int x44), .val (.ref b52), .unset, .unset, .unset] [(.int x44), (.int (7 : Int32)), (.ref b52)])) (fun t k => XS.iload X73.here hx rfl (hb hby at_99) rfl k) ?_
  obtain ⟨T76, h76, X76, e76, W76, V76, st76⟩ := own_stB X73 hx hZ e73 f74 (j := (7 : Int32)) ⟨by decide, by decide⟩ (g := (mkF m 101 #[.val (.int aa), .val (.int as_), .val (.int ar_), .val (.int af), .val (.int x7), .val (.int j31_s0), .val (.int x40), .val (.int x44), .val (.ref b52), .unset, .unset, .unset] [(.int x44), (.int (7 : Int32)), (.ref b52)])) rfl rfl (hb hby at_101)
  have f77 : own_AI Z h76 b52 k52 .byte (8 : Int32) [(x44.toInt8.toInt32), (x44.toInt8.toInt32), (x44.toInt8.toInt32), (x44.toInt8.toInt32), (x44.toInt8.toInt32), (x44.toInt8.toInt32), (x44.toInt8.toInt32), (x44.toInt8.toInt32)] := V76
  have N76 := Fr.snoc X76 N73 g_b52
  have z78 : n0 ≤ h76.size := Nat.le_trans z75 (Keep.of_wr W76).1
  refine own_of (S' := T76.setTop (mkF m 102 #[.val (.int aa), .val (.int as_), .val (.int ar_), .val (.int af), .val (.int x7), .val (.int j31_s0), .val (.int x40), .val (.int x44), .val (.ref b52), .unset, .unset, .unset] [])) st76 ?_
  refine own_of (S' := T76.setTop (mkF m 104 #[.val (.int aa), .val (.int as_), .val (.int ar_), .val (.int af), .val (.int x7), .val (.int j31_s0), .val (.int x40), .val (.int x44), .val (.ref b52), .unset, .unset, .unset] [(.ref b52)])) (fun t k => XS.aload X76.here hx rfl (hb hby at_102) rfl rfl k) ?_
  refine own_of (S' := T76.setTop (mkF m 106 #[.val (.int aa), .val (.int as_), .val (.int ar_), .val (.int af), .val (.int x7), .val (.int j31_s0), .val (.int x40), .val (.int x44), .val (.ref b52), .unset, .unset, .unset] [(.int x40), (.ref b52)])) (fun t k => XS.iload X76.here hx rfl (hb hby at_104) rfl k) ?_
  refine own_of (S' := T76.setTop (mkF m 108 #[.val (.int aa), .val (.int as_), .val (.int ar_), .val (.int af), .val (.int x7), .val (.int j31_s0), .val (.int x40), .val (.int x44), .val (.ref b52), .unset, .unset, .unset] [(.int j31_s0), (.int x40), (.ref b52)])) (fun t k => XS.iload X76.here hx rfl (hb hby at_106) rfl k) ?_
  refine own_of (S' := T76.setTop (mkF m 110 #[.val (.int aa), .val (.int as_), .val (.int ar_), .val (.int af), .val (.int x7), .val (.int j31_s0), .val (.int x40), .val (.int x44), .val (.ref b52), .unset, .unset, .unset] [(.int x7), (.int j31_s0), (.int x40), (.ref b52)])) (fun t k => XS.iload X76.here hx rfl (hb hby at_108) rfl k) ?_
  obtain ⟨_, _, ⟨T79, L79, k79, n79⟩, -, X79, ⟨Lc79, hQ79, l79, y79, z79⟩, st79⟩ := Jvm.LawKit.callS X76 hx (y := (⟨"com/example/distinct_counter/distinctcounter/SparseRegisters", "writeRun", "([BIII)I"⟩ : MethodName)) hown (mvT hZ (hw _ (List.mem_of_getElem? (i := 2) rfl))) (mvT hZ (hw _ (List.mem_of_getElem? (i := 3) rfl))) (mvT hZ (hw _ (List.mem_of_getElem? (i := 4) rfl))) (mvT hZ (hw _ (List.mem_of_getElem? (i := 5) rfl))) (by decide) (backOf (W := 0) (own_rm1 l Z _ hw [] b52 x40 j31_s0 x7 k52 ([(x44.toInt8.toInt32), (x44.toInt8.toInt32), (x44.toInt8.toInt32), (x44.toInt8.toInt32), (x44.toInt8.toInt32), (x44.toInt8.toInt32), (x44.toInt8.toInt32), (x44.toInt8.toInt32)]) h76 n0 f77 g_b52 (own_atb q40 : 0 ≤ x40.toInt ∧ x40.toInt ≤ 6)) hZ (hw _ (List.mem_of_getElem? (i := 5) rfl)) (hw _ (List.mem_of_getElem? (i := 4) rfl)) (by decide) (by decide)) (g := (mkF m 110 #[.val (.int aa), .val (.int as_), .val (.int ar_), .val (.int af), .val (.int x7), .val (.int j31_s0), .val (.int x40), .val (.int x44), .val (.ref b52), .unset, .unset, .unset] [(.int x7), (.int j31_s0), (.int x40), (.ref b52)])) rfl (by rw [hml]; rfl) (argsL := [(.ref b52), (.int x40), (.int j31_s0), (.int x7)]) (rest := []) (lenOf own_pd1 rfl) rfl (by show 2 * 0 + _ ≤ _; exact Nat.le_of_eq rfl) (hb hby at_110) (fun _ _ => ⟨rfl, e76, (by decide : 1 + 0 ≤ _), (by decide : 8 + 0 ≤ _)⟩)
  dsimp only [Pt.U, Pt.locs, Pt.cells, Pt.slots] at X79 l79 y79 z79 st79 hQ79
  subst l79 y79 z79
  obtain ⟨rfl, M79, K79, p79_0⟩ := hQ79
  have z80 : n0 ≤ T79.heap.size := Nat.le_trans z78 K79.1
  have N79 := Fr.app N76 M79
  refine own_of (S' := T79.setTop (mkF m 113 #[.val (.int aa), .val (.int as_), .val (.int ar_), .val (.int af), .val (.int x7), .val (.int j31_s0), .val (.int x40), .val (.int x44), .val (.ref b52), .unset, .unset, .unset] [(.int (own_next x40 j31_s0 x7))])) (fun t k => st79 _ k) ?_
  generalize q110 : (own_next x40 j31_s0 x7) = r110
  refine own_of (S' := T79.setTop (mkF m 115 #[.val (.int aa), .val (.int as_), .val (.int ar_), .val (.int af), .val (.int x7), .val (.int j31_s0), .val (.int x40), .val (.int x44), .val (.ref b52), .val (.int r110), .unset, .unset] [])) (fun t k => XS.istore X79.here hx rfl (hb hby at_113) rfl (l' := #[.val (.int aa), .val (.int as_), .val (.int ar_), .val (.int af), .val (.int x7), .val (.int j31_s0), .val (.int x40), .val (.int x44), .val (.ref b52), .val (.int r110), .unset, .unset]) rfl k) ?_
  refine own_of (S' := T79.setTop (mkF m 117 #[.val (.int aa), .val (.int as_), .val (.int ar_), .val (.int af), .val (.int x7), .val (.int j31_s0), .val (.int x40), .val (.int x44), .val (.ref b52), .val (.int r110), .unset, .unset] [(.int j31_s0)])) (fun t k => XS.iload X79.here hx rfl (hb hby at_115) rfl k) ?_
  by_cases hc117 : j31_s0 = (0 : Int32)
  · refine own_of (S' := T79.setTop (mkF m 120 #[.val (.int aa), .val (.int as_), .val (.int ar_), .val (.int af), .val (.int x7), .val (.int j31_s0), .val (.int x40), .val (.int x44), .val (.ref b52), .val (.int r110), .unset, .unset] [])) (fun t k => XS.ifNo X79.here hx rfl (hb hby at_117) rfl ((if0 _ _).trans (teq hc117).2) k) ?_
    refine own_of (S' := T79.setTop (mkF m 122 #[.val (.int aa), .val (.int as_), .val (.int ar_), .val (.int af), .val (.int x7), .val (.int j31_s0), .val (.int x40), .val (.int x44), .val (.ref b52), .val (.int r110), .unset, .unset] [(.int r110)])) (fun t k => XS.iload X79.here hx rfl (hb hby at_120) rfl k) ?_
    refine own_of (S' := T79.setTop (mkF m 124 #[.val (.int aa), .val (.int as_), .val (.int ar_), .val (.int af), .val (.int x7), .val (.int j31_s0), .val (.int x40), .val (.int x44), .val (.ref b52), .val (.int r110), .unset, .unset] [(.int x40), (.int r110)])) (fun t k => XS.iload X79.here hx rfl (hb hby at_122) rfl k) ?_
    have hc124 : r110 = x40 := by rw [← q110, own_next, if_pos hc117]
    refine own_of (S' := T79.setTop (mkF m 127 #[.val (.int aa), .val (.int as_), .val (.int ar_), .val (.int af), .val (.int x7), .val (.int j31_s0), .val (.int x40), .val (.int x44), .val (.ref b52), .val (.int r110), .unset, .unset] [])) (fun t k => XS.icmpNo X79.here hx rfl (hb hby at_124) rfl (teq hc124).2 k) ?_
    refine own_of (S' := T79.setTop (mkF m 129 #[.val (.int aa), .val (.int as_), .val (.int ar_), .val (.int af), .val (.int x7), .val (.int j31_s0), .val (.int x40), .val (.int x44), .val (.ref b52), .val (.int r110), .unset, .unset] [(.ref b52)])) (fun t k => XS.aload X79.here hx rfl (hb hby at_127) rfl rfl k) ?_
    refine own_of (S' := T79.setTop (mkF m 131 #[.val (.int aa), .val (.int as_), .val (.int ar_), .val (.int af), .val (.int x7), .val (.int j31_s0), .val (.int x40), .val (.int x44), .val (.ref b52), .val (.int r110), .unset, .unset] [(.int x40), (.ref b52)])) (fun t k => XS.iload X79.here hx rfl (hb hby at_129) rfl k) ?_
    refine own_of (S' := T79.setTop (mkF m 133 #[.val (.int aa), .val (.int as_), .val (.int ar_), .val (.int af), .val (.int x7), .val (.int j31_s0), .val (.int x40), .val (.int x44), .val (.ref b52), .val (.int r110), .unset, .unset] [(.int x40), (.int x40), (.ref b52)])) (fun t k => XS.iload X79.here hx rfl (hb hby at_131) rfl k) ?_
    refine own_of (S' := T79.setTop (mkF m 135 #[.val (.int aa), .val (.int as_), .val (.int ar_), .val (.int af), .val (.int x7), .val (.int j31_s0), .val (.int x40), .val (.int x44), .val (.ref b52), .val (.int r110), .unset, .unset] [(.int x44), (.int x40), (.int x40), (.ref b52)])) (fun t k => XS.iload X79.here hx rfl (hb hby at_133) rfl k) ?_
    obtain ⟨_, _, ⟨T83, L83, k83, n83⟩, -, X83, ⟨Lc83, hQ83, l83, y83, z83⟩, st83⟩ := Jvm.LawKit.callS X79 hx (y := (⟨"com/example/distinct_counter/distinctcounter/SparseRegistersWriteRunPinLaw", "untouched", "([BIIB)Z"⟩ : MethodName)) hown (mvT hZ (hw _ (List.mem_of_getElem? (i := 6) rfl))) (mvT hZ (hw _ (List.mem_of_getElem? (i := 7) rfl))) (mvT hZ (hw _ (List.mem_of_getElem? (i := 8) rfl))) (mvT hZ (hw _ (List.mem_of_getElem? (i := 9) rfl))) (by decide) (backOf (W := 0) (own_rm3 l Z _ hw [] b52 x40 x40 x44 k52 (own_wr [(x44.toInt8.toInt32), (x44.toInt8.toInt32), (x44.toInt8.toInt32), (x44.toInt8.toInt32), (x44.toInt8.toInt32), (x44.toInt8.toInt32), (x44.toInt8.toInt32), (x44.toInt8.toInt32)] x40 j31_s0 x7) T79.heap n0 p79_0 (own_unt (own_bb q44) (own_atb q40) (by rw [own_next, if_pos hc117]) : ∀ ix : Int32, ¬ ix < (0 : Int32) ∧ ix < (8 : Int32) → own_same (own_wr [(x44.toInt8.toInt32), (x44.toInt8.toInt32), (x44.toInt8.toInt32), (x44.toInt8.toInt32), (x44.toInt8.toInt32), (x44.toInt8.toInt32), (x44.toInt8.toInt32), (x44.toInt8.toInt32)] x40 j31_s0 x7) ix x40 x40 x44 = 1)) hZ (hw _ (List.mem_of_getElem? (i := 9) rfl)) (hw _ (List.mem_of_getElem? (i := 8) rfl)) (by decide) (by decide)) (g := (mkF m 135 #[.val (.int aa), .val (.int as_), .val (.int ar_), .val (.int af), .val (.int x7), .val (.int j31_s0), .val (.int x40), .val (.int x44), .val (.ref b52), .val (.int r110), .unset, .unset] [(.int x44), (.int x40), (.int x40), (.ref b52)])) rfl (by rw [hml]; rfl) (argsL := [(.ref b52), (.int x40), (.int x40), (.int x44)]) (rest := []) (lenOf own_pd2 rfl) rfl (by show 2 * 0 + _ ≤ _; exact Nat.le_of_eq rfl) (hb hby at_135) (fun _ _ => ⟨rfl, rfl, (by decide : 1 + 0 ≤ _), (by decide : 8 + 0 ≤ _)⟩)
    dsimp only [Pt.U, Pt.locs, Pt.cells, Pt.slots] at X83 l83 y83 z83 st83 hQ83
    subst l83 y83 z83
    obtain ⟨rfl, M83, eh83⟩ := hQ83
    have N83 := Fr.app N79 M83
    refine own_of (S' := T83.setTop (mkF m 138 #[.val (.int aa), .val (.int as_), .val (.int ar_), .val (.int af), .val (.int x7), .val (.int j31_s0), .val (.int x40), .val (.int x44), .val (.ref b52), .val (.int r110), .unset, .unset] [(.int (1 : Int32))])) (fun t k => st83 _ k) ?_
    have hc138 : ¬ ((1 : Int32) = (0 : Int32)) := by decide
    refine own_of (S' := T83.setTop (mkF m 141 #[.val (.int aa), .val (.int as_), .val (.int ar_), .val (.int af), .val (.int x7), .val (.int j31_s0), .val (.int x40), .val (.int x44), .val (.ref b52), .val (.int r110), .unset, .unset] [])) (fun t k => XS.ifNo X83.here hx rfl (hb hby at_138) rfl ((if0 _ _).trans (feq hc138).1) k) ?_
    refine own_of (S' := T83.setTop (mkF m 142 #[.val (.int aa), .val (.int as_), .val (.int ar_), .val (.int af), .val (.int x7), .val (.int j31_s0), .val (.int x40), .val (.int x44), .val (.ref b52), .val (.int r110), .unset, .unset] [(.int (1 : Int32))])) (fun t k => XS.iconst X83.here hx rfl (hb hby at_141) k) ?_
    refine own_of (S' := T83.setTop (mkF m 146 #[.val (.int aa), .val (.int as_), .val (.int ar_), .val (.int af), .val (.int x7), .val (.int j31_s0), .val (.int x40), .val (.int x44), .val (.ref b52), .val (.int r110), .unset, .unset] [(.int (1 : Int32))])) (fun t k => XS.goto X83.here hx rfl (pc0 := 142) (pc' := 146) rfl (hb hby at_142) (by decide) (by decide) k) ?_
    obtain ⟨fs, hr, hrun, hended, hW, hsame⟩ := X83.leave (v := some (.int (nar .boolean (1 : Int32)))) (fun h => by rw [Bd.returns] at h; cases h)
    refine ⟨_, _, retN X83 hx (t := .boolean) Bd.returns (by simp) (hb hby at_146) hr, hrun, hended, hG _ _ ⟨_, _, rfl, ?_, ⟨_, rfl⟩, hW, hsame.mono (by decide) (by decide)⟩⟩
    show own_Q0 Z aa as_ ar_ af h0 n0 _ T83.heap _
    rw [eh83]
    exact ⟨rfl, N83⟩
  · refine own_of (S' := T79.setTop (mkF m 147 #[.val (.int aa), .val (.int as_), .val (.int ar_), .val (.int af), .val (.int x7), .val (.int j31_s0), .val (.int x40), .val (.int x44), .val (.ref b52), .val (.int r110), .unset, .unset] [])) (fun t k => XS.ifYes X79.here hx rfl (pc0 := 117) (pc' := 147) rfl (hb hby at_117) rfl ((if0 _ _).trans (feq hc117).2) (by decide) (by decide) k) ?_
    refine own_of (S' := T79.setTop (mkF m 149 #[.val (.int aa), .val (.int as_), .val (.int ar_), .val (.int af), .val (.int x7), .val (.int j31_s0), .val (.int x40), .val (.int x44), .val (.ref b52), .val (.int r110), .unset, .unset] [(.ref b52)])) (fun t k => XS.aload X79.here hx rfl (hb hby at_147) rfl rfl k) ?_
    refine own_of (S' := T79.setTop (mkF m 151 #[.val (.int aa), .val (.int as_), .val (.int ar_), .val (.int af), .val (.int x7), .val (.int j31_s0), .val (.int x40), .val (.int x44), .val (.ref b52), .val (.int r110), .unset, .unset] [(.int x40), (.ref b52)])) (fun t k => XS.iload X79.here hx rfl (hb hby at_149) rfl k) ?_
    refine own_of (S' := T79.setTop (mkF m 152 #[.val (.int aa), .val (.int as_), .val (.int ar_), .val (.int af), .val (.int x7), .val (.int j31_s0), .val (.int x40), .val (.int x44), .val (.ref b52), .val (.int r110), .unset, .unset] [(.int (List.getD (own_wr [(x44.toInt8.toInt32), (x44.toInt8.toInt32), (x44.toInt8.toInt32), (x44.toInt8.toInt32), (x44.toInt8.toInt32), (x44.toInt8.toInt32), (x44.toInt8.toInt32), (x44.toInt8.toInt32)] x40 j31_s0 x7) (x40).toNatClampNeg 0))])) (own_ldB X79 hx hZ rfl p79_0 (j := x40) (own_in0 (own_atb q40)) (g := (mkF m 151 #[.val (.int aa), .val (.int as_), .val (.int ar_), .val (.int af), .val (.int x7), .val (.int j31_s0), .val (.int x40), .val (.int x44), .val (.ref b52), .val (.int r110), .unset, .unset] [(.int x40), (.ref b52)])) rfl rfl (hb hby at_151)) ?_
    refine own_of (S' := T79.setTop (mkF m 155 #[.val (.int aa), .val (.int as_), .val (.int ar_), .val (.int af), .val (.int x7), .val (.int j31_s0), .val (.int x40), .val (.int x44), .val (.ref b52), .val (.int r110), .unset, .unset] [(.int (255 : Int32)), (.int (List.getD (own_wr [(x44.toInt8.toInt32), (x44.toInt8.toInt32), (x44.toInt8.toInt32), (x44.toInt8.toInt32), (x44.toInt8.toInt32), (x44.toInt8.toInt32), (x44.toInt8.toInt32), (x44.toInt8.toInt32)] x40 j31_s0 x7) (x40).toNatClampNeg 0))])) (fun t k => XS.sipush X79.here hx rfl (hb hby at_152) k) ?_
    refine own_of (S' := T79.setTop (mkF m 156 #[.val (.int aa), .val (.int as_), .val (.int ar_), .val (.int af), .val (.int x7), .val (.int j31_s0), .val (.int x40), .val (.int x44), .val (.ref b52), .val (.int r110), .unset, .unset] [(.int ((List.getD (own_wr [(x44.toInt8.toInt32), (x44.toInt8.toInt32), (x44.toInt8.toInt32), (x44.toInt8.toInt32), (x44.toInt8.toInt32), (x44.toInt8.toInt32), (x44.toInt8.toInt32), (x44.toInt8.toInt32)] x40 j31_s0 x7) (x40).toNatClampNeg 0) &&& (255 : Int32)))])) (fun t k => XS.iand X79.here hx rfl (hb hby at_155) rfl k) ?_
    generalize q156 : ((List.getD (own_wr [(x44.toInt8.toInt32), (x44.toInt8.toInt32), (x44.toInt8.toInt32), (x44.toInt8.toInt32), (x44.toInt8.toInt32), (x44.toInt8.toInt32), (x44.toInt8.toInt32), (x44.toInt8.toInt32)] x40 j31_s0 x7) (x40).toNatClampNeg 0) &&& (255 : Int32)) = x156
    refine own_of (S' := T79.setTop (mkF m 158 #[.val (.int aa), .val (.int as_), .val (.int ar_), .val (.int af), .val (.int x7), .val (.int j31_s0), .val (.int x40), .val (.int x44), .val (.ref b52), .val (.int r110), .val (.int x156), .unset] [])) (fun t k => XS.istore X79.here hx rfl (hb hby at_156) rfl (l' := #[.val (.int aa), .val (.int as_), .val (.int ar_), .val (.int af), .val (.int x7), .val (.int j31_s0), .val (.int x40), .val (.int x44), .val (.ref b52), .val (.int r110), .val (.int x156), .unset]) rfl k) ?_
    refine own_of (S' := T79.setTop (mkF m 160 #[.val (.int aa), .val (.int as_), .val (.int ar_), .val (.int af), .val (.int x7), .val (.int j31_s0), .val (.int x40), .val (.int x44), .val (.ref b52), .val (.int r110), .val (.int x156), .unset] [(.int x7)])) (fun t k => XS.iload X79.here hx rfl (hb hby at_158) rfl k) ?_
    by_cases hc160 : (0 : Int32) < x7
    · refine own_of (S' := T79.setTop (mkF m 163 #[.val (.int aa), .val (.int as_), .val (.int ar_), .val (.int af), .val (.int x7), .val (.int j31_s0), .val (.int x40), .val (.int x44), .val (.ref b52), .val (.int r110), .val (.int x156), .unset] [])) (fun t k => XS.ifNo X79.here hx rfl (hb hby at_160) rfl ((if0 _ _).trans (tlt hc160).2.2.2) k) ?_
      refine own_of (S' := T79.setTop (mkF m 165 #[.val (.int aa), .val (.int as_), .val (.int ar_), .val (.int af), .val (.int x7), .val (.int j31_s0), .val (.int x40), .val (.int x44), .val (.ref b52), .val (.int r110), .val (.int x156), .unset] [(.int r110)])) (fun t k => XS.iload X79.here hx rfl (hb hby at_163) rfl k) ?_
      refine own_of (S' := T79.setTop (mkF m 167 #[.val (.int aa), .val (.int as_), .val (.int ar_), .val (.int af), .val (.int x7), .val (.int j31_s0), .val (.int x40), .val (.int x44), .val (.ref b52), .val (.int r110), .val (.int x156), .unset] [(.int x40), (.int r110)])) (fun t k => XS.iload X79.here hx rfl (hb hby at_165) rfl k) ?_
      refine own_of (S' := T79.setTop (mkF m 168 #[.val (.int aa), .val (.int as_), .val (.int ar_), .val (.int af), .val (.int x7), .val (.int j31_s0), .val (.int x40), .val (.int x44), .val (.ref b52), .val (.int r110), .val (.int x156), .unset] [(.int (1 : Int32)), (.int x40), (.int r110)])) (fun t k => XS.iconst X79.here hx rfl (hb hby at_167) k) ?_
      refine own_of (S' := T79.setTop (mkF m 169 #[.val (.int aa), .val (.int as_), .val (.int ar_), .val (.int af), .val (.int x7), .val (.int j31_s0), .val (.int x40), .val (.int x44), .val (.ref b52), .val (.int r110), .val (.int x156), .unset] [(.int (x40 + (1 : Int32))), (.int r110)])) (fun t k => XS.iadd X79.here hx rfl (hb hby at_168) rfl k) ?_
      have hc169 : r110 = (x40 + (1 : Int32)) := by rw [← q110, own_next, if_neg hc117, if_pos hc160]
      refine own_of (S' := T79.setTop (mkF m 172 #[.val (.int aa), .val (.int as_), .val (.int ar_), .val (.int af), .val (.int x7), .val (.int j31_s0), .val (.int x40), .val (.int x44), .val (.ref b52), .val (.int r110), .val (.int x156), .unset] [])) (fun t k => XS.icmpNo X79.here hx rfl (hb hby at_169) rfl (teq hc169).2 k) ?_
      refine own_of (S' := T79.setTop (mkF m 174 #[.val (.int aa), .val (.int as_), .val (.int ar_), .val (.int af), .val (.int x7), .val (.int j31_s0), .val (.int x40), .val (.int x44), .val (.ref b52), .val (.int r110), .val (.int x156), .unset] [(.int x156)])) (fun t k => XS.iload X79.here hx rfl (hb hby at_172) rfl k) ?_
      refine own_of (S' := T79.setTop (mkF m 177 #[.val (.int aa), .val (.int as_), .val (.int ar_), .val (.int af), .val (.int x7), .val (.int j31_s0), .val (.int x40), .val (.int x44), .val (.ref b52), .val (.int r110), .val (.int x156), .unset] [(.int (128 : Int32)), (.int x156)])) (fun t k => XS.sipush X79.here hx rfl (hb hby at_174) k) ?_
      refine own_of (S' := T79.setTop (mkF m 178 #[.val (.int aa), .val (.int as_), .val (.int ar_), .val (.int af), .val (.int x7), .val (.int j31_s0), .val (.int x40), .val (.int x44), .val (.ref b52), .val (.int r110), .val (.int x156), .unset] [(.int (x156 &&& (128 : Int32)))])) (fun t k => XS.iand X79.here hx rfl (hb hby at_177) rfl k) ?_
      have hc178 : ¬ ((x156 &&& (128 : Int32)) = (0 : Int32)) := by exact (own_d1 (own_rlb q7) (own_spb5 q7 qj31_s0 hc160) hc117 hc160 (own_g1 (own_atb q40) hc117 hc160 q156)).1
      refine own_of (S' := T79.setTop (mkF m 181 #[.val (.int aa), .val (.int as_), .val (.int ar_), .val (.int af), .val (.int x7), .val (.int j31_s0), .val (.int x40), .val (.int x44), .val (.ref b52), .val (.int r110), .val (.int x156), .unset] [])) (fun t k => XS.ifNo X79.here hx rfl (hb hby at_178) rfl ((if0 _ _).trans (feq hc178).1) k) ?_
      refine own_of (S' := T79.setTop (mkF m 183 #[.val (.int aa), .val (.int as_), .val (.int ar_), .val (.int af), .val (.int x7), .val (.int j31_s0), .val (.int x40), .val (.int x44), .val (.ref b52), .val (.int r110), .val (.int x156), .unset] [(.int x156)])) (fun t k => XS.iload X79.here hx rfl (hb hby at_181) rfl k) ?_
      refine own_of (S' := T79.setTop (mkF m 184 #[.val (.int aa), .val (.int as_), .val (.int ar_), .val (.int af), .val (.int x7), .val (.int j31_s0), .val (.int x40), .val (.int x44), .val (.ref b52), .val (.int r110), .val (.int x156), .unset] [(.int (2 : Int32)), (.int x156)])) (fun t k => XS.iconst X79.here hx rfl (hb hby at_183) k) ?_
      refine own_of (S' := T79.setTop (mkF m 185 #[.val (.int aa), .val (.int as_), .val (.int ar_), .val (.int af), .val (.int x7), .val (.int j31_s0), .val (.int x40), .val (.int x44), .val (.ref b52), .val (.int r110), .val (.int x156), .unset] [(.int ((x156.toUInt32 >>> ((2 : Int32) &&& 31).toUInt32).toInt32))])) (fun t k => XS.iushr X79.here hx rfl (hb hby at_184) rfl k) ?_
      refine own_of (S' := T79.setTop (mkF m 187 #[.val (.int aa), .val (.int as_), .val (.int ar_), .val (.int af), .val (.int x7), .val (.int j31_s0), .val (.int x40), .val (.int x44), .val (.ref b52), .val (.int r110), .val (.int x156), .unset] [(.int (31 : Int32)), (.int ((x156.toUInt32 >>> ((2 : Int32) &&& 31).toUInt32).toInt32))])) (fun t k => XS.bipush X79.here hx rfl (hb hby at_185) k) ?_
      refine own_of (S' := T79.setTop (mkF m 188 #[.val (.int aa), .val (.int as_), .val (.int ar_), .val (.int af), .val (.int x7), .val (.int j31_s0), .val (.int x40), .val (.int x44), .val (.ref b52), .val (.int r110), .val (.int x156), .unset] [(.int (((x156.toUInt32 >>> ((2 : Int32) &&& 31).toUInt32).toInt32) &&& (31 : Int32)))])) (fun t k => XS.iand X79.here hx rfl (hb hby at_187) rfl k) ?_
      refine own_of (S' := T79.setTop (mkF m 189 #[.val (.int aa), .val (.int as_), .val (.int ar_), .val (.int af), .val (.int x7), .val (.int j31_s0), .val (.int x40), .val (.int x44), .val (.ref b52), .val (.int r110), .val (.int x156), .unset] [(.int (1 : Int32)), (.int (((x156.toUInt32 >>> ((2 : Int32) &&& 31).toUInt32).toInt32) &&& (31 : Int32)))])) (fun t k => XS.iconst X79.here hx rfl (hb hby at_188) k) ?_
      refine own_of (S' := T79.setTop (mkF m 190 #[.val (.int aa), .val (.int as_), .val (.int ar_), .val (.int af), .val (.int x7), .val (.int j31_s0), .val (.int x40), .val (.int x44), .val (.ref b52), .val (.int r110), .val (.int x156), .unset] [(.int ((((x156.toUInt32 >>> ((2 : Int32) &&& 31).toUInt32).toInt32) &&& (31 : Int32)) + (1 : Int32)))])) (fun t k => XS.iadd X79.here hx rfl (hb hby at_189) rfl k) ?_
      refine own_of (S' := T79.setTop (mkF m 192 #[.val (.int aa), .val (.int as_), .val (.int ar_), .val (.int af), .val (.int x7), .val (.int j31_s0), .val (.int x40), .val (.int x44), .val (.ref b52), .val (.int r110), .val (.int x156), .unset] [(.int x7), (.int ((((x156.toUInt32 >>> ((2 : Int32) &&& 31).toUInt32).toInt32) &&& (31 : Int32)) + (1 : Int32)))])) (fun t k => XS.iload X79.here hx rfl (hb hby at_190) rfl k) ?_
      have hc192 : ((((x156.toUInt32 >>> ((2 : Int32) &&& 31).toUInt32).toInt32) &&& (31 : Int32)) + (1 : Int32)) = x7 := by exact (own_d1 (own_rlb q7) (own_spb5 q7 qj31_s0 hc160) hc117 hc160 (own_g1 (own_atb q40) hc117 hc160 q156)).2.1
      refine own_of (S' := T79.setTop (mkF m 195 #[.val (.int aa), .val (.int as_), .val (.int ar_), .val (.int af), .val (.int x7), .val (.int j31_s0), .val (.int x40), .val (.int x44), .val (.ref b52), .val (.int r110), .val (.int x156), .unset] [])) (fun t k => XS.icmpNo X79.here hx rfl (hb hby at_192) rfl (teq hc192).2 k) ?_
      refine own_of (S' := T79.setTop (mkF m 197 #[.val (.int aa), .val (.int as_), .val (.int ar_), .val (.int af), .val (.int x7), .val (.int j31_s0), .val (.int x40), .val (.int x44), .val (.ref b52), .val (.int r110), .val (.int x156), .unset] [(.int x156)])) (fun t k => XS.iload X79.here hx rfl (hb hby at_195) rfl k) ?_
      refine own_of (S' := T79.setTop (mkF m 198 #[.val (.int aa), .val (.int as_), .val (.int ar_), .val (.int af), .val (.int x7), .val (.int j31_s0), .val (.int x40), .val (.int x44), .val (.ref b52), .val (.int r110), .val (.int x156), .unset] [(.int (3 : Int32)), (.int x156)])) (fun t k => XS.iconst X79.here hx rfl (hb hby at_197) k) ?_
      refine own_of (S' := T79.setTop (mkF m 199 #[.val (.int aa), .val (.int as_), .val (.int ar_), .val (.int af), .val (.int x7), .val (.int j31_s0), .val (.int x40), .val (.int x44), .val (.ref b52), .val (.int r110), .val (.int x156), .unset] [(.int (x156 &&& (3 : Int32)))])) (fun t k => XS.iand X79.here hx rfl (hb hby at_198) rfl k) ?_
      refine own_of (S' := T79.setTop (mkF m 200 #[.val (.int aa), .val (.int as_), .val (.int ar_), .val (.int af), .val (.int x7), .val (.int j31_s0), .val (.int x40), .val (.int x44), .val (.ref b52), .val (.int r110), .val (.int x156), .unset] [(.int (1 : Int32)), (.int (x156 &&& (3 : Int32)))])) (fun t k => XS.iconst X79.here hx rfl (hb hby at_199) k) ?_
      refine own_of (S' := T79.setTop (mkF m 201 #[.val (.int aa), .val (.int as_), .val (.int ar_), .val (.int af), .val (.int x7), .val (.int j31_s0), .val (.int x40), .val (.int x44), .val (.ref b52), .val (.int r110), .val (.int x156), .unset] [(.int ((x156 &&& (3 : Int32)) + (1 : Int32)))])) (fun t k => XS.iadd X79.here hx rfl (hb hby at_200) rfl k) ?_
      refine own_of (S' := T79.setTop (mkF m 203 #[.val (.int aa), .val (.int as_), .val (.int ar_), .val (.int af), .val (.int x7), .val (.int j31_s0), .val (.int x40), .val (.int x44), .val (.ref b52), .val (.int r110), .val (.int x156), .unset] [(.int j31_s0), (.int ((x156 &&& (3 : Int32)) + (1 : Int32)))])) (fun t k => XS.iload X79.here hx rfl (hb hby at_201) rfl k) ?_
      have hc203 : ((x156 &&& (3 : Int32)) + (1 : Int32)) = j31_s0 := by exact (own_d1 (own_rlb q7) (own_spb5 q7 qj31_s0 hc160) hc117 hc160 (own_g1 (own_atb q40) hc117 hc160 q156)).2.2
      refine own_of (S' := T79.setTop (mkF m 206 #[.val (.int aa), .val (.int as_), .val (.int ar_), .val (.int af), .val (.int x7), .val (.int j31_s0), .val (.int x40), .val (.int x44), .val (.ref b52), .val (.int r110), .val (.int x156), .unset] [])) (fun t k => XS.icmpNo X79.here hx rfl (hb hby at_203) rfl (teq hc203).2 k) ?_
      refine own_of (S' := T79.setTop (mkF m 208 #[.val (.int aa), .val (.int as_), .val (.int ar_), .val (.int af), .val (.int x7), .val (.int j31_s0), .val (.int x40), .val (.int x44), .val (.ref b52), .val (.int r110), .val (.int x156), .unset] [(.ref b52)])) (fun t k => XS.aload X79.here hx rfl (hb hby at_206) rfl rfl k) ?_
      refine own_of (S' := T79.setTop (mkF m 210 #[.val (.int aa), .val (.int as_), .val (.int ar_), .val (.int af), .val (.int x7), .val (.int j31_s0), .val (.int x40), .val (.int x44), .val (.ref b52), .val (.int r110), .val (.int x156), .unset] [(.int x40), (.ref b52)])) (fun t k => XS.iload X79.here hx rfl (hb hby at_208) rfl k) ?_
      refine own_of (S' := T79.setTop (mkF m 212 #[.val (.int aa), .val (.int as_), .val (.int ar_), .val (.int af), .val (.int x7), .val (.int j31_s0), .val (.int x40), .val (.int x44), .val (.ref b52), .val (.int r110), .val (.int x156), .unset] [(.int x40), (.int x40), (.ref b52)])) (fun t k => XS.iload X79.here hx rfl (hb hby at_210) rfl k) ?_
      refine own_of (S' := T79.setTop (mkF m 213 #[.val (.int aa), .val (.int as_), .val (.int ar_), .val (.int af), .val (.int x7), .val (.int j31_s0), .val (.int x40), .val (.int x44), .val (.ref b52), .val (.int r110), .val (.int x156), .unset] [(.int (1 : Int32)), (.int x40), (.int x40), (.ref b52)])) (fun t k => XS.iconst X79.here hx rfl (hb hby at_212) k) ?_
      refine own_of (S' := T79.setTop (mkF m 214 #[.val (.int aa), .val (.int as_), .val (.int ar_), .val (.int af), .val (.int x7), .val (.int j31_s0), .val (.int x40), .val (.int x44), .val (.ref b52), .val (.int r110), .val (.int x156), .unset] [(.int (x40 + (1 : Int32))), (.int x40), (.ref b52)])) (fun t k => XS.iadd X79.here hx rfl (hb hby at_213) rfl k) ?_
      refine own_of (S' := T79.setTop (mkF m 216 #[.val (.int aa), .val (.int as_), .val (.int ar_), .val (.int af), .val (.int x7), .val (.int j31_s0), .val (.int x40), .val (.int x44), .val (.ref b52), .val (.int r110), .val (.int x156), .unset] [(.int x44), (.int (x40 + (1 : Int32))), (.int x40), (.ref b52)])) (fun t k => XS.iload X79.here hx rfl (hb hby at_214) rfl k) ?_
      obtain ⟨_, _, ⟨T90, L90, k90, n90⟩, -, X90, ⟨Lc90, hQ90, l90, y90, z90⟩, st90⟩ := Jvm.LawKit.callS X79 hx (y := (⟨"com/example/distinct_counter/distinctcounter/SparseRegistersWriteRunPinLaw", "untouched", "([BIIB)Z"⟩ : MethodName)) hown (mvT hZ (hw _ (List.mem_of_getElem? (i := 6) rfl))) (mvT hZ (hw _ (List.mem_of_getElem? (i := 7) rfl))) (mvT hZ (hw _ (List.mem_of_getElem? (i := 8) rfl))) (mvT hZ (hw _ (List.mem_of_getElem? (i := 9) rfl))) (by decide) (backOf (W := 0) (own_rm3 l Z _ hw [] b52 x40 (x40 + (1 : Int32)) x44 k52 (own_wr [(x44.toInt8.toInt32), (x44.toInt8.toInt32), (x44.toInt8.toInt32), (x44.toInt8.toInt32), (x44.toInt8.toInt32), (x44.toInt8.toInt32), (x44.toInt8.toInt32), (x44.toInt8.toInt32)] x40 j31_s0 x7) T79.heap n0 p79_0 (own_unt (own_bb q44) (own_atb q40) (by rw [own_next, if_neg hc117, if_pos hc160]) : ∀ ix : Int32, ¬ ix < (0 : Int32) ∧ ix < (8 : Int32) → own_same (own_wr [(x44.toInt8.toInt32), (x44.toInt8.toInt32), (x44.toInt8.toInt32), (x44.toInt8.toInt32), (x44.toInt8.toInt32), (x44.toInt8.toInt32), (x44.toInt8.toInt32), (x44.toInt8.toInt32)] x40 j31_s0 x7) ix x40 (x40 + (1 : Int32)) x44 = 1)) hZ (hw _ (List.mem_of_getElem? (i := 9) rfl)) (hw _ (List.mem_of_getElem? (i := 8) rfl)) (by decide) (by decide)) (g := (mkF m 216 #[.val (.int aa), .val (.int as_), .val (.int ar_), .val (.int af), .val (.int x7), .val (.int j31_s0), .val (.int x40), .val (.int x44), .val (.ref b52), .val (.int r110), .val (.int x156), .unset] [(.int x44), (.int (x40 + (1 : Int32))), (.int x40), (.ref b52)])) rfl (by rw [hml]; rfl) (argsL := [(.ref b52), (.int x40), (.int (x40 + (1 : Int32))), (.int x44)]) (rest := []) (lenOf own_pd2 rfl) rfl (by show 2 * 0 + _ ≤ _; exact Nat.le_of_eq rfl) (hb hby at_216) (fun _ _ => ⟨rfl, rfl, (by decide : 1 + 0 ≤ _), (by decide : 8 + 0 ≤ _)⟩)
      dsimp only [Pt.U, Pt.locs, Pt.cells, Pt.slots] at X90 l90 y90 z90 st90 hQ90
      subst l90 y90 z90
      obtain ⟨rfl, M90, eh90⟩ := hQ90
      have N90 := Fr.app N79 M90
      refine own_of (S' := T90.setTop (mkF m 219 #[.val (.int aa), .val (.int as_), .val (.int ar_), .val (.int af), .val (.int x7), .val (.int j31_s0), .val (.int x40), .val (.int x44), .val (.ref b52), .val (.int r110), .val (.int x156), .unset] [(.int (1 : Int32))])) (fun t k => st90 _ k) ?_
      have hc219 : ¬ ((1 : Int32) = (0 : Int32)) := by decide
      refine own_of (S' := T90.setTop (mkF m 222 #[.val (.int aa), .val (.int as_), .val (.int ar_), .val (.int af), .val (.int x7), .val (.int j31_s0), .val (.int x40), .val (.int x44), .val (.ref b52), .val (.int r110), .val (.int x156), .unset] [])) (fun t k => XS.ifNo X90.here hx rfl (hb hby at_219) rfl ((if0 _ _).trans (feq hc219).1) k) ?_
      refine own_of (S' := T90.setTop (mkF m 223 #[.val (.int aa), .val (.int as_), .val (.int ar_), .val (.int af), .val (.int x7), .val (.int j31_s0), .val (.int x40), .val (.int x44), .val (.ref b52), .val (.int r110), .val (.int x156), .unset] [(.int (1 : Int32))])) (fun t k => XS.iconst X90.here hx rfl (hb hby at_222) k) ?_
      refine own_of (S' := T90.setTop (mkF m 227 #[.val (.int aa), .val (.int as_), .val (.int ar_), .val (.int af), .val (.int x7), .val (.int j31_s0), .val (.int x40), .val (.int x44), .val (.ref b52), .val (.int r110), .val (.int x156), .unset] [(.int (1 : Int32))])) (fun t k => XS.goto X90.here hx rfl (pc0 := 223) (pc' := 227) rfl (hb hby at_223) (by decide) (by decide) k) ?_
      obtain ⟨fs, hr, hrun, hended, hW, hsame⟩ := X90.leave (v := some (.int (nar .boolean (1 : Int32)))) (fun h => by rw [Bd.returns] at h; cases h)
      refine ⟨_, _, retN X90 hx (t := .boolean) Bd.returns (by simp) (hb hby at_227) hr, hrun, hended, hG _ _ ⟨_, _, rfl, ?_, ⟨_, rfl⟩, hW, hsame.mono (by decide) (by decide)⟩⟩
      show own_Q0 Z aa as_ ar_ af h0 n0 _ T90.heap _
      rw [eh90]
      exact ⟨rfl, N90⟩
    · refine own_of (S' := T79.setTop (mkF m 228 #[.val (.int aa), .val (.int as_), .val (.int ar_), .val (.int af), .val (.int x7), .val (.int j31_s0), .val (.int x40), .val (.int x44), .val (.ref b52), .val (.int r110), .val (.int x156), .unset] [])) (fun t k => XS.ifYes X79.here hx rfl (pc0 := 160) (pc' := 228) rfl (hb hby at_160) rfl ((if0 _ _).trans (flt hc160).2.2.2) (by decide) (by decide) k) ?_
      refine own_of (S' := T79.setTop (mkF m 230 #[.val (.int aa), .val (.int as_), .val (.int ar_), .val (.int af), .val (.int x7), .val (.int j31_s0), .val (.int x40), .val (.int x44), .val (.ref b52), .val (.int r110), .val (.int x156), .unset] [(.int j31_s0)])) (fun t k => XS.iload X79.here hx rfl (hb hby at_228) rfl k) ?_
      refine own_of (S' := T79.setTop (mkF m 232 #[.val (.int aa), .val (.int as_), .val (.int ar_), .val (.int af), .val (.int x7), .val (.int j31_s0), .val (.int x40), .val (.int x44), .val (.ref b52), .val (.int r110), .val (.int x156), .unset] [(.int (64 : Int32)), (.int j31_s0)])) (fun t k => XS.bipush X79.here hx rfl (hb hby at_230) k) ?_
      by_cases hc232 : (64 : Int32) < j31_s0
      · refine own_of (S' := T79.setTop (mkF m 287 #[.val (.int aa), .val (.int as_), .val (.int ar_), .val (.int af), .val (.int x7), .val (.int j31_s0), .val (.int x40), .val (.int x44), .val (.ref b52), .val (.int r110), .val (.int x156), .unset] [])) (fun t k => XS.icmpYes X79.here hx rfl (pc0 := 232) (pc' := 287) rfl (hb hby at_232) rfl (tlt hc232).2.2.1 (by decide) (by decide) k) ?_
        refine own_of (S' := T79.setTop (mkF m 289 #[.val (.int aa), .val (.int as_), .val (.int ar_), .val (.int af), .val (.int x7), .val (.int j31_s0), .val (.int x40), .val (.int x44), .val (.ref b52), .val (.int r110), .val (.int x156), .unset] [(.ref b52)])) (fun t k => XS.aload X79.here hx rfl (hb hby at_287) rfl rfl k) ?_
        refine own_of (S' := T79.setTop (mkF m 291 #[.val (.int aa), .val (.int as_), .val (.int ar_), .val (.int af), .val (.int x7), .val (.int j31_s0), .val (.int x40), .val (.int x44), .val (.ref b52), .val (.int r110), .val (.int x156), .unset] [(.int x40), (.ref b52)])) (fun t k => XS.iload X79.here hx rfl (hb hby at_289) rfl k) ?_
        refine own_of (S' := T79.setTop (mkF m 292 #[.val (.int aa), .val (.int as_), .val (.int ar_), .val (.int af), .val (.int x7), .val (.int j31_s0), .val (.int x40), .val (.int x44), .val (.ref b52), .val (.int r110), .val (.int x156), .unset] [(.int (1 : Int32)), (.int x40), (.ref b52)])) (fun t k => XS.iconst X79.here hx rfl (hb hby at_291) k) ?_
        refine own_of (S' := T79.setTop (mkF m 293 #[.val (.int aa), .val (.int as_), .val (.int ar_), .val (.int af), .val (.int x7), .val (.int j31_s0), .val (.int x40), .val (.int x44), .val (.ref b52), .val (.int r110), .val (.int x156), .unset] [(.int (x40 + (1 : Int32))), (.ref b52)])) (fun t k => XS.iadd X79.here hx rfl (hb hby at_292) rfl k) ?_
        refine own_of (S' := T79.setTop (mkF m 294 #[.val (.int aa), .val (.int as_), .val (.int ar_), .val (.int af), .val (.int x7), .val (.int j31_s0), .val (.int x40), .val (.int x44), .val (.ref b52), .val (.int r110), .val (.int x156), .unset] [(.int (List.getD (own_wr [(x44.toInt8.toInt32), (x44.toInt8.toInt32), (x44.toInt8.toInt32), (x44.toInt8.toInt32), (x44.toInt8.toInt32), (x44.toInt8.toInt32), (x44.toInt8.toInt32), (x44.toInt8.toInt32)] x40 j31_s0 x7) ((x40 + (1 : Int32))).toNatClampNeg 0))])) (own_ldB X79 hx hZ rfl p79_0 (j := (x40 + (1 : Int32))) (own_in1 (own_atb q40)) (g := (mkF m 293 #[.val (.int aa), .val (.int as_), .val (.int ar_), .val (.int af), .val (.int x7), .val (.int j31_s0), .val (.int x40), .val (.int x44), .val (.ref b52), .val (.int r110), .val (.int x156), .unset] [(.int (x40 + (1 : Int32))), (.ref b52)])) rfl rfl (hb hby at_293)) ?_
        refine own_of (S' := T79.setTop (mkF m 297 #[.val (.int aa), .val (.int as_), .val (.int ar_), .val (.int af), .val (.int x7), .val (.int j31_s0), .val (.int x40), .val (.int x44), .val (.ref b52), .val (.int r110), .val (.int x156), .unset] [(.int (255 : Int32)), (.int (List.getD (own_wr [(x44.toInt8.toInt32), (x44.toInt8.toInt32), (x44.toInt8.toInt32), (x44.toInt8.toInt32), (x44.toInt8.toInt32), (x44.toInt8.toInt32), (x44.toInt8.toInt32), (x44.toInt8.toInt32)] x40 j31_s0 x7) ((x40 + (1 : Int32))).toNatClampNeg 0))])) (fun t k => XS.sipush X79.here hx rfl (hb hby at_294) k) ?_
        refine own_of (S' := T79.setTop (mkF m 298 #[.val (.int aa), .val (.int as_), .val (.int ar_), .val (.int af), .val (.int x7), .val (.int j31_s0), .val (.int x40), .val (.int x44), .val (.ref b52), .val (.int r110), .val (.int x156), .unset] [(.int ((List.getD (own_wr [(x44.toInt8.toInt32), (x44.toInt8.toInt32), (x44.toInt8.toInt32), (x44.toInt8.toInt32), (x44.toInt8.toInt32), (x44.toInt8.toInt32), (x44.toInt8.toInt32), (x44.toInt8.toInt32)] x40 j31_s0 x7) ((x40 + (1 : Int32))).toNatClampNeg 0) &&& (255 : Int32)))])) (fun t k => XS.iand X79.here hx rfl (hb hby at_297) rfl k) ?_
        generalize q298 : ((List.getD (own_wr [(x44.toInt8.toInt32), (x44.toInt8.toInt32), (x44.toInt8.toInt32), (x44.toInt8.toInt32), (x44.toInt8.toInt32), (x44.toInt8.toInt32), (x44.toInt8.toInt32), (x44.toInt8.toInt32)] x40 j31_s0 x7) ((x40 + (1 : Int32))).toNatClampNeg 0) &&& (255 : Int32)) = x298
        refine own_of (S' := T79.setTop (mkF m 300 #[.val (.int aa), .val (.int as_), .val (.int ar_), .val (.int af), .val (.int x7), .val (.int j31_s0), .val (.int x40), .val (.int x44), .val (.ref b52), .val (.int r110), .val (.int x156), .val (.int x298)] [])) (fun t k => XS.istore X79.here hx rfl (hb hby at_298) rfl (l' := #[.val (.int aa), .val (.int as_), .val (.int ar_), .val (.int af), .val (.int x7), .val (.int j31_s0), .val (.int x40), .val (.int x44), .val (.ref b52), .val (.int r110), .val (.int x156), .val (.int x298)]) rfl k) ?_
        refine own_of (S' := T79.setTop (mkF m 302 #[.val (.int aa), .val (.int as_), .val (.int ar_), .val (.int af), .val (.int x7), .val (.int j31_s0), .val (.int x40), .val (.int x44), .val (.ref b52), .val (.int r110), .val (.int x156), .val (.int x298)] [(.int r110)])) (fun t k => XS.iload X79.here hx rfl (hb hby at_300) rfl k) ?_
        refine own_of (S' := T79.setTop (mkF m 304 #[.val (.int aa), .val (.int as_), .val (.int ar_), .val (.int af), .val (.int x7), .val (.int j31_s0), .val (.int x40), .val (.int x44), .val (.ref b52), .val (.int r110), .val (.int x156), .val (.int x298)] [(.int x40), (.int r110)])) (fun t k => XS.iload X79.here hx rfl (hb hby at_302) rfl k) ?_
        refine own_of (S' := T79.setTop (mkF m 305 #[.val (.int aa), .val (.int as_), .val (.int ar_), .val (.int af), .val (.int x7), .val (.int j31_s0), .val (.int x40), .val (.int x44), .val (.ref b52), .val (.int r110), .val (.int x156), .val (.int x298)] [(.int (2 : Int32)), (.int x40), (.int r110)])) (fun t k => XS.iconst X79.here hx rfl (hb hby at_304) k) ?_
        refine own_of (S' := T79.setTop (mkF m 306 #[.val (.int aa), .val (.int as_), .val (.int ar_), .val (.int af), .val (.int x7), .val (.int j31_s0), .val (.int x40), .val (.int x44), .val (.ref b52), .val (.int r110), .val (.int x156), .val (.int x298)] [(.int (x40 + (2 : Int32))), (.int r110)])) (fun t k => XS.iadd X79.here hx rfl (hb hby at_305) rfl k) ?_
        have hc306 : r110 = (x40 + (2 : Int32)) := by rw [← q110, own_next, if_neg hc117, if_neg hc160, if_pos hc232]
        refine own_of (S' := T79.setTop (mkF m 309 #[.val (.int aa), .val (.int as_), .val (.int ar_), .val (.int af), .val (.int x7), .val (.int j31_s0), .val (.int x40), .val (.int x44), .val (.ref b52), .val (.int r110), .val (.int x156), .val (.int x298)] [])) (fun t k => XS.icmpNo X79.here hx rfl (hb hby at_306) rfl (teq hc306).2 k) ?_
        refine own_of (S' := T79.setTop (mkF m 311 #[.val (.int aa), .val (.int as_), .val (.int ar_), .val (.int af), .val (.int x7), .val (.int j31_s0), .val (.int x40), .val (.int x44), .val (.ref b52), .val (.int r110), .val (.int x156), .val (.int x298)] [(.int x156)])) (fun t k => XS.iload X79.here hx rfl (hb hby at_309) rfl k) ?_
        refine own_of (S' := T79.setTop (mkF m 314 #[.val (.int aa), .val (.int as_), .val (.int ar_), .val (.int af), .val (.int x7), .val (.int j31_s0), .val (.int x40), .val (.int x44), .val (.ref b52), .val (.int r110), .val (.int x156), .val (.int x298)] [(.int (192 : Int32)), (.int x156)])) (fun t k => XS.sipush X79.here hx rfl (hb hby at_311) k) ?_
        refine own_of (S' := T79.setTop (mkF m 315 #[.val (.int aa), .val (.int as_), .val (.int ar_), .val (.int af), .val (.int x7), .val (.int j31_s0), .val (.int x40), .val (.int x44), .val (.ref b52), .val (.int r110), .val (.int x156), .val (.int x298)] [(.int (x156 &&& (192 : Int32)))])) (fun t k => XS.iand X79.here hx rfl (hb hby at_314) rfl k) ?_
        refine own_of (S' := T79.setTop (mkF m 317 #[.val (.int aa), .val (.int as_), .val (.int ar_), .val (.int af), .val (.int x7), .val (.int j31_s0), .val (.int x40), .val (.int x44), .val (.ref b52), .val (.int r110), .val (.int x156), .val (.int x298)] [(.int (64 : Int32)), (.int (x156 &&& (192 : Int32)))])) (fun t k => XS.bipush X79.here hx rfl (hb hby at_315) k) ?_
        have hc317 : (x156 &&& (192 : Int32)) = (64 : Int32) := by exact (own_d2 (own_spb q7 qj31_s0) hc232 (own_g2 (own_atb q40) hc117 hc160 hc232 q156) (own_g3 (own_atb q40) hc117 hc160 hc232 q298)).1
        refine own_of (S' := T79.setTop (mkF m 320 #[.val (.int aa), .val (.int as_), .val (.int ar_), .val (.int af), .val (.int x7), .val (.int j31_s0), .val (.int x40), .val (.int x44), .val (.ref b52), .val (.int r110), .val (.int x156), .val (.int x298)] [])) (fun t k => XS.icmpNo X79.here hx rfl (hb hby at_317) rfl (teq hc317).2 k) ?_
        refine own_of (S' := T79.setTop (mkF m 322 #[.val (.int aa), .val (.int as_), .val (.int ar_), .val (.int af), .val (.int x7), .val (.int j31_s0), .val (.int x40), .val (.int x44), .val (.ref b52), .val (.int r110), .val (.int x156), .val (.int x298)] [(.int x156)])) (fun t k => XS.iload X79.here hx rfl (hb hby at_320) rfl k) ?_
        refine own_of (S' := T79.setTop (mkF m 324 #[.val (.int aa), .val (.int as_), .val (.int ar_), .val (.int af), .val (.int x7), .val (.int j31_s0), .val (.int x40), .val (.int x44), .val (.ref b52), .val (.int r110), .val (.int x156), .val (.int x298)] [(.int (63 : Int32)), (.int x156)])) (fun t k => XS.bipush X79.here hx rfl (hb hby at_322) k) ?_
        refine own_of (S' := T79.setTop (mkF m 325 #[.val (.int aa), .val (.int as_), .val (.int ar_), .val (.int af), .val (.int x7), .val (.int j31_s0), .val (.int x40), .val (.int x44), .val (.ref b52), .val (.int r110), .val (.int x156), .val (.int x298)] [(.int (x156 &&& (63 : Int32)))])) (fun t k => XS.iand X79.here hx rfl (hb hby at_324) rfl k) ?_
        refine own_of (S' := T79.setTop (mkF m 327 #[.val (.int aa), .val (.int as_), .val (.int ar_), .val (.int af), .val (.int x7), .val (.int j31_s0), .val (.int x40), .val (.int x44), .val (.ref b52), .val (.int r110), .val (.int x156), .val (.int x298)] [(.int (8 : Int32)), (.int (x156 &&& (63 : Int32)))])) (fun t k => XS.bipush X79.here hx rfl (hb hby at_325) k) ?_
        refine own_of (S' := T79.setTop (mkF m 328 #[.val (.int aa), .val (.int as_), .val (.int ar_), .val (.int af), .val (.int x7), .val (.int j31_s0), .val (.int x40), .val (.int x44), .val (.ref b52), .val (.int r110), .val (.int x156), .val (.int x298)] [(.int ((x156 &&& (63 : Int32)) <<< ((8 : Int32) &&& 31)))])) (fun t k => XS.ishl X79.here hx rfl (hb hby at_327) rfl k) ?_
        refine own_of (S' := T79.setTop (mkF m 330 #[.val (.int aa), .val (.int as_), .val (.int ar_), .val (.int af), .val (.int x7), .val (.int j31_s0), .val (.int x40), .val (.int x44), .val (.ref b52), .val (.int r110), .val (.int x156), .val (.int x298)] [(.int x298), (.int ((x156 &&& (63 : Int32)) <<< ((8 : Int32) &&& 31)))])) (fun t k => XS.iload X79.here hx rfl (hb hby at_328) rfl k) ?_
        refine own_of (S' := T79.setTop (mkF m 331 #[.val (.int aa), .val (.int as_), .val (.int ar_), .val (.int af), .val (.int x7), .val (.int j31_s0), .val (.int x40), .val (.int x44), .val (.ref b52), .val (.int r110), .val (.int x156), .val (.int x298)] [(.int (((x156 &&& (63 : Int32)) <<< ((8 : Int32) &&& 31)) ||| x298))])) (fun t k => XS.ior X79.here hx rfl (hb hby at_330) rfl k) ?_
        refine own_of (S' := T79.setTop (mkF m 332 #[.val (.int aa), .val (.int as_), .val (.int ar_), .val (.int af), .val (.int x7), .val (.int j31_s0), .val (.int x40), .val (.int x44), .val (.ref b52), .val (.int r110), .val (.int x156), .val (.int x298)] [(.int (1 : Int32)), (.int (((x156 &&& (63 : Int32)) <<< ((8 : Int32) &&& 31)) ||| x298))])) (fun t k => XS.iconst X79.here hx rfl (hb hby at_331) k) ?_
        refine own_of (S' := T79.setTop (mkF m 333 #[.val (.int aa), .val (.int as_), .val (.int ar_), .val (.int af), .val (.int x7), .val (.int j31_s0), .val (.int x40), .val (.int x44), .val (.ref b52), .val (.int r110), .val (.int x156), .val (.int x298)] [(.int ((((x156 &&& (63 : Int32)) <<< ((8 : Int32) &&& 31)) ||| x298) + (1 : Int32)))])) (fun t k => XS.iadd X79.here hx rfl (hb hby at_332) rfl k) ?_
        refine own_of (S' := T79.setTop (mkF m 335 #[.val (.int aa), .val (.int as_), .val (.int ar_), .val (.int af), .val (.int x7), .val (.int j31_s0), .val (.int x40), .val (.int x44), .val (.ref b52), .val (.int r110), .val (.int x156), .val (.int x298)] [(.int j31_s0), (.int ((((x156 &&& (63 : Int32)) <<< ((8 : Int32) &&& 31)) ||| x298) + (1 : Int32)))])) (fun t k => XS.iload X79.here hx rfl (hb hby at_333) rfl k) ?_
        have hc335 : ((((x156 &&& (63 : Int32)) <<< ((8 : Int32) &&& 31)) ||| x298) + (1 : Int32)) = j31_s0 := by exact (own_d2 (own_spb q7 qj31_s0) hc232 (own_g2 (own_atb q40) hc117 hc160 hc232 q156) (own_g3 (own_atb q40) hc117 hc160 hc232 q298)).2
        refine own_of (S' := T79.setTop (mkF m 338 #[.val (.int aa), .val (.int as_), .val (.int ar_), .val (.int af), .val (.int x7), .val (.int j31_s0), .val (.int x40), .val (.int x44), .val (.ref b52), .val (.int r110), .val (.int x156), .val (.int x298)] [])) (fun t k => XS.icmpNo X79.here hx rfl (hb hby at_335) rfl (teq hc335).2 k) ?_
        refine own_of (S' := T79.setTop (mkF m 340 #[.val (.int aa), .val (.int as_), .val (.int ar_), .val (.int af), .val (.int x7), .val (.int j31_s0), .val (.int x40), .val (.int x44), .val (.ref b52), .val (.int r110), .val (.int x156), .val (.int x298)] [(.ref b52)])) (fun t k => XS.aload X79.here hx rfl (hb hby at_338) rfl rfl k) ?_
        refine own_of (S' := T79.setTop (mkF m 342 #[.val (.int aa), .val (.int as_), .val (.int ar_), .val (.int af), .val (.int x7), .val (.int j31_s0), .val (.int x40), .val (.int x44), .val (.ref b52), .val (.int r110), .val (.int x156), .val (.int x298)] [(.int x40), (.ref b52)])) (fun t k => XS.iload X79.here hx rfl (hb hby at_340) rfl k) ?_
        refine own_of (S' := T79.setTop (mkF m 344 #[.val (.int aa), .val (.int as_), .val (.int ar_), .val (.int af), .val (.int x7), .val (.int j31_s0), .val (.int x40), .val (.int x44), .val (.ref b52), .val (.int r110), .val (.int x156), .val (.int x298)] [(.int x40), (.int x40), (.ref b52)])) (fun t k => XS.iload X79.here hx rfl (hb hby at_342) rfl k) ?_
        refine own_of (S' := T79.setTop (mkF m 345 #[.val (.int aa), .val (.int as_), .val (.int ar_), .val (.int af), .val (.int x7), .val (.int j31_s0), .val (.int x40), .val (.int x44), .val (.ref b52), .val (.int r110), .val (.int x156), .val (.int x298)] [(.int (2 : Int32)), (.int x40), (.int x40), (.ref b52)])) (fun t k => XS.iconst X79.here hx rfl (hb hby at_344) k) ?_
        refine own_of (S' := T79.setTop (mkF m 346 #[.val (.int aa), .val (.int as_), .val (.int ar_), .val (.int af), .val (.int x7), .val (.int j31_s0), .val (.int x40), .val (.int x44), .val (.ref b52), .val (.int r110), .val (.int x156), .val (.int x298)] [(.int (x40 + (2 : Int32))), (.int x40), (.ref b52)])) (fun t k => XS.iadd X79.here hx rfl (hb hby at_345) rfl k) ?_
        refine own_of (S' := T79.setTop (mkF m 348 #[.val (.int aa), .val (.int as_), .val (.int ar_), .val (.int af), .val (.int x7), .val (.int j31_s0), .val (.int x40), .val (.int x44), .val (.ref b52), .val (.int r110), .val (.int x156), .val (.int x298)] [(.int x44), (.int (x40 + (2 : Int32))), (.int x40), (.ref b52)])) (fun t k => XS.iload X79.here hx rfl (hb hby at_346) rfl k) ?_
        obtain ⟨_, _, ⟨T96, L96, k96, n96⟩, -, X96, ⟨Lc96, hQ96, l96, y96, z96⟩, st96⟩ := Jvm.LawKit.callS X79 hx (y := (⟨"com/example/distinct_counter/distinctcounter/SparseRegistersWriteRunPinLaw", "untouched", "([BIIB)Z"⟩ : MethodName)) hown (mvT hZ (hw _ (List.mem_of_getElem? (i := 6) rfl))) (mvT hZ (hw _ (List.mem_of_getElem? (i := 7) rfl))) (mvT hZ (hw _ (List.mem_of_getElem? (i := 8) rfl))) (mvT hZ (hw _ (List.mem_of_getElem? (i := 9) rfl))) (by decide) (backOf (W := 0) (own_rm3 l Z _ hw [] b52 x40 (x40 + (2 : Int32)) x44 k52 (own_wr [(x44.toInt8.toInt32), (x44.toInt8.toInt32), (x44.toInt8.toInt32), (x44.toInt8.toInt32), (x44.toInt8.toInt32), (x44.toInt8.toInt32), (x44.toInt8.toInt32), (x44.toInt8.toInt32)] x40 j31_s0 x7) T79.heap n0 p79_0 (own_unt (own_bb q44) (own_atb q40) (by rw [own_next, if_neg hc117, if_neg hc160, if_pos hc232]) : ∀ ix : Int32, ¬ ix < (0 : Int32) ∧ ix < (8 : Int32) → own_same (own_wr [(x44.toInt8.toInt32), (x44.toInt8.toInt32), (x44.toInt8.toInt32), (x44.toInt8.toInt32), (x44.toInt8.toInt32), (x44.toInt8.toInt32), (x44.toInt8.toInt32), (x44.toInt8.toInt32)] x40 j31_s0 x7) ix x40 (x40 + (2 : Int32)) x44 = 1)) hZ (hw _ (List.mem_of_getElem? (i := 9) rfl)) (hw _ (List.mem_of_getElem? (i := 8) rfl)) (by decide) (by decide)) (g := (mkF m 348 #[.val (.int aa), .val (.int as_), .val (.int ar_), .val (.int af), .val (.int x7), .val (.int j31_s0), .val (.int x40), .val (.int x44), .val (.ref b52), .val (.int r110), .val (.int x156), .val (.int x298)] [(.int x44), (.int (x40 + (2 : Int32))), (.int x40), (.ref b52)])) rfl (by rw [hml]; rfl) (argsL := [(.ref b52), (.int x40), (.int (x40 + (2 : Int32))), (.int x44)]) (rest := []) (lenOf own_pd2 rfl) rfl (by show 2 * 0 + _ ≤ _; exact Nat.le_of_eq rfl) (hb hby at_348) (fun _ _ => ⟨rfl, rfl, (by decide : 1 + 0 ≤ _), (by decide : 8 + 0 ≤ _)⟩)
        dsimp only [Pt.U, Pt.locs, Pt.cells, Pt.slots] at X96 l96 y96 z96 st96 hQ96
        subst l96 y96 z96
        obtain ⟨rfl, M96, eh96⟩ := hQ96
        have N96 := Fr.app N79 M96
        refine own_of (S' := T96.setTop (mkF m 351 #[.val (.int aa), .val (.int as_), .val (.int ar_), .val (.int af), .val (.int x7), .val (.int j31_s0), .val (.int x40), .val (.int x44), .val (.ref b52), .val (.int r110), .val (.int x156), .val (.int x298)] [(.int (1 : Int32))])) (fun t k => st96 _ k) ?_
        have hc351 : ¬ ((1 : Int32) = (0 : Int32)) := by decide
        refine own_of (S' := T96.setTop (mkF m 354 #[.val (.int aa), .val (.int as_), .val (.int ar_), .val (.int af), .val (.int x7), .val (.int j31_s0), .val (.int x40), .val (.int x44), .val (.ref b52), .val (.int r110), .val (.int x156), .val (.int x298)] [])) (fun t k => XS.ifNo X96.here hx rfl (hb hby at_351) rfl ((if0 _ _).trans (feq hc351).1) k) ?_
        refine own_of (S' := T96.setTop (mkF m 355 #[.val (.int aa), .val (.int as_), .val (.int ar_), .val (.int af), .val (.int x7), .val (.int j31_s0), .val (.int x40), .val (.int x44), .val (.ref b52), .val (.int r110), .val (.int x156), .val (.int x298)] [(.int (1 : Int32))])) (fun t k => XS.iconst X96.here hx rfl (hb hby at_354) k) ?_
        refine own_of (S' := T96.setTop (mkF m 359 #[.val (.int aa), .val (.int as_), .val (.int ar_), .val (.int af), .val (.int x7), .val (.int j31_s0), .val (.int x40), .val (.int x44), .val (.ref b52), .val (.int r110), .val (.int x156), .val (.int x298)] [(.int (1 : Int32))])) (fun t k => XS.goto X96.here hx rfl (pc0 := 355) (pc' := 359) rfl (hb hby at_355) (by decide) (by decide) k) ?_
        obtain ⟨fs, hr, hrun, hended, hW, hsame⟩ := X96.leave (v := some (.int (nar .boolean (1 : Int32)))) (fun h => by rw [Bd.returns] at h; cases h)
        refine ⟨_, _, retN X96 hx (t := .boolean) Bd.returns (by simp) (hb hby at_359) hr, hrun, hended, hG _ _ ⟨_, _, rfl, ?_, ⟨_, rfl⟩, hW, hsame.mono (by decide) (by decide)⟩⟩
        show own_Q0 Z aa as_ ar_ af h0 n0 _ T96.heap _
        rw [eh96]
        exact ⟨rfl, N96⟩
      · refine own_of (S' := T79.setTop (mkF m 235 #[.val (.int aa), .val (.int as_), .val (.int ar_), .val (.int af), .val (.int x7), .val (.int j31_s0), .val (.int x40), .val (.int x44), .val (.ref b52), .val (.int r110), .val (.int x156), .unset] [])) (fun t k => XS.icmpNo X79.here hx rfl (hb hby at_232) rfl (flt hc232).2.2.1 k) ?_
        refine own_of (S' := T79.setTop (mkF m 237 #[.val (.int aa), .val (.int as_), .val (.int ar_), .val (.int af), .val (.int x7), .val (.int j31_s0), .val (.int x40), .val (.int x44), .val (.ref b52), .val (.int r110), .val (.int x156), .unset] [(.int r110)])) (fun t k => XS.iload X79.here hx rfl (hb hby at_235) rfl k) ?_
        refine own_of (S' := T79.setTop (mkF m 239 #[.val (.int aa), .val (.int as_), .val (.int ar_), .val (.int af), .val (.int x7), .val (.int j31_s0), .val (.int x40), .val (.int x44), .val (.ref b52), .val (.int r110), .val (.int x156), .unset] [(.int x40), (.int r110)])) (fun t k => XS.iload X79.here hx rfl (hb hby at_237) rfl k) ?_
        refine own_of (S' := T79.setTop (mkF m 240 #[.val (.int aa), .val (.int as_), .val (.int ar_), .val (.int af), .val (.int x7), .val (.int j31_s0), .val (.int x40), .val (.int x44), .val (.ref b52), .val (.int r110), .val (.int x156), .unset] [(.int (1 : Int32)), (.int x40), (.int r110)])) (fun t k => XS.iconst X79.here hx rfl (hb hby at_239) k) ?_
        refine own_of (S' := T79.setTop (mkF m 241 #[.val (.int aa), .val (.int as_), .val (.int ar_), .val (.int af), .val (.int x7), .val (.int j31_s0), .val (.int x40), .val (.int x44), .val (.ref b52), .val (.int r110), .val (.int x156), .unset] [(.int (x40 + (1 : Int32))), (.int r110)])) (fun t k => XS.iadd X79.here hx rfl (hb hby at_240) rfl k) ?_
        have hc241 : r110 = (x40 + (1 : Int32)) := by rw [← q110, own_next, if_neg hc117, if_neg hc160, if_neg hc232]
        refine own_of (S' := T79.setTop (mkF m 244 #[.val (.int aa), .val (.int as_), .val (.int ar_), .val (.int af), .val (.int x7), .val (.int j31_s0), .val (.int x40), .val (.int x44), .val (.ref b52), .val (.int r110), .val (.int x156), .unset] [])) (fun t k => XS.icmpNo X79.here hx rfl (hb hby at_241) rfl (teq hc241).2 k) ?_
        refine own_of (S' := T79.setTop (mkF m 246 #[.val (.int aa), .val (.int as_), .val (.int ar_), .val (.int af), .val (.int x7), .val (.int j31_s0), .val (.int x40), .val (.int x44), .val (.ref b52), .val (.int r110), .val (.int x156), .unset] [(.int x156)])) (fun t k => XS.iload X79.here hx rfl (hb hby at_244) rfl k) ?_
        refine own_of (S' := T79.setTop (mkF m 249 #[.val (.int aa), .val (.int as_), .val (.int ar_), .val (.int af), .val (.int x7), .val (.int j31_s0), .val (.int x40), .val (.int x44), .val (.ref b52), .val (.int r110), .val (.int x156), .unset] [(.int (192 : Int32)), (.int x156)])) (fun t k => XS.sipush X79.here hx rfl (hb hby at_246) k) ?_
        refine own_of (S' := T79.setTop (mkF m 250 #[.val (.int aa), .val (.int as_), .val (.int ar_), .val (.int af), .val (.int x7), .val (.int j31_s0), .val (.int x40), .val (.int x44), .val (.ref b52), .val (.int r110), .val (.int x156), .unset] [(.int (x156 &&& (192 : Int32)))])) (fun t k => XS.iand X79.here hx rfl (hb hby at_249) rfl k) ?_
        have hc250 : (x156 &&& (192 : Int32)) = (0 : Int32) := by exact (own_d4 (own_spb q7 qj31_s0) hc117 hc232 (own_g4 (own_atb q40) hc117 hc160 hc232 q156)).1
        refine own_of (S' := T79.setTop (mkF m 253 #[.val (.int aa), .val (.int as_), .val (.int ar_), .val (.int af), .val (.int x7), .val (.int j31_s0), .val (.int x40), .val (.int x44), .val (.ref b52), .val (.int r110), .val (.int x156), .unset] [])) (fun t k => XS.ifNo X79.here hx rfl (hb hby at_250) rfl ((if0 _ _).trans (teq hc250).2) k) ?_
        refine own_of (S' := T79.setTop (mkF m 255 #[.val (.int aa), .val (.int as_), .val (.int ar_), .val (.int af), .val (.int x7), .val (.int j31_s0), .val (.int x40), .val (.int x44), .val (.ref b52), .val (.int r110), .val (.int x156), .unset] [(.int x156)])) (fun t k => XS.iload X79.here hx rfl (hb hby at_253) rfl k) ?_
        refine own_of (S' := T79.setTop (mkF m 257 #[.val (.int aa), .val (.int as_), .val (.int ar_), .val (.int af), .val (.int x7), .val (.int j31_s0), .val (.int x40), .val (.int x44), .val (.ref b52), .val (.int r110), .val (.int x156), .unset] [(.int (63 : Int32)), (.int x156)])) (fun t k => XS.bipush X79.here hx rfl (hb hby at_255) k) ?_
        refine own_of (S' := T79.setTop (mkF m 258 #[.val (.int aa), .val (.int as_), .val (.int ar_), .val (.int af), .val (.int x7), .val (.int j31_s0), .val (.int x40), .val (.int x44), .val (.ref b52), .val (.int r110), .val (.int x156), .unset] [(.int (x156 &&& (63 : Int32)))])) (fun t k => XS.iand X79.here hx rfl (hb hby at_257) rfl k) ?_
        refine own_of (S' := T79.setTop (mkF m 259 #[.val (.int aa), .val (.int as_), .val (.int ar_), .val (.int af), .val (.int x7), .val (.int j31_s0), .val (.int x40), .val (.int x44), .val (.ref b52), .val (.int r110), .val (.int x156), .unset] [(.int (1 : Int32)), (.int (x156 &&& (63 : Int32)))])) (fun t k => XS.iconst X79.here hx rfl (hb hby at_258) k) ?_
        refine own_of (S' := T79.setTop (mkF m 260 #[.val (.int aa), .val (.int as_), .val (.int ar_), .val (.int af), .val (.int x7), .val (.int j31_s0), .val (.int x40), .val (.int x44), .val (.ref b52), .val (.int r110), .val (.int x156), .unset] [(.int ((x156 &&& (63 : Int32)) + (1 : Int32)))])) (fun t k => XS.iadd X79.here hx rfl (hb hby at_259) rfl k) ?_
        refine own_of (S' := T79.setTop (mkF m 262 #[.val (.int aa), .val (.int as_), .val (.int ar_), .val (.int af), .val (.int x7), .val (.int j31_s0), .val (.int x40), .val (.int x44), .val (.ref b52), .val (.int r110), .val (.int x156), .unset] [(.int j31_s0), (.int ((x156 &&& (63 : Int32)) + (1 : Int32)))])) (fun t k => XS.iload X79.here hx rfl (hb hby at_260) rfl k) ?_
        have hc262 : ((x156 &&& (63 : Int32)) + (1 : Int32)) = j31_s0 := by exact (own_d4 (own_spb q7 qj31_s0) hc117 hc232 (own_g4 (own_atb q40) hc117 hc160 hc232 q156)).2
        refine own_of (S' := T79.setTop (mkF m 265 #[.val (.int aa), .val (.int as_), .val (.int ar_), .val (.int af), .val (.int x7), .val (.int j31_s0), .val (.int x40), .val (.int x44), .val (.ref b52), .val (.int r110), .val (.int x156), .unset] [])) (fun t k => XS.icmpNo X79.here hx rfl (hb hby at_262) rfl (teq hc262).2 k) ?_
        refine own_of (S' := T79.setTop (mkF m 267 #[.val (.int aa), .val (.int as_), .val (.int ar_), .val (.int af), .val (.int x7), .val (.int j31_s0), .val (.int x40), .val (.int x44), .val (.ref b52), .val (.int r110), .val (.int x156), .unset] [(.ref b52)])) (fun t k => XS.aload X79.here hx rfl (hb hby at_265) rfl rfl k) ?_
        refine own_of (S' := T79.setTop (mkF m 269 #[.val (.int aa), .val (.int as_), .val (.int ar_), .val (.int af), .val (.int x7), .val (.int j31_s0), .val (.int x40), .val (.int x44), .val (.ref b52), .val (.int r110), .val (.int x156), .unset] [(.int x40), (.ref b52)])) (fun t k => XS.iload X79.here hx rfl (hb hby at_267) rfl k) ?_
        refine own_of (S' := T79.setTop (mkF m 271 #[.val (.int aa), .val (.int as_), .val (.int ar_), .val (.int af), .val (.int x7), .val (.int j31_s0), .val (.int x40), .val (.int x44), .val (.ref b52), .val (.int r110), .val (.int x156), .unset] [(.int x40), (.int x40), (.ref b52)])) (fun t k => XS.iload X79.here hx rfl (hb hby at_269) rfl k) ?_
        refine own_of (S' := T79.setTop (mkF m 272 #[.val (.int aa), .val (.int as_), .val (.int ar_), .val (.int af), .val (.int x7), .val (.int j31_s0), .val (.int x40), .val (.int x44), .val (.ref b52), .val (.int r110), .val (.int x156), .unset] [(.int (1 : Int32)), (.int x40), (.int x40), (.ref b52)])) (fun t k => XS.iconst X79.here hx rfl (hb hby at_271) k) ?_
        refine own_of (S' := T79.setTop (mkF m 273 #[.val (.int aa), .val (.int as_), .val (.int ar_), .val (.int af), .val (.int x7), .val (.int j31_s0), .val (.int x40), .val (.int x44), .val (.ref b52), .val (.int r110), .val (.int x156), .unset] [(.int (x40 + (1 : Int32))), (.int x40), (.ref b52)])) (fun t k => XS.iadd X79.here hx rfl (hb hby at_272) rfl k) ?_
        refine own_of (S' := T79.setTop (mkF m 275 #[.val (.int aa), .val (.int as_), .val (.int ar_), .val (.int af), .val (.int x7), .val (.int j31_s0), .val (.int x40), .val (.int x44), .val (.ref b52), .val (.int r110), .val (.int x156), .unset] [(.int x44), (.int (x40 + (1 : Int32))), (.int x40), (.ref b52)])) (fun t k => XS.iload X79.here hx rfl (hb hby at_273) rfl k) ?_
        obtain ⟨_, _, ⟨T101, L101, k101, n101⟩, -, X101, ⟨Lc101, hQ101, l101, y101, z101⟩, st101⟩ := Jvm.LawKit.callS X79 hx (y := (⟨"com/example/distinct_counter/distinctcounter/SparseRegistersWriteRunPinLaw", "untouched", "([BIIB)Z"⟩ : MethodName)) hown (mvT hZ (hw _ (List.mem_of_getElem? (i := 6) rfl))) (mvT hZ (hw _ (List.mem_of_getElem? (i := 7) rfl))) (mvT hZ (hw _ (List.mem_of_getElem? (i := 8) rfl))) (mvT hZ (hw _ (List.mem_of_getElem? (i := 9) rfl))) (by decide) (backOf (W := 0) (own_rm3 l Z _ hw [] b52 x40 (x40 + (1 : Int32)) x44 k52 (own_wr [(x44.toInt8.toInt32), (x44.toInt8.toInt32), (x44.toInt8.toInt32), (x44.toInt8.toInt32), (x44.toInt8.toInt32), (x44.toInt8.toInt32), (x44.toInt8.toInt32), (x44.toInt8.toInt32)] x40 j31_s0 x7) T79.heap n0 p79_0 (own_unt (own_bb q44) (own_atb q40) (by rw [own_next, if_neg hc117, if_neg hc160, if_neg hc232]) : ∀ ix : Int32, ¬ ix < (0 : Int32) ∧ ix < (8 : Int32) → own_same (own_wr [(x44.toInt8.toInt32), (x44.toInt8.toInt32), (x44.toInt8.toInt32), (x44.toInt8.toInt32), (x44.toInt8.toInt32), (x44.toInt8.toInt32), (x44.toInt8.toInt32), (x44.toInt8.toInt32)] x40 j31_s0 x7) ix x40 (x40 + (1 : Int32)) x44 = 1)) hZ (hw _ (List.mem_of_getElem? (i := 9) rfl)) (hw _ (List.mem_of_getElem? (i := 8) rfl)) (by decide) (by decide)) (g := (mkF m 275 #[.val (.int aa), .val (.int as_), .val (.int ar_), .val (.int af), .val (.int x7), .val (.int j31_s0), .val (.int x40), .val (.int x44), .val (.ref b52), .val (.int r110), .val (.int x156), .unset] [(.int x44), (.int (x40 + (1 : Int32))), (.int x40), (.ref b52)])) rfl (by rw [hml]; rfl) (argsL := [(.ref b52), (.int x40), (.int (x40 + (1 : Int32))), (.int x44)]) (rest := []) (lenOf own_pd2 rfl) rfl (by show 2 * 0 + _ ≤ _; exact Nat.le_of_eq rfl) (hb hby at_275) (fun _ _ => ⟨rfl, rfl, (by decide : 1 + 0 ≤ _), (by decide : 8 + 0 ≤ _)⟩)
        dsimp only [Pt.U, Pt.locs, Pt.cells, Pt.slots] at X101 l101 y101 z101 st101 hQ101
        subst l101 y101 z101
        obtain ⟨rfl, M101, eh101⟩ := hQ101
        have N101 := Fr.app N79 M101
        refine own_of (S' := T101.setTop (mkF m 278 #[.val (.int aa), .val (.int as_), .val (.int ar_), .val (.int af), .val (.int x7), .val (.int j31_s0), .val (.int x40), .val (.int x44), .val (.ref b52), .val (.int r110), .val (.int x156), .unset] [(.int (1 : Int32))])) (fun t k => st101 _ k) ?_
        have hc278 : ¬ ((1 : Int32) = (0 : Int32)) := by decide
        refine own_of (S' := T101.setTop (mkF m 281 #[.val (.int aa), .val (.int as_), .val (.int ar_), .val (.int af), .val (.int x7), .val (.int j31_s0), .val (.int x40), .val (.int x44), .val (.ref b52), .val (.int r110), .val (.int x156), .unset] [])) (fun t k => XS.ifNo X101.here hx rfl (hb hby at_278) rfl ((if0 _ _).trans (feq hc278).1) k) ?_
        refine own_of (S' := T101.setTop (mkF m 282 #[.val (.int aa), .val (.int as_), .val (.int ar_), .val (.int af), .val (.int x7), .val (.int j31_s0), .val (.int x40), .val (.int x44), .val (.ref b52), .val (.int r110), .val (.int x156), .unset] [(.int (1 : Int32))])) (fun t k => XS.iconst X101.here hx rfl (hb hby at_281) k) ?_
        refine own_of (S' := T101.setTop (mkF m 286 #[.val (.int aa), .val (.int as_), .val (.int ar_), .val (.int af), .val (.int x7), .val (.int j31_s0), .val (.int x40), .val (.int x44), .val (.ref b52), .val (.int r110), .val (.int x156), .unset] [(.int (1 : Int32))])) (fun t k => XS.goto X101.here hx rfl (pc0 := 282) (pc' := 286) rfl (hb hby at_282) (by decide) (by decide) k) ?_
        obtain ⟨fs, hr, hrun, hended, hW, hsame⟩ := X101.leave (v := some (.int (nar .boolean (1 : Int32)))) (fun h => by rw [Bd.returns] at h; cases h)
        refine ⟨_, _, retN X101 hx (t := .boolean) Bd.returns (by simp) (hb hby at_286) hr, hrun, hended, hG _ _ ⟨_, _, rfl, ?_, ⟨_, rfl⟩, hW, hsame.mono (by decide) (by decide)⟩⟩
        show own_Q0 Z aa as_ ar_ af h0 n0 _ T101.heap _
        rw [eh101]
        exact ⟨rfl, N101⟩
set_option maxRecDepth 65536 in
set_option maxHeartbeats 40000000 in
theorem own_comes {Post : Tables → Env → Array Value → State → Outcome → State → Prop} (hpost : ∀ tb e args s v u, (limb_1_1.after args s (.returned v) u = true ∧ limb_1_2.after args s (.returned v) u = true ∧ True) → FrameEnd s (.returned v) u (Jvm.fieldLocs frame_1_writes args s ++ Jvm.arrayLocs frame_1_arrays args s ++ Jvm.staticLocs frame_1_statics s) 16 128 → Post tb e args s (.returned v) u) :
    ArmFor flags0 classFile x code maxLocals ret World_1 tables_1 room_1 Calls_1 rest_1 Pre_1 Post := by
  intro l hfl _ _ p e ha hc hk s m args below hf hA hF happ hP
  obtain ⟨hcalls, hrest, hpre⟩ := hP
  obtain ⟨-, -, -, hnamed, -, -, -, hat⟩ := (Spec.applies_iff hf).mp happ
  obtain ⟨hg, hn⟩ := and_e (Cond.before_iff.mp (show (Jvm.Cond.and given_1 narrow_1).before args s = true from hpre))
  obtain ⟨hcount, hg0⟩ := and_e hg
  obtain ⟨ha0, hg1⟩ := and_e hg0
  obtain ⟨ha1, hg2⟩ := and_e hg1
  obtain ⟨ha2, hg3⟩ := and_e hg2
  obtain ⟨w0, w1, w2, w3, rfl⟩ : ∃ w0 w1 w2 w3 : Value, args = #[w0, w1, w2, w3] := by
    have hs : args.size = 4 := by simpa [Cond.value, given_1] using hcount
    obtain ⟨L⟩ := args
    match L, hs with
    | [w0, w1, w2, w3], _ => exact ⟨w0, w1, w2, w3, rfl⟩
  have hw := fun d (hd : d ∈ tables_1) => atoms_spec (ws := Jvm.Cond.code x code maxLocals ret :: tables_1) hat d (List.mem_cons_of_mem _ hd)
  obtain ⟨i0, ei0⟩ := is_v ha0
  obtain rfl : w0 = (.int i0) := Option.some.inj ei0
  obtain ⟨i1, ei1⟩ := is_v ha1
  obtain rfl : w1 = (.int i1) := Option.some.inj ei1
  obtain ⟨i2, ei2⟩ := is_v ha2
  obtain rfl : w2 = (.int i2) := Option.some.inj ei2
  obtain ⟨i3, ei3⟩ := is_v hg3
  obtain rfl : w3 = (.int i3) := Option.some.inj ei3
  obtain ⟨n, o, h1, h2, h3, _, L, rfl, ⟨rfl, N⟩, hq⟩ := own_rm0 l s _ hw tables_1 i0 i1 i2 i3 s.heap s.heap.size (Nat.le_refl _) p e ha hc hk s m _ below hf ((Spec.applies_iff_loose hf).mp happ).1 ⟨rfl, State.Warmed39.refl s, rfl⟩ trivial
  exact ⟨n, _, h1, h2, h3, hpost _ _ _ _ _ _ ⟨Cond.after_iff.mpr rfl, Cond.after_iff.mpr (eq_i res_at (Term.int_eval (1)) rfl), trivial⟩ ⟨hq.1, hq.2.1, (hq.2.2.sift fun y hy => Or.inr (N y hy)).mono (by decide) (by decide)⟩⟩
theorem main_1_1 : Claimed_1_1 := own_comes fun _ _ _ _ _ _ h hF => ⟨h.1, hF⟩
theorem main_1_2 : Claimed_1_2 := own_comes fun _ _ _ _ _ _ h hF => ⟨h.2.1, hF⟩
end Jvm.Pilot.@@N@@
namespace Jvm.Pilot.@@N@@
open Jvm Jvm.ClassFile Sem Op Lib Jvm.Free Jvm.Stand Jvm.Pilot.@@N@@.Jvm.D
/-! MADE BY PROGRAM (witnessworld.py) out of the Statement's table words and the real class files: 9 classes; the members and pool entries that the words name. The judged class is class 1, her method 1. -/
namespace start1
open Jvm.ClassFile
def u (s : String) : CpInfo := .utf8 (stringToUtf16 s)
/-- a pool by its gaps: so many unusable entries, then the entry; so many at the end -/
def gap : Nat → List CpInfo → List CpInfo
  | 0, r => r
  | n + 1, r => .unusable :: gap n r
def poolList (es : List (Nat × CpInfo)) (last : Nat) : List CpInfo := es.foldr (fun e r => gap e.1 (e.2 :: r)) (gap last [])
def pool (es : List (Nat × CpInfo)) (last : Nat) : Array CpInfo := ⟨poolList es last⟩
def fileOf (pool : Array CpInfo) (this : Nat) (attrs : Array Attribute := #[]) (ms : Array MethodInfo := #[]) (fl : Nat := 33) (sup : Nat := 0) (ifs : Array Nat := #[]) (fds : Array FieldInfo := #[]) : ClassFile where
  minorVersion := 0
  majorVersion := 65
  constantPool := pool
  accessFlags := fl
  thisClass := this
  superClass := sup
  interfaces := ifs
  fields := fds
  methods := ms
  attributes := attrs
def plain (name : String) (sup : Option ClassId) : Class where
  name := name
  kind := .ordinary
  loader := none
  accessFlags := 33
  super := sup
  interfaces := #[]
  cf := none
  fields := #[]
  methods := #[]
  instanceTypes := #[]
  staticTypes := #[]
  resolved := #[]
  callSites := []
  init := .initialized
  statics := none
  mirror := none

def pool0 : Array CpInfo := pool [(5, u "<init>"), (0, u "()V"), (1, .class_ 10), (1, u "java/lang/Object")] 113

def k0m0 : Method := { name := "<init>", desc := "()V", sig := { parameters := [], returnType := none }, accessFlags := 1, code := none }
/-- java/lang/Object -/
def k0 : Class := { plain "java/lang/Object" none with
  accessFlags := 33
  interfaces := #[]
  cf := some (fileOf pool0 8 #[] #[{ accessFlags := 1, nameIndex := 5, descriptorIndex := 6, attributes := #[] }] 33 0 #[] #[])
  fields := #[]
  methods := #[k0m0]
  instanceTypes := #[]
  staticTypes := #[]
  resolved := Array.replicate 124 none
  statics := none }

def pool1 : Array CpInfo := pool [(2, .class_ 4), (1, u "java/lang/Object"), (0, u "<init>"), (0, u "()V"), (0, .integer 2147483647), (0, .methodref 9 10), (0, .class_ 11), (0, .nameAndType 12 13), (0, u "com/example/distinct_counter/distinctcounter/SparseRegisters"), (0, u "writeRun"), (0, u "([BIII)I"), (0, .methodref 15 16), (0, .class_ 17), (0, .nameAndType 18 19), (0, u "com/example/distinct_counter/distinctcounter/SparseRegistersWriteRunPinLaw"), (0, u "untouched"), (0, u "([BIIB)Z"), (0, .methodref 15 21), (0, .nameAndType 22 23), (0, u "same"), (0, u "([BIIIB)Z"), (2, u "law"), (0, u "(IIII)Z")] 5

def k1m0 : Method := { name := "<init>", desc := "()V", sig := { parameters := [], returnType := none }, accessFlags := 1, code := none }
def k1c1 : Code := { maxStack := 4, maxLocals := 12, code := code, exceptionTable := #[], attributes := #[] }
def k1m1 : Method := { name := "law", desc := "(IIII)Z", sig := { parameters := [.int, .int, .int, .int], returnType := some .boolean }, accessFlags := 9, code := some k1c1 }
def k1c2 : Code := { maxStack := 2, maxLocals := 5, code := method_3_code, exceptionTable := #[], attributes := #[] }
def k1m2 : Method := { name := "same", desc := "([BIIIB)Z", sig := { parameters := [(.array .byte), .int, .int, .int, .byte], returnType := some .boolean }, accessFlags := 10, code := some k1c2 }
def k1c3 : Code := { maxStack := 5, maxLocals := 4, code := method_4_code, exceptionTable := #[], attributes := #[] }
def k1m3 : Method := { name := "untouched", desc := "([BIIB)Z", sig := { parameters := [(.array .byte), .int, .int, .byte], returnType := some .boolean }, accessFlags := 10, code := some k1c3 }
/-- com/example/distinct_counter/distinctcounter/SparseRegistersWriteRunPinLaw -/
def k1 : Class := { plain "com/example/distinct_counter/distinctcounter/SparseRegistersWriteRunPinLaw" (some 0) with
  accessFlags := 49
  interfaces := #[]
  cf := some (fileOf pool1 15 #[] #[{ accessFlags := 1, nameIndex := 5, descriptorIndex := 6, attributes := #[] }, { accessFlags := 9, nameIndex := 26, descriptorIndex := 27, attributes := #[] }, { accessFlags := 10, nameIndex := 22, descriptorIndex := 23, attributes := #[] }, { accessFlags := 10, nameIndex := 18, descriptorIndex := 19, attributes := #[] }] 49 2 #[] #[])
  fields := #[]
  methods := #[k1m0, k1m1, k1m2, k1m3]
  instanceTypes := #[]
  staticTypes := #[]
  resolved := Array.replicate 33 none
  statics := none }

def pool2 : Array CpInfo := pool [(5, .class_ 6), (0, u "com/example/distinct_counter/distinctcounter/SparseRegisters"), (1, .class_ 10), (1, u "java/lang/Object"), (0, u "<init>"), (0, u "()V"), (6, u "writeRun"), (0, u "([BIII)I"), (89, u "REGISTER_BITS"), (0, u "I"), (88, .class_ 202), (1, u "com/example/distinct_counter/distinctcounter/SparseRegisters$RunVisitor"), (10, u "MAX_RUN_LENGTH"), (2, u "MAX_VALUE_LENGTH"), (1, u "MAX_READABLE_LENGTH"), (0, u "UNCHANGED"), (1, u "NEEDS_DENSE"), (1, u "MAX_GROWTH"), (1, u "ARRAY_HEADER"), (1, u "INDEXED_LENGTH"), (1, u "BYTES_PER_ENTRY"), (0, u "ENTRY_OFFSET"), (0, u "OPCODE_KIND"), (1, u "XZERO"), (0, u "VAL"), (1, u "ZERO_MAX_SPAN"), (0, u "VAL_MAX_SPAN"), (1, u "PACKING_LOOKS"), (1, u "WINDOW_OPCODES"), (1, u "WINDOW_BYTES"), (1, u "EVERY_BYTE"), (0, u "J"), (0, u "LOW_BYTES"), (0, u "EVERY_LANE"), (0, u "LANE_TOPS")] 64

def k2m0 : Method := { name := "<init>", desc := "()V", sig := { parameters := [], returnType := none }, accessFlags := 2, code := none }
def k2c1 : Code := { maxStack := 5, maxLocals := 4, code := prog_11_method_19_code, exceptionTable := #[], attributes := #[] }
def k2m1 : Method := { name := "writeRun", desc := "([BIII)I", sig := { parameters := [(.array .byte), .int, .int, .int], returnType := some .int }, accessFlags := 8, code := some k2c1 }
/-- com/example/distinct_counter/distinctcounter/SparseRegisters -/
def k2 : Class := { plain "com/example/distinct_counter/distinctcounter/SparseRegisters" (some 0) with
  accessFlags := 48
  interfaces := #[]
  cf := some (fileOf pool2 5 #[.nestMembers #[200]] #[{ accessFlags := 2, nameIndex := 11, descriptorIndex := 12, attributes := #[] }, { accessFlags := 8, nameIndex := 19, descriptorIndex := 20, attributes := #[] }] 48 8 #[] #[{ accessFlags := 24, nameIndex := 213, descriptorIndex := 111, attributes := #[] }, { accessFlags := 24, nameIndex := 216, descriptorIndex := 111, attributes := #[] }, { accessFlags := 24, nameIndex := 218, descriptorIndex := 111, attributes := #[] }, { accessFlags := 24, nameIndex := 219, descriptorIndex := 111, attributes := #[] }, { accessFlags := 24, nameIndex := 221, descriptorIndex := 111, attributes := #[] }, { accessFlags := 24, nameIndex := 223, descriptorIndex := 111, attributes := #[] }, { accessFlags := 26, nameIndex := 225, descriptorIndex := 111, attributes := #[] }, { accessFlags := 24, nameIndex := 227, descriptorIndex := 111, attributes := #[] }, { accessFlags := 26, nameIndex := 229, descriptorIndex := 111, attributes := #[] }, { accessFlags := 26, nameIndex := 110, descriptorIndex := 111, attributes := #[] }, { accessFlags := 26, nameIndex := 230, descriptorIndex := 111, attributes := #[] }, { accessFlags := 26, nameIndex := 231, descriptorIndex := 111, attributes := #[] }, { accessFlags := 26, nameIndex := 233, descriptorIndex := 111, attributes := #[] }, { accessFlags := 26, nameIndex := 234, descriptorIndex := 111, attributes := #[] }, { accessFlags := 24, nameIndex := 236, descriptorIndex := 111, attributes := #[] }, { accessFlags := 24, nameIndex := 237, descriptorIndex := 111, attributes := #[] }, { accessFlags := 24, nameIndex := 239, descriptorIndex := 111, attributes := #[] }, { accessFlags := 26, nameIndex := 241, descriptorIndex := 111, attributes := #[] }, { accessFlags := 26, nameIndex := 243, descriptorIndex := 111, attributes := #[] }, { accessFlags := 26, nameIndex := 245, descriptorIndex := 246, attributes := #[] }, { accessFlags := 26, nameIndex := 247, descriptorIndex := 246, attributes := #[] }, { accessFlags := 26, nameIndex := 248, descriptorIndex := 246, attributes := #[] }, { accessFlags := 26, nameIndex := 249, descriptorIndex := 246, attributes := #[] }])
  fields := #[{ name := "MAX_RUN_LENGTH", type := .int, accessFlags := 24, slot := 0, constantValue := 0 }, { name := "MAX_VALUE_LENGTH", type := .int, accessFlags := 24, slot := 1, constantValue := 0 }, { name := "MAX_READABLE_LENGTH", type := .int, accessFlags := 24, slot := 2, constantValue := 0 }, { name := "UNCHANGED", type := .int, accessFlags := 24, slot := 3, constantValue := 0 }, { name := "NEEDS_DENSE", type := .int, accessFlags := 24, slot := 4, constantValue := 0 }, { name := "MAX_GROWTH", type := .int, accessFlags := 24, slot := 5, constantValue := 0 }, { name := "ARRAY_HEADER", type := .int, accessFlags := 26, slot := 6, constantValue := 0 }, { name := "INDEXED_LENGTH", type := .int, accessFlags := 24, slot := 7, constantValue := 0 }, { name := "BYTES_PER_ENTRY", type := .int, accessFlags := 26, slot := 8, constantValue := 0 }, { name := "REGISTER_BITS", type := .int, accessFlags := 26, slot := 9, constantValue := 0 }, { name := "ENTRY_OFFSET", type := .int, accessFlags := 26, slot := 10, constantValue := 0 }, { name := "OPCODE_KIND", type := .int, accessFlags := 26, slot := 11, constantValue := 0 }, { name := "XZERO", type := .int, accessFlags := 26, slot := 12, constantValue := 0 }, { name := "VAL", type := .int, accessFlags := 26, slot := 13, constantValue := 0 }, { name := "ZERO_MAX_SPAN", type := .int, accessFlags := 24, slot := 14, constantValue := 0 }, { name := "VAL_MAX_SPAN", type := .int, accessFlags := 24, slot := 15, constantValue := 0 }, { name := "PACKING_LOOKS", type := .int, accessFlags := 24, slot := 16, constantValue := 0 }, { name := "WINDOW_OPCODES", type := .int, accessFlags := 26, slot := 17, constantValue := 0 }, { name := "WINDOW_BYTES", type := .int, accessFlags := 26, slot := 18, constantValue := 0 }, { name := "EVERY_BYTE", type := .long, accessFlags := 26, slot := 19, constantValue := 0 }, { name := "LOW_BYTES", type := .long, accessFlags := 26, slot := 20, constantValue := 0 }, { name := "EVERY_LANE", type := .long, accessFlags := 26, slot := 21, constantValue := 0 }, { name := "LANE_TOPS", type := .long, accessFlags := 26, slot := 22, constantValue := 0 }]
  methods := #[k2m0, k2m1]
  instanceTypes := #[]
  staticTypes := #[.int, .int, .int, .int, .int, .int, .int, .int, .int, .int, .int, .int, .int, .int, .int, .int, .int, .int, .int, .long, .long, .long, .long]
  resolved := Array.replicate 314 none
  statics := none }

def pool3 : Array CpInfo := pool [(1, u "java/lang/Cloneable"), (0, .class_ 1), (0, u "java/lang/Object"), (0, .class_ 3)] 3

/-- java/lang/Cloneable -/
def k3 : Class := { plain "java/lang/Cloneable" (some 0) with
  accessFlags := 1537
  interfaces := #[]
  cf := some (fileOf pool3 2 #[] #[] 1537 4 #[] #[])
  fields := #[]
  methods := #[]
  instanceTypes := #[]
  staticTypes := #[]
  resolved := Array.replicate 8 none
  statics := none }

def pool4 : Array CpInfo := pool [(1, u "java/io/Serializable"), (0, .class_ 1), (0, u "java/lang/Object"), (0, .class_ 3)] 3

/-- java/io/Serializable -/
def k4 : Class := { plain "java/io/Serializable" (some 0) with
  accessFlags := 1537
  interfaces := #[]
  cf := some (fileOf pool4 2 #[] #[] 1537 4 #[] #[])
  fields := #[]
  methods := #[]
  instanceTypes := #[]
  staticTypes := #[]
  resolved := Array.replicate 8 none
  statics := none }

/-- the primitive byte -/
def k5 : Class := { plain "byte" none with kind := .primitive 'B', accessFlags := 0x411 }
/-- [B -/
def k6 : Class := { plain "[B" (some 0) with kind := .array 5 .byte, interfaces := #[3, 4], accessFlags := 1041 }

/-- the primitive int -/
def k7 : Class := { plain "int" none with kind := .primitive 'I', accessFlags := 0x411 }
/-- [I -/
def k8 : Class := { plain "[I" (some 0) with kind := .array 7 .int, interfaces := #[3, 4], accessFlags := 1041 }

def heap : Heap := #[]
def classes : Array Class := #[k0, k1, k2, k3, k4, k5, k6, k7, k8]
def interned : List (Array UInt16 × Addr) := []
def slotsUsed : Nat := 0
def theMethod : MethodId := ⟨1, 1⟩
def args0 : Array Value := #[.int 5, .int 7, .int 2, .int 9]
def aboutOver (below : List Frame) : State where
  vm := { classes := classes, interned := interned.toArray }
  heap := heap
  slotsUsed := slotsUsed
  threads := #[{ frames := .invoking theMethod args0 :: below }]
def below0 : List Frame := [.native { method := ⟨0, 0⟩, args := #[] }]
def about1 : State := aboutOver below0
def p0 : Program := .bare "" "" ""
def e0 : Env := launch0.env 0 0 0
theorem w_frames : about1.frames = Frame.invoking theMethod args0 :: below0 := rfl
set_option maxRecDepth 65536 in
theorem w_args : argsFit about1.vm theMethod args0 = true := by decide +kernel
set_option maxRecDepth 65536 in
theorem w_heap : heapFits about1 = true := by decide +kernel
set_option maxRecDepth 65536 in
theorem w_runnable : about1.curStatus? = some .runnable := by decide +kernel
set_option maxRecDepth 65536 in
theorem w_alone : about1.alone = true := by decide +kernel
set_option maxRecDepth 65536 in
theorem w_named : about1.methodNamed? x = some theMethod := by decide +kernel
set_option maxRecDepth 65536 in
theorem w_hears : about1.hears theMethod below0 = true := by decide +kernel
set_option maxRecDepth 65536 in
theorem w_ripe : about1.ripe theMethod args0 below0 = true := by decide +kernel
theorem w_running : about1.status = .running := rfl
set_option maxRecDepth 65536 in
theorem w_room : about1.hasRoom e0.platform room_1 = true :=
  launch0.hasRoom_least _ room_1 (by decide +kernel) (by decide +kernel) (by decide +kernel) (by decide +kernel) (by decide +kernel) (by decide +kernel)
theorem allAtoms_all (ts : List Jvm.Cond) (a : Array Jvm.Value) (st : Jvm.State) : (allAtoms ts).before a st = ts.all (fun c => c.before a st) := by
  induction ts with
  | nil => rfl
  | cons c t ih =>
    show (Jvm.Cond.and c (allAtoms t)).before a st = _
    rw [Jvm.Cond.before_and, ih, List.all_cons]
def words1 : List Jvm.Cond := Jvm.Cond.code x code maxLocals ret :: tables_1
/-- a 'code' word, met by the world's own term for the bytes: nothing is compared byte by byte -/
theorem code_word {y : MethodName} {bytes : ByteArray} {mx : Nat} {rt : Option FieldType} {a : Array Value} {s : State} {m : MethodId} {meth : Method} {c : Code} (h1 : s.methodNamed? y = some m) (h2 : s.vm.method? m = some meth) (h3 : meth.code = some c) (h4 : c.code = bytes)
    (h5 : (c.maxLocals == mx && c.exceptionTable.isEmpty && decide (c.maxStack ≤ mostOperands) && decide (meth.sig.returnType = rt) && !meth.locks && decide (parseMethodDescriptor y.desc = some meth.sig)) = true) : (Jvm.Cond.code y bytes mx rt).before a s = true := by
  simp only [Bool.and_eq_true, beq_iff_eq, Bool.not_eq_true', decide_eq_true_eq] at h5
  obtain ⟨⟨⟨⟨⟨g1, g2⟩, g3⟩, g4⟩, g5⟩, g6⟩ := h5
  simp [Cond.before, Cond.holds, Cond.value, h1, h2, h3, h4, g1, g2, g3, g4, g5, g6]
def isCode : Jvm.Cond → Bool
  | .code _ _ _ _ => true
  | _ => false
theorem all_split {L : List Jvm.Cond} {P : Jvm.Cond → Bool} (h1 : L.all (fun c => isCode c || P c) = true) (h2 : ∀ c ∈ L.filter isCode, P c = true) : L.all P = true := by
  refine List.all_eq_true.mpr fun c hc => ?_
  have h := List.all_eq_true.mp h1 c hc
  rcases Bool.eq_false_or_eq_true (isCode c) with hi | hi
  · exact h2 c (List.mem_filter.mpr ⟨hc, hi⟩)
  · simpa [hi] using h
set_option maxRecDepth 65536 in
theorem w_c0 : (Jvm.Cond.code x code maxLocals ret).before args0 about1 = true := code_word (m := ⟨1, 1⟩) (meth := k1m1) (c := k1c1) (by decide +kernel) rfl rfl rfl (by decide +kernel)
set_option maxRecDepth 65536 in
theorem w_c1 : (Jvm.Cond.code ({ cls := "com/example/distinct_counter/distinctcounter/SparseRegisters", name := "writeRun", desc := "([BIII)I" } : Jvm.MethodName) prog_11_method_19_code (4 : Nat) (Option.some Jvm.ClassFile.FieldType.int)).before args0 about1 = true := code_word (m := ⟨2, 1⟩) (meth := k2m1) (c := k2c1) (by decide +kernel) rfl rfl rfl (by decide +kernel)
set_option maxRecDepth 65536 in
theorem w_c2 : (Jvm.Cond.code ({ cls := "com/example/distinct_counter/distinctcounter/SparseRegistersWriteRunPinLaw", name := "untouched", desc := "([BIIB)Z" } : Jvm.MethodName) method_4_code (4 : Nat) (Option.some Jvm.ClassFile.FieldType.boolean)).before args0 about1 = true := code_word (m := ⟨1, 3⟩) (meth := k1m3) (c := k1c3) (by decide +kernel) rfl rfl rfl (by decide +kernel)
set_option maxRecDepth 65536 in
theorem w_c3 : (Jvm.Cond.code ({ cls := "com/example/distinct_counter/distinctcounter/SparseRegistersWriteRunPinLaw", name := "same", desc := "([BIIIB)Z" } : Jvm.MethodName) method_3_code (5 : Nat) (Option.some Jvm.ClassFile.FieldType.boolean)).before args0 about1 = true := code_word (m := ⟨1, 2⟩) (meth := k1m2) (c := k1c2) (by decide +kernel) rfl rfl rfl (by decide +kernel)
def codes1 : List Jvm.Cond := [Jvm.Cond.code x code maxLocals ret, Jvm.Cond.code ({ cls := "com/example/distinct_counter/distinctcounter/SparseRegisters", name := "writeRun", desc := "([BIII)I" } : Jvm.MethodName) prog_11_method_19_code (4 : Nat) (Option.some Jvm.ClassFile.FieldType.int), Jvm.Cond.code ({ cls := "com/example/distinct_counter/distinctcounter/SparseRegistersWriteRunPinLaw", name := "untouched", desc := "([BIIB)Z" } : Jvm.MethodName) method_4_code (4 : Nat) (Option.some Jvm.ClassFile.FieldType.boolean), Jvm.Cond.code ({ cls := "com/example/distinct_counter/distinctcounter/SparseRegistersWriteRunPinLaw", name := "same", desc := "([BIIIB)Z" } : Jvm.MethodName) method_3_code (5 : Nat) (Option.some Jvm.ClassFile.FieldType.boolean)]
set_option maxRecDepth 65536 in
theorem codes_eq : words1.filter isCode = codes1 := rfl
theorem w_codes : ∀ c ∈ words1.filter isCode, c.before args0 about1 = true := by
  rw [codes_eq]
  intro c hc
  simp only [codes1, List.mem_cons, List.not_mem_nil, or_false] at hc
  rcases hc with rfl | rfl | rfl | rfl
  · exact w_c0
  · exact w_c1
  · exact w_c2
  · exact w_c3
set_option maxRecDepth 65536 in
theorem w_t1 : words1.all (fun c => isCode c || c.before args0 about1) = true := by decide +kernel
theorem w_tables : (allAtoms (Jvm.Cond.code x code maxLocals ret :: tables_1)).before args0 about1 = true := by
  rw [allAtoms_all]
  show words1.all (fun c => c.before args0 about1) = true
  refine all_split ?_ w_codes
  rw [w_t1]
set_option maxRecDepth 65536 in
theorem w_case : (Jvm.Cond.and given_1 narrow_1).before args0 about1 = true := by decide +kernel
theorem w_applies : (headSpec (Jvm.Cond.code x code maxLocals ret :: tables_1) room_1).applies x e0.platform about1 = true :=
  (Spec.applies_iff w_frames).mpr ⟨w_running, w_runnable, w_alone, w_named, w_hears, w_ripe, w_room, w_tables⟩
theorem atStart : AtStart classFile x code maxLocals ret World_1 tables_1 room_1 Calls_1 rest_1 Pre_1 launch0 p0 e0 about1 theMethod args0 below0 :=
  ⟨lists_1, trivial, launch0.admits_env _ _ _, launch0.least_env, fairChoices_fair.cas, fairChoices_fair.clock, w_frames, w_args, w_heap, w_applies, trivial, trivial, w_case⟩
end start1
theorem witness_1 : WitnessClaimed_1 := ⟨start1.p0, start1.e0, start1.about1, start1.theMethod, start1.args0, start1.below0, start1.atStart⟩
end Jvm.Pilot.@@N@@
