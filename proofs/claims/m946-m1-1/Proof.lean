import JvmDerived
import JvmDerived.Pilot.@@N@@Statement
import JvmDerived.Pilot.@@N@@Code
set_option linter.unusedVariables false
set_option linter.unusedSimpArgs false
namespace Jvm.Pilot.@@N@@
open Jvm Jvm.ClassFile Sem Op Lib Jvm.Free Jvm.Stand Jvm.LawKit Jvm.RoadKit Bundle Jvm.Pilot.@@N@@.Jvm.D
section Own
variable {p : Program} {l : Launch} {e : Env} {R : Room} {s : State} {m : MethodId} {args : Array Value} {below : List Frame} {meth : Method} {c : Code} {T : State} {locs : List Loc} {cells slots : Nat} {Z : State} {h h' : Heap} {a b : Addr} {k k' : ClassId} {ty : FieldType} {n : Int32}
/-- from the state S the run ends, and G holds of the end -/
def own_Go (tb : Tables) (e : Env) (below : List Frame) (G : State → Outcome → Prop) (S : State) : Prop := ∃ s₂ o, Steps tb e below S s₂ ∧ s₂.status = .running ∧ Ended s₂ below o ∧ G s₂ o
theorem own_of {tb : Tables} {G : State → Outcome → Prop} {S S' : State} (f : ∀ t, Steps tb e below S' t → Steps tb e below S t) (g : own_Go tb e below G S') : own_Go tb e below G S := by
  obtain ⟨x, y, h1, h2⟩ := g
  exact ⟨x, y, f x h1, h2⟩
theorem own_out {tb : Tables} {Q : State → Outcome → Prop} {S : State} (f : ∀ G : State → Outcome → Prop, (∀ s₂ o, Q s₂ o → G s₂ o) → own_Go tb e below G S) : ∃ s₂ o, Steps tb e below S s₂ ∧ s₂.status = .running ∧ Ended s₂ below o ∧ Q s₂ o := f Q fun _ _ q => q
theorem own_retI (X : Stand p l e R s m args below meth c T locs cells slots) (hx : p.tables.exec = Jvm.exec) {pc : Nat} {Ls : Array Slot} {z : Int32} {rest : List Value} (hret : meth.sig.returnType = some .int) (hd : decode c.code pc = .ok (.ireturn, 1)) {fs : List Frame}
    (hl : ∀ (f : JFrame) (acts : List Action), f.method = m → f.locked = none → f.entered = [] → (doReturn e (T.setTop f) acts (some (.int z))).1 = T.setFrames fs) : Steps p.tables e below (T.setTop (mkF m pc Ls (.int z :: rest))) (T.setFrames fs) :=
  retOut X hx hret rfl (Or.inl ⟨rfl, Or.inl rfl, z, rfl⟩) hd hl
theorem own_retL (X : Stand p l e R s m args below meth c T locs cells slots) (hx : p.tables.exec = Jvm.exec) {pc : Nat} {Ls : Array Slot} {z : Int64} {rest : List Value} (hret : meth.sig.returnType = some .long) (hd : decode c.code pc = .ok (.lreturn, 1)) {fs : List Frame}
    (hl : ∀ (f : JFrame) (acts : List Action), f.method = m → f.locked = none → f.entered = [] → (doReturn e (T.setTop f) acts (some (.long z))).1 = T.setFrames fs) : Steps p.tables e below (T.setTop (mkF m pc Ls (.long z :: rest))) (T.setFrames fs) :=
  retOut X hx hret rfl (Or.inr (Or.inl ⟨rfl, rfl, z, rfl⟩)) hd hl
theorem own_retA (X : Stand p l e R s m args below meth c T locs cells slots) (hx : p.tables.exec = Jvm.exec) {pc : Nat} {Ls : Array Slot} {z : Addr} {C : String} {rest : List Value} (hret : meth.sig.returnType = some (.object C)) (hd : decode c.code pc = .ok (.areturn, 1)) {fs : List Frame}
    (hl : ∀ (f : JFrame) (acts : List Action), f.method = m → f.locked = none → f.entered = [] → (doReturn e (T.setTop f) acts (some (.ref z))).1 = T.setFrames fs) : Steps p.tables e below (T.setTop (mkF m pc Ls (.ref z :: rest))) (T.setFrames fs) :=
  retOut X hx hret rfl (Or.inr (Or.inr (Or.inr (Or.inr ⟨rfl, rfl, rfl⟩)))) hd hl
/-- an array of ints (or bytes) at a, whole: its class, element type, length and values -/
def own_AI (Z : State) (h : Heap) (a : Addr) (k : ClassId) (ty : FieldType) (n : Int32) (xs : List Int32) : Prop := Arv Z h a k ty n (xs.map Value.int) (.int 0) ∧ xs.length = n.toNatClampNeg
theorem own_AI.ext {xs : List Int32} (F : own_AI Z h a k ty n xs) (E : Ext h h') : own_AI Z h' a k ty n xs := ⟨F.1.ext E, F.2⟩
theorem own_AI.other {xs : List Int32} {sl : Nat} {v : Value} (F : own_AI Z h b k ty n xs) (W : Wr h h' a sl v) (q : b ≠ a) : own_AI Z h' b k ty n xs := ⟨F.1.other W q, F.2⟩
theorem own_AI.keep {xs : List Int32} {ws : List Addr} (F : own_AI Z h a k ty n xs) (K : Keep h h' ws) (q : a ∉ ws) : own_AI Z h' a k ty n xs := ⟨F.1.keep K q, F.2⟩
theorem own_AI.lt {xs : List Int32} (F : own_AI Z h a k ty n xs) : a < h.size := F.1.lt
def own_AJ (Z : State) (h : Heap) (a : Addr) (k : ClassId) (n : Int32) (xs : List Int64) : Prop := Arv Z h a k .long n (xs.map Value.long) (.long 0) ∧ xs.length = n.toNatClampNeg
theorem own_AJ.ext {xs : List Int64} (F : own_AJ Z h a k n xs) (E : Ext h h') : own_AJ Z h' a k n xs := ⟨F.1.ext E, F.2⟩
theorem own_AJ.other {xs : List Int64} {sl : Nat} {v : Value} (F : own_AJ Z h b k n xs) (W : Wr h h' a sl v) (q : b ≠ a) : own_AJ Z h' b k n xs := ⟨F.1.other W q, F.2⟩
theorem own_AJ.keep {xs : List Int64} {ws : List Addr} (F : own_AJ Z h a k n xs) (K : Keep h h' ws) (q : a ∉ ws) : own_AJ Z h' a k n xs := ⟨F.1.keep K q, F.2⟩
theorem own_AJ.lt {xs : List Int64} (F : own_AJ Z h a k n xs) : a < h.size := F.1.lt
theorem own_ltn {j n : Int32} (q : ¬ j < 0 ∧ j < n) : j.toNatClampNeg < n.toNatClampNeg := by
  obtain ⟨q1, q2⟩ := q
  rw [Int32.lt_iff_toInt_lt] at q1 q2
  have e0 : (0 : Int32).toInt = 0 := rfl
  simp only [Int32.toNatClampNeg]; omega
theorem own_newI (A : Arr Z h a (newA k ty n) ty) (q : ¬ n < 0) (cnt : Nat) (hc : n.toNatClampNeg = cnt) (hd : defaultValue ty = .int 0) : own_AI Z h a k ty n (List.replicate cnt 0) := by
  have F := Arv.new A q
  rw [hd] at F
  exact ⟨by rw [List.map_replicate]; exact F.pad (pad_rep [] (.int 0) cnt), by rw [List.length_replicate, hc]⟩
theorem own_newJ (A : Arr Z h a (newA k .long n) .long) (q : ¬ n < 0) (cnt : Nat) (hc : n.toNatClampNeg = cnt) : own_AJ Z h a k n (List.replicate cnt 0) := by
  have F := Arv.new A q
  exact ⟨by rw [List.map_replicate]; exact F.pad (pad_rep [] (.long 0) cnt), by rw [List.length_replicate, hc]⟩
theorem own_stI (X : Stand p l e R s m args below meth c T locs cells slots) (hx : p.tables.exec = Jvm.exec) (hZ : Z.Warmed39 s.vm) (eT : T.heap = h) {xs : List Int32} (F : own_AI Z h a k .int n xs) {j x : Int32} (q : ¬ j < 0 ∧ j < n) {g : JFrame} (hg : g.method = m) {rest : List Value} (hs : g.stack = .int x :: .int j :: .ref a :: rest) (hd : decode c.code g.pc = .ok (.iastore, 1)) :
    ∃ T' h', Stand p l e R s m args below meth c T' (locs ++ [⟨a, j.toNatClampNeg⟩]) cells slots ∧ T'.heap = h' ∧ Wr h h' a j.toNatClampNeg (.int x) ∧ own_AI Z h' a k .int n (xs.set j.toNatClampNeg x) ∧ ∀ target, Steps p.tables e below (T'.setTop { g with pc := g.pc + 1, stack := rest }) target → Steps p.tables e below (T.setTop g) target := by
  obtain ⟨⟨cl, A, q1, S, q3, H, G⟩, hl⟩ := F
  obtain ⟨T', h', X', e', W, st⟩ := stI X hx hZ eT A (inb_of S q) hg hs hd
  refine ⟨T', h', X', e', W, ⟨?_, by rw [List.length_set]; exact hl⟩, st⟩
  rw [List.map_set]
  exact Arv.set A q1 S q3 H G rfl W _ rfl (by rw [List.length_map, hl]; exact own_ltn q)
theorem own_stB (X : Stand p l e R s m args below meth c T locs cells slots) (hx : p.tables.exec = Jvm.exec) (hZ : Z.Warmed39 s.vm) (eT : T.heap = h) {xs : List Int32} (F : own_AI Z h a k .byte n xs) {j x : Int32} (q : ¬ j < 0 ∧ j < n) {g : JFrame} (hg : g.method = m) {rest : List Value} (hs : g.stack = .int x :: .int j :: .ref a :: rest) (hd : decode c.code g.pc = .ok (.bastore, 1)) :
    ∃ T' h', Stand p l e R s m args below meth c T' (locs ++ [⟨a, j.toNatClampNeg⟩]) cells slots ∧ T'.heap = h' ∧ Wr h h' a j.toNatClampNeg (.int x.toInt8.toInt32) ∧ own_AI Z h' a k .byte n (xs.set j.toNatClampNeg x.toInt8.toInt32) ∧ ∀ target, Steps p.tables e below (T'.setTop { g with pc := g.pc + 1, stack := rest }) target → Steps p.tables e below (T.setTop g) target := by
  obtain ⟨⟨cl, A, q1, S, q3, H, G⟩, hl⟩ := F
  obtain ⟨T', h', X', e', W, st⟩ := stB X hx hZ eT A (inb_of S q) hg hs hd
  refine ⟨T', h', X', e', W, ⟨?_, by rw [List.length_set]; exact hl⟩, st⟩
  rw [List.map_set]
  exact Arv.set A q1 S q3 H G (fits_nar_byte _) W _ rfl (by rw [List.length_map, hl]; exact own_ltn q)
theorem own_stJ (X : Stand p l e R s m args below meth c T locs cells slots) (hx : p.tables.exec = Jvm.exec) (hZ : Z.Warmed39 s.vm) (eT : T.heap = h) {xs : List Int64} (F : own_AJ Z h a k n xs) {j : Int32} {x : Int64} (q : ¬ j < 0 ∧ j < n) {g : JFrame} (hg : g.method = m) {rest : List Value} (hs : g.stack = .long x :: .int j :: .ref a :: rest) (hd : decode c.code g.pc = .ok (.lastore, 1)) :
    ∃ T' h', Stand p l e R s m args below meth c T' (locs ++ [⟨a, j.toNatClampNeg⟩]) cells slots ∧ T'.heap = h' ∧ Wr h h' a j.toNatClampNeg (.long x) ∧ own_AJ Z h' a k n (xs.set j.toNatClampNeg x) ∧ ∀ target, Steps p.tables e below (T'.setTop { g with pc := g.pc + 1, stack := rest }) target → Steps p.tables e below (T.setTop g) target := by
  obtain ⟨⟨cl, A, q1, S, q3, H, G⟩, hl⟩ := F
  obtain ⟨T', h', X', e', W, st⟩ := stJ X hx hZ eT A (inb_of S q) hg hs hd
  refine ⟨T', h', X', e', W, ⟨?_, by rw [List.length_set]; exact hl⟩, st⟩
  rw [List.map_set]
  exact Arv.set A q1 S q3 H G rfl W _ rfl (by rw [List.length_map, hl]; exact own_ltn q)
theorem own_getI (xs : List Int32) (i : Nat) : (xs.map Value.int).getD i (.int 0) = .int (xs.getD i 0) := by
  simp only [List.getD_eq_getElem?_getD, List.getElem?_map]
  cases xs[i]? <;> rfl
theorem own_getJ (xs : List Int64) (i : Nat) : (xs.map Value.long).getD i (.long 0) = .long (xs.getD i 0) := by
  simp only [List.getD_eq_getElem?_getD, List.getElem?_map]
  cases xs[i]? <;> rfl
theorem own_ldI (X : Stand p l e R s m args below meth c T locs cells slots) (hx : p.tables.exec = Jvm.exec) (hZ : Z.Warmed39 s.vm) (eT : T.heap = h) {xs : List Int32} (F : own_AI Z h a k .int n xs) {j : Int32} (q : ¬ j < 0 ∧ j < n) {g : JFrame} (hg : g.method = m) {rest : List Value} (hs : g.stack = .int j :: .ref a :: rest) (hd : decode c.code g.pc = .ok (.iaload, 1)) :
    ∀ target, Steps p.tables e below (T.setTop { g with pc := g.pc + 1, stack := .int (xs.getD j.toNatClampNeg 0) :: rest }) target → Steps p.tables e below (T.setTop g) target := by
  obtain ⟨⟨cl, A, q1, S, q3, H, G⟩, hl⟩ := F
  intro target hr
  exact X.iaload hx (by rw [eT]; exact A.1) (State.isArrayOf_alike hZ.alike A.2.1) A.2.2 (inb_of S q) (H.at (inb_of S q) (own_getI xs _)) hg hs hd target hr
theorem own_ldB (X : Stand p l e R s m args below meth c T locs cells slots) (hx : p.tables.exec = Jvm.exec) (hZ : Z.Warmed39 s.vm) (eT : T.heap = h) {xs : List Int32} (F : own_AI Z h a k .byte n xs) {j : Int32} (q : ¬ j < 0 ∧ j < n) {g : JFrame} (hg : g.method = m) {rest : List Value} (hs : g.stack = .int j :: .ref a :: rest) (hd : decode c.code g.pc = .ok (.baload, 1)) :
    ∀ target, Steps p.tables e below (T.setTop { g with pc := g.pc + 1, stack := .int (xs.getD j.toNatClampNeg 0) :: rest }) target → Steps p.tables e below (T.setTop g) target := by
  obtain ⟨⟨cl, A, q1, S, q3, H, G⟩, hl⟩ := F
  intro target hr
  exact X.baloadBytes hx (by rw [eT]; exact A.1) (State.isArrayOf_alike hZ.alike A.2.1) A.2.2 (inb_of S q) (H.at (inb_of S q) (own_getI xs _)) hg hs hd target hr
theorem own_ldJ (X : Stand p l e R s m args below meth c T locs cells slots) (hx : p.tables.exec = Jvm.exec) (hZ : Z.Warmed39 s.vm) (eT : T.heap = h) {xs : List Int64} (F : own_AJ Z h a k n xs) {j : Int32} (q : ¬ j < 0 ∧ j < n) {g : JFrame} (hg : g.method = m) {rest : List Value} (hs : g.stack = .int j :: .ref a :: rest) (hd : decode c.code g.pc = .ok (.laload, 1)) :
    ∀ target, Steps p.tables e below (T.setTop { g with pc := g.pc + 1, stack := .long (xs.getD j.toNatClampNeg 0) :: rest }) target → Steps p.tables e below (T.setTop g) target := by
  obtain ⟨⟨cl, A, q1, S, q3, H, G⟩, hl⟩ := F
  intro target hr
  exact X.laload hx (by rw [eT]; exact A.1) (State.isArrayOf_alike hZ.alike A.2.1) A.2.2 (inb_of S q) (H.at (inb_of S q) (own_getJ xs _)) hg hs hd target hr
theorem own_lenJ (X : Stand p l e R s m args below meth c T locs cells slots) (hx : p.tables.exec = Jvm.exec) (hZ : Z.Warmed39 s.vm) (eT : T.heap = h) {xs : List Int64} (F : own_AJ Z h a k n xs) {g : JFrame} (hg : g.method = m) {rest : List Value} (hs : g.stack = .ref a :: rest) (hd : decode c.code g.pc = .ok (.arraylength, 1)) :
    ∀ target, Steps p.tables e below (T.setTop { g with pc := g.pc + 1, stack := .int n :: rest }) target → Steps p.tables e below (T.setTop g) target := by
  obtain ⟨⟨cl, A, q1, S, q3, H, G⟩, hl⟩ := F
  intro target hr
  refine X.arraylength hx (by rw [eT]; exact A.1) (State.isArrayOf_alike hZ.alike A.2.1) hg hs hd target ?_
  rw [len_of S q3]; exact hr
theorem own_rng {α : Type} (d : α) (xs : List α) (n : Nat) (hn : xs.length = n) : (List.range n).map (fun i => xs.getD (0 + i) d) = xs := by
  subst hn
  apply List.ext_getElem?
  intro i
  simp only [List.getElem?_map, List.getD_eq_getElem?_getD, Nat.zero_add]
  by_cases q : i < xs.length
  · simp [List.getElem?_range q, List.getElem?_eq_getElem q]
  · have q' : xs.length ≤ i := Nat.le_of_not_lt q
    rw [List.getElem?_eq_none (by simpa using q'), List.getElem?_eq_none q']; rfl
theorem own_cpJ (X : Stand p l e R s m args below meth c T locs cells slots) (hx : p.tables.exec = Jvm.exec) (hZ : Z.Warmed39 s.vm) {a0 : Array Value} {own : String} {index : Nat} (hown : s.vm.findClass own = some m.cls)
    (w1 : (Cond.methodLink own index Jvm.Stand.acN).before a0 Z = true) (w2 : (Cond.native Jvm.Stand.acN).before a0 Z = true) (w3 : (Cond.static Jvm.Stand.acN).before a0 Z = true) (w4 : (Cond.initialized "java/lang/System").before a0 Z = true) (eT : T.heap = h)
    {xs ys : List Int64} (A : own_AJ Z h a k n xs) (B : own_AJ Z h b k' n ys) (h3 : ¬ n < 0) (h4 : (0 : Int32).toNatClampNeg = 0) {n0 : Nat} (N : Fr n0 locs) (ge : n0 ≤ b)
    {g : JFrame} (hg : g.method = m) (hsize : g.locals.size = c.maxLocals) {rest : List Value} (hs : g.stack = .int n :: .int 0 :: .ref b :: .int 0 :: .ref a :: rest) (hd : decode c.code g.pc = .ok (.invokestatic index, 3))
    (hf : 1 ≤ R.frames) {W : Nat} (hW : 2 * g.monitorRoom + (rest.map fun v => v.category).sum ≤ W) (hlo : W + (nativeFrameWords "java/lang/System" "arraycopy" 5 + 11) ≤ R.locals) :
    ∃ T' h' L, Stand p l e R s m args below meth c T' L cells slots ∧ T'.heap = h' ∧ Fr n0 L ∧ Keep h h' [b] ∧ own_AJ Z h' b k' n xs ∧
      ∀ target, Steps p.tables e below (T'.setTop { g with pc := g.pc + 3, stack := rest }) target → Steps p.tables e below (T.setTop g) target := by
  obtain ⟨A, la⟩ := A
  obtain ⟨B, lb⟩ := B
  obtain ⟨T', h', L, X', e', N', K', V', st⟩ := cpA X hx hZ hown w1 w2 w3 w4 eT A B (Or.inl ⟨rfl, rfl⟩) (sp := 0) (dp := 0) (nn := n) (by decide) (by decide) h3 (by rw [h4]; omega) (by rw [h4]; omega) rfl (by rw [h4, List.length_map, lb]; omega) N ge hg hsize hs hd hf hW hlo
  refine ⟨T', h', L, X', e', N', K', ⟨?_, la⟩, st⟩
  rw [h4] at V'
  rw [own_rng (.long 0) (xs.map Value.long) _ (by rw [List.length_map, la])] at V'
  have q : List.drop (0 + n.toNatClampNeg) (ys.map Value.long) = [] := by rw [List.drop_eq_nil_iff, List.length_map, lb]; omega
  rw [q] at V'
  simpa using V'
end Own
def own_pb (bu : Int64) (fi px : Int32) : Int64 := (bu ||| ((px.toInt64) <<< (fi &&& 0x3f).toInt64))
def own_pat (at_ fi pw : Int32) : Int32 := if (fi + pw) < 32 then at_ else at_ + 1
def own_pbu (bu : Int64) (fi px pw : Int32) : Int64 := if (fi + pw) < 32 then own_pb bu fi px else (((own_pb bu fi px).toUInt64 >>> ((32 : Int32) &&& 0x3f).toInt64.toUInt64).toInt64)
def own_pfi (fi pw : Int32) : Int32 := if (fi + pw) < 32 then fi + pw else fi + pw - 32
def own_pxs (xs : List Int32) (at_ : Int32) (bu : Int64) (fi px pw : Int32) : List Int32 := if (fi + pw) < 32 then xs else xs.set at_.toNatClampNeg (own_pb bu fi px).toInt32
def own_eat (at_ fi : Int32) : Int32 := if 0 < fi then at_ + 1 else at_
def own_exs (xs : List Int32) (at_ : Int32) (bu : Int64) (fi : Int32) : List Int32 := if 0 < fi then xs.set at_.toNatClampNeg bu.toInt32 else xs
def own_want (ix at_ nn v0 v1 v2 fil : Int32) : Int32 := if (ix - at_) < 0 then fil else if (ix - at_) < nn then (if (ix - at_) = 0 then v0 else if (ix - at_) = 1 then v1 else v2) else fil
def own_slot (got ix at_ nn v0 v1 v2 fil : Int32) : Int32 := if got = own_want ix at_ nn v0 v1 v2 fil then 1 else 0
theorem own_nat {x : Int32} {f : Nat} (h : x.toInt = (f : Int)) : x.toBitVec.toNat = f := by
  have q : x.toInt = x.toBitVec.toInt := rfl
  rw [q, BitVec.toInt_eq_toNat_cond] at h
  have := x.toBitVec.isLt
  split at h <;> omega
theorem own_pbv {bu : Int64} {fi px : Int32} {bn f xn w : Nat} (hb : bu.toInt = (bn : Int)) (hB : bn < 2 ^ f) (hf : fi.toInt = (f : Int)) (hf2 : f < 32) (hx : px.toInt = (xn : Int)) (hX : xn < 2 ^ w) (hw : w ≤ 24) : (own_pb bu fi px).toInt = ((bn + xn * 2 ^ f : Nat) : Int) := by
  have hk : fi.toBitVec.toNat % 64 = f := by rw [own_nat hf]; omega
  have s1 := c_lshl px.toInt64 fi f hk
  rw [c_i2l, hx] at s1
  have b1 : 2 ^ f ≤ 2 ^ 31 := Nat.pow_le_pow_right (by decide) (by omega)
  have b2 : 2 ^ w ≤ 2 ^ 24 := Nat.pow_le_pow_right (by decide) hw
  have b3 : xn * 2 ^ f ≤ 2 ^ 24 * 2 ^ 31 := Nat.mul_le_mul (by omega) b1
  rw [← Int.natCast_mul] at s1
  have r1 := rng64 (px.toInt64 <<< (fi &&& 0x3f).toInt64)
  have s2 : (px.toInt64 <<< (fi &&& 0x3f).toInt64).toInt = ((xn * 2 ^ f : Nat) : Int) := by
    generalize xn * 2 ^ f = P at *
    omega
  have s3 := c_orL' bu (px.toInt64 <<< (fi &&& 0x3f).toInt64) f (by omega) ((2 ^ f : Nat) : Int) rfl (by rw [s2]; exact Int.emod_eq_zero_of_dvd (Int.natCast_dvd_natCast.mpr (Nat.dvd_mul_left _ _))) (by omega) (by rw [hb]; exact Int.ofNat_lt.mpr hB)
  have r2 := rng64 (own_pb bu fi px)
  have s4 : own_pb bu fi px = bu ||| (px.toInt64 <<< (fi &&& 0x3f).toInt64) := rfl
  rw [← s4, s2, hb] at s3
  generalize xn * 2 ^ f = P at *
  omega
def own_word (V j : Nat) : Int32 := Int32.ofInt ((V / 2 ^ (32 * j) : Nat) : Int)
def own_at (fil : Int32) (z V n i : Nat) : Int32 := if z ≤ i ∧ i < z + n then own_word V (i - z) else fil
theorem own_oi {a b : Int} (h : (a - b) % 4294967296 = 0) : Int32.ofInt a = Int32.ofInt b := by
  apply Int32.toInt_inj.mp
  have r1 := rng32 (Int32.ofInt a)
  have r2 := rng32 (Int32.ofInt b)
  have e1 := bm32 a
  have e2 := bm32 b
  rw [← Int32.toInt_ofInt] at e1 e2
  omega
theorem own_w {x : Int64} {a : Int} (h : (x.toInt - a) % 4294967296 = 0) : x.toInt32 = Int32.ofInt a := by
  apply Int32.toInt_inj.mp
  have r1 := rng32 x.toInt32
  have r2 := rng32 (Int32.ofInt a)
  have e1 := c_l2i x
  have e2 := bm32 a
  rw [← Int32.toInt_ofInt] at e2
  omega
theorem own_wsame {V xn S j : Nat} (h : 32 * (j + 1) ≤ S) : own_word (V + xn * 2 ^ S) j = own_word V j := by
  unfold own_word
  apply own_oi
  have e : 2 ^ S = 2 ^ 32 * 2 ^ (S - 32 * (j + 1)) * 2 ^ (32 * j) := by rw [← Nat.pow_add, ← Nat.pow_add]; congr 1; omega
  rw [e, ← Nat.mul_assoc, Nat.add_mul_div_right _ _ (Nat.two_pow_pos _)]
  have e2 : xn * (2 ^ 32 * 2 ^ (S - 32 * (j + 1))) = 4294967296 * (xn * 2 ^ (S - 32 * (j + 1))) := by rw [Nat.mul_left_comm]
  rw [e2]
  generalize xn * 2 ^ (S - 32 * (j + 1)) = P
  generalize V / 2 ^ (32 * j) = Q
  omega
def own_I (fil : Int32) (z V S : Nat) (at_ : Int32) (bu : Int64) (fi : Int32) (xs : List Int32) : Prop :=
  at_.toInt = ((z + S / 32 : Nat) : Int) ∧ bu.toInt = ((V / 2 ^ (32 * (S / 32)) : Nat) : Int) ∧ fi.toInt = ((S % 32 : Nat) : Int) ∧ V < 2 ^ S ∧ xs.length = 5 ∧ ∀ i, i < 5 → xs.getD i 0 = own_at fil z V (S / 32) i
theorem own_gs {xs : List Int32} {i j : Nat} {v : Int32} (h : i ≠ j) : (xs.set i v).getD j 0 = xs.getD j 0 := by
  simp only [List.getD_eq_getElem?_getD, List.getElem?_set_ne h]
theorem own_gt {xs : List Int32} {i : Nat} {v : Int32} (h : i < xs.length) : (xs.set i v).getD i 0 = v := by
  simp [List.getD_eq_getElem?_getD, h]
theorem own_atsame {fil : Int32} {z V xn S n i : Nat} (h : 32 * n ≤ S) : own_at fil z (V + xn * 2 ^ S) n i = own_at fil z V n i := by
  unfold own_at
  split
  · rw [own_wsame (by omega)]
  · rfl
theorem own_e32 : (32 : Int32).toInt = 32 := rfl
theorem own_e1 : (1 : Int32).toInt = 1 := rfl
theorem own_e0 : (0 : Int32).toInt = 0 := rfl
theorem own_step {fil : Int32} {z V S : Nat} {at_ : Int32} {bu : Int64} {fi : Int32} {xs : List Int32} {px pw : Int32} {xn w : Nat} (I : own_I fil z V S at_ bu fi xs) (hz : z ≤ 1) (hS : S ≤ 48) (hx : px.toInt = (xn : Int)) (hX : xn < 2 ^ w) (hw : w ≤ 24) (hpw : pw.toInt = (w : Int)) :
    own_I fil z (V + xn * 2 ^ S) (S + w) (own_pat at_ fi pw) (own_pbu bu fi px pw) (own_pfi fi pw) (own_pxs xs at_ bu fi px pw) := by
  obtain ⟨i1, i2, i3, i4, i5, i6⟩ := I
  have hn : 2 ^ S = 2 ^ (S % 32) * 2 ^ (32 * (S / 32)) := by rw [← Nat.pow_add]; congr 1; omega
  have hB : V / 2 ^ (32 * (S / 32)) < 2 ^ (S % 32) := by rw [Nat.div_lt_iff_lt_mul (Nat.two_pow_pos _), ← hn]; exact i4
  have pv := own_pbv i2 hB i3 (by omega) hx hX hw
  have hV : V / 2 ^ (32 * (S / 32)) + xn * 2 ^ (S % 32) = (V + xn * 2 ^ S) / 2 ^ (32 * (S / 32)) := by
    rw [hn, ← Nat.mul_assoc, Nat.add_mul_div_right _ _ (Nat.two_pow_pos _)]
  rw [hV] at pv
  have hlt : V + xn * 2 ^ S < 2 ^ (S + w) := by
    have q : (xn + 1) * 2 ^ S ≤ 2 ^ w * 2 ^ S := Nat.mul_le_mul_right _ hX
    rw [Nat.add_mul, Nat.one_mul] at q
    rw [Nat.pow_add, Nat.mul_comm (2 ^ S)]; omega
  have sm := c_iadd fi pw
  have rs := rng32 (fi + pw)
  have sm' : (fi + pw).toInt = ((S % 32 + w : Nat) : Int) := by omega
  by_cases hc : S % 32 + w < 32
  · have hc' : (fi + pw) < 32 := by rw [Int32.lt_iff_toInt_lt, own_e32]; omega
    have d1 : (S + w) / 32 = S / 32 := by omega
    have d2 : (S + w) % 32 = S % 32 + w := by omega
    unfold own_I own_pat own_pbu own_pfi own_pxs
    rw [if_pos hc', if_pos hc', if_pos hc', if_pos hc', d1, d2]
    exact ⟨i1, pv, sm', hlt, i5, fun i hi => by rw [i6 i hi, own_atsame (by omega)]⟩
  · have hc' : ¬ (fi + pw) < 32 := by rw [Int32.lt_iff_toInt_lt, own_e32]; omega
    have d1 : (S + w) / 32 = S / 32 + 1 := by omega
    have d2 : (S + w) % 32 = S % 32 + w - 32 := by omega
    unfold own_I own_pat own_pbu own_pfi own_pxs
    rw [if_neg hc', if_neg hc', if_neg hc', if_neg hc', d1, d2]
    have a1 := c_iadd at_ 1
    have ra := rng32 (at_ + 1)
    rw [own_e1] at a1
    have f1 := c_isub (fi + pw) 32
    have rf := rng32 (fi + pw - 32)
    rw [own_e32] at f1
    have u1 := c_lushr (own_pb bu fi px) 32 32 (by decide) (by decide)
    have ru := rng64 (own_pb bu fi px)
    have hcl : at_.toNatClampNeg = z + S / 32 := by simp only [Int32.toNatClampNeg]; omega
    refine ⟨by omega, ?_, by omega, hlt, by rw [List.length_set]; exact i5, fun i hi => ?_⟩
    · rw [u1, pv]
      have e : (V + xn * 2 ^ S) / 2 ^ (32 * (S / 32 + 1)) = (V + xn * 2 ^ S) / 2 ^ (32 * (S / 32)) / 2 ^ 32 := by rw [Nat.div_div_eq_div_mul, ← Nat.pow_add]; rfl
      rw [e]
      rw [pv] at ru
      generalize (V + xn * 2 ^ S) / 2 ^ (32 * (S / 32)) = P at *
      have e32 : ((2 ^ 32 : Nat) : Int) = 4294967296 := rfl
      rw [e32]
      omega
    · rw [hcl]
      by_cases hi2 : z + S / 32 = i
      · subst hi2
        rw [own_gt (by omega)]
        unfold own_at
        rw [if_pos (by omega), show z + S / 32 - z = S / 32 by omega]
        exact own_w (by rw [pv]; omega)
      · rw [own_gs hi2, i6 i hi, ← own_atsame (xn := xn) (S := S) (by omega)]
        unfold own_at
        by_cases hq : z ≤ i ∧ i < z + S / 32
        · rw [if_pos hq, if_pos (by omega)]
        · rw [if_neg hq, if_neg (by omega)]
theorem own_in {fil : Int32} {z V S : Nat} {at_ : Int32} {bu : Int64} {fi : Int32} {xs : List Int32} (I : own_I fil z V S at_ bu fi xs) (hz : z ≤ 1) (hS : S ≤ 72) : ¬ at_ < (0 : Int32) ∧ at_ < (5 : Int32) := by
  obtain ⟨i1, -⟩ := I
  have e5 : (5 : Int32).toInt = 5 := rfl
  rw [Int32.lt_iff_toInt_lt, Int32.lt_iff_toInt_lt, own_e0, e5]; omega
theorem own_wb {y x : Int32} (h : (y &&& (31 : Int32)) % (25 : Int32) = x) : ∃ w : Nat, x.toInt = (w : Int) ∧ w ≤ 24 := by
  have m1 : (y &&& (31 : Int32)).toInt = y.toInt % (2 ^ 5 : Nat) := c_mask y 31 5 (by decide) (by decide)
  have m2 : 0 ≤ (y &&& (31 : Int32)).toInt := by rw [m1]; omega
  have q := (c_irem (y &&& (31 : Int32)) 25 25 rfl).1 m2
  rw [h] at q
  exact ⟨x.toInt.toNat, by omega, by omega⟩
theorem own_zb {y x : Int32} (h : (y &&& (1 : Int32)) = x) : ∃ z : Nat, x.toInt = (z : Int) ∧ z ≤ 1 := by
  have m1 : (y &&& (1 : Int32)).toInt = y.toInt % (2 ^ 1 : Nat) := c_mask y 1 1 (by decide) (by decide)
  rw [h] at m1
  exact ⟨x.toInt.toNat, by omega, by omega⟩
theorem own_xb {y x v : Int32} {w : Nat} (h : (y &&& (((1 : Int32) <<< (v &&& 31)) - (1 : Int32))) = x) (hv : v.toInt = (w : Int)) (hw : w ≤ 24) : ∃ n : Nat, x.toInt = (n : Int) ∧ n < 2 ^ w := by
  have hk : v.toBitVec.toNat % 32 = w := by rw [own_nat hv]; omega
  have s1 := c_ishl (1 : Int32) v w hk
  have b2 : 2 ^ w ≤ 2 ^ 24 := Nat.pow_le_pow_right (by decide) hw
  have b1 : 0 < 2 ^ w := Nat.two_pow_pos w
  rw [own_e1] at s1
  have r1 := rng32 ((1 : Int32) <<< (v &&& 31))
  have s2 := c_isub ((1 : Int32) <<< (v &&& 31)) 1
  have r2 := rng32 (((1 : Int32) <<< (v &&& 31)) - 1)
  rw [own_e1] at s2
  have s3 : (((1 : Int32) <<< (v &&& 31)) - 1).toInt = ((2 ^ w - 1 : Nat) : Int) := by
    generalize 2 ^ w = P at *
    omega
  have m1 := c_mask y (((1 : Int32) <<< (v &&& 31)) - 1) w (by omega) (own_nat s3)
  rw [h] at m1
  have p1 := Int.emod_nonneg y.toInt (b := ((2 ^ w : Nat) : Int)) (by omega)
  have p2 := Int.emod_lt_of_pos y.toInt (b := ((2 ^ w : Nat) : Int)) (by omega)
  rw [← m1] at p1 p2
  exact ⟨x.toInt.toNat, by omega, by omega⟩
theorem own_init {fil x : Int32} {z : Nat} (h : x.toInt = (z : Int)) : own_I fil z 0 0 x (0 : Int64) (0 : Int32) [fil, fil, fil, fil, fil] := by
  refine ⟨by simpa using h, rfl, rfl, by decide, rfl, fun i hi => ?_⟩
  unfold own_at
  rw [if_neg (by omega)]
  match i, hi with
  | 0, _ | 1, _ | 2, _ | 3, _ | 4, _ => rfl
theorem own_end {fil : Int32} {z V S : Nat} {at_ : Int32} {bu : Int64} {fi : Int32} {xs : List Int32} (I : own_I fil z V S at_ bu fi xs) (hz : z ≤ 1) (hS : S ≤ 72) :
    (own_eat at_ fi).toInt = ((z + (S + 31) / 32 : Nat) : Int) ∧ ∀ i, i < 5 → (own_exs xs at_ bu fi).getD i 0 = own_at fil z V ((S + 31) / 32) i := by
  obtain ⟨i1, i2, i3, i4, i5, i6⟩ := I
  unfold own_eat own_exs
  by_cases hc : S % 32 = 0
  · have hc' : ¬ (0 : Int32) < fi := by rw [Int32.lt_iff_toInt_lt, own_e0]; omega
    have d1 : (S + 31) / 32 = S / 32 := by omega
    rw [if_neg hc', if_neg hc', d1]
    exact ⟨i1, i6⟩
  · have hc' : (0 : Int32) < fi := by rw [Int32.lt_iff_toInt_lt, own_e0]; omega
    have d1 : (S + 31) / 32 = S / 32 + 1 := by omega
    rw [if_pos hc', if_pos hc', d1]
    have a1 := c_iadd at_ 1
    have ra := rng32 (at_ + 1)
    rw [own_e1] at a1
    have hcl : at_.toNatClampNeg = z + S / 32 := by simp only [Int32.toNatClampNeg]; omega
    refine ⟨by omega, fun i hi => ?_⟩
    rw [hcl]
    by_cases hi2 : z + S / 32 = i
    · subst hi2
      rw [own_gt (by omega)]
      unfold own_at
      rw [if_pos (by omega), show z + S / 32 - z = S / 32 by omega]
      exact own_w (by rw [i2]; omega)
    · rw [own_gs hi2, i6 i hi]
      unfold own_at
      by_cases hq : z ≤ i ∧ i < z + S / 32
      · rw [if_pos hq, if_pos (by omega)]
      · rw [if_neg hq, if_neg (by omega)]
theorem own_pbm {bu : Int64} {fi px : Int32} {bn f xn : Nat} (hb : bu.toInt = (bn : Int)) (hB : bn < 2 ^ f) (hf : fi.toInt = (f : Int)) (hf2 : f ≤ 48) (hx : px.toInt = (xn : Int)) : ((bu ||| ((px.toInt64) <<< (fi &&& 0x3f).toInt64)).toInt - ((bn + xn * 2 ^ f : Nat) : Int)) % 18446744073709551616 = 0 := by
  have hk : fi.toBitVec.toNat % 64 = f := by rw [own_nat hf]; omega
  have s1 := c_lshl px.toInt64 fi f hk
  rw [c_i2l, hx, ← Int.natCast_mul] at s1
  have d : (((2 ^ f : Nat) : Int)) ∣ (px.toInt64 <<< (fi &&& 0x3f).toInt64).toInt := by
    have d1 : ((2 ^ f : Nat) : Int) ∣ ((xn * 2 ^ f : Nat) : Int) := Int.natCast_dvd_natCast.mpr (Nat.dvd_mul_left _ _)
    have d2 : ((2 ^ f : Nat) : Int) ∣ (18446744073709551616 : Int) := by
      have : ((18446744073709551616 : Nat) : Int) = (18446744073709551616 : Int) := rfl
      rw [← this]
      exact Int.natCast_dvd_natCast.mpr (Nat.pow_dvd_pow 2 (show f ≤ 64 by omega))
    have d3 : (18446744073709551616 : Int) ∣ ((px.toInt64 <<< (fi &&& 0x3f).toInt64).toInt - ((xn * 2 ^ f : Nat) : Int)) := Int.dvd_of_emod_eq_zero s1
    have d4 := Int.dvd_add (Int.dvd_trans d2 d3) d1
    rwa [Int.sub_add_cancel] at d4
  have s3 := c_orL' bu (px.toInt64 <<< (fi &&& 0x3f).toInt64) f (by omega) ((2 ^ f : Nat) : Int) rfl (Int.emod_eq_zero_of_dvd d) (by omega) (by rw [hb]; exact Int.ofNat_lt.mpr hB)
  rw [hb] at s3
  generalize xn * 2 ^ f = P at *
  omega
theorem own_key {fil : Int32} {z w0 w1 w2 n0 n1 n2 : Nat} {X0 X1 X2 W0 W1 W2 A at3 fi3 r t nn s v0 v1 v2 : Int32} {bu3 lo bo : Int64} {xs3 xs4 : List Int32}
    (hz : A.toInt = (z : Int)) (lz : z ≤ 1) (hw0 : W0.toInt = (w0 : Int)) (lw0 : w0 ≤ 24) (hw1 : W1.toInt = (w1 : Int)) (lw1 : w1 ≤ 24) (hw2 : W2.toInt = (w2 : Int)) (lw2 : w2 ≤ 24)
    (hn0 : X0.toInt = (n0 : Int)) (ln0 : n0 < 2 ^ w0) (hn1 : X1.toInt = (n1 : Int)) (ln1 : n1 < 2 ^ w1) (hn2 : X2.toInt = (n2 : Int)) (ln2 : n2 < 2 ^ w2)
    (I : own_I fil z (0 + n0 * 2 ^ 0 + n1 * 2 ^ (0 + w0) + n2 * 2 ^ (0 + w0 + w1)) (0 + w0 + w1 + w2) at3 bu3 fi3 xs3)
    (qe : own_eat at3 fi3 = r) (qx : xs4 = own_exs xs3 at3 bu3 fi3) (q161 : (W0 + W1) + W2 = t) (q171 : (t + (31 : Int32)) / (32 : Int32) = nn) (q178 : W0 + W1 = s)
    (q190 : (X0.toInt64) ||| ((X1.toInt64) <<< (W0 &&& 0x3f).toInt64) = lo) (q201 : lo ||| ((X2.toInt64) <<< (s &&& 0x3f).toInt64) = bo) (q206 : bo.toInt32 = v0)
    (q214 : ((bo.toUInt64 >>> ((32 : Int32) &&& 0x3f).toInt64.toUInt64).toInt64).toInt32 = v1)
    (qj : v2 = if (40 : Int32) < s then ((((X2.toInt64).toUInt64 >>> (((64 : Int32) - s) &&& 0x3f).toInt64.toUInt64).toInt64).toInt32) else (0 : Int32)) :
    r = A + nn ∧ ∀ ix : Int32, 0 ≤ ix.toInt → ix.toInt < 5 → ¬ (own_slot (xs4.getD ix.toNatClampNeg 0) ix A nn v0 v1 v2 fil = (0 : Int32)) := by
  simp only [Nat.zero_add, Nat.pow_zero, Nat.mul_one] at I
  have E := own_end I lz (by omega)
  obtain ⟨E1, E2⟩ := E
  rw [qe] at E1
  have a1 := c_iadd W0 W1
  rw [q178] at a1
  have r1 := rng32 s
  have hs : s.toInt = ((w0 + w1 : Nat) : Int) := by omega
  have a2 := c_iadd s W2
  rw [← q178, q161, q178] at a2
  have r2 := rng32 t
  have ht : t.toInt = ((w0 + w1 + w2 : Nat) : Int) := by omega
  have a3 := c_iadd t 31
  have e31 : (31 : Int32).toInt = 31 := rfl
  rw [e31] at a3
  have r3 := rng32 (t + 31)
  have a4 := (c_idiv (t + 31) 32 32 rfl (by decide)).1 (by omega)
  rw [q171] at a4
  have hnn : nn.toInt = (((w0 + w1 + w2 + 31) / 32 : Nat) : Int) := by omega
  have a5 := c_iadd A nn
  have r5 := rng32 (A + nn)
  refine ⟨Int32.toInt_inj.mp (by omega), fun ix h0 h5 => ?_⟩
  have hcl : ix.toNatClampNeg = ix.toInt.toNat := rfl
  obtain ⟨i, hi⟩ : ∃ i : Nat, ix.toInt = (i : Int) := ⟨ix.toInt.toNat, by omega⟩
  have hcl2 : ix.toNatClampNeg = i := by rw [hcl]; omega
  have got : xs4.getD ix.toNatClampNeg 0 = own_at fil z (n0 + n1 * 2 ^ w0 + n2 * 2 ^ (w0 + w1)) ((w0 + w1 + w2 + 31) / 32) i := by rw [hcl2, qx]; exact E2 i (by omega)
  -- the words
  have hlo : lo.toInt = ((n0 + n1 * 2 ^ w0 : Nat) : Int) := by
    have q := own_pbv (bu := X0.toInt64) (fi := W0) (px := X1) (by rw [c_i2l]; exact hn0) ln0 hw0 (by omega) hn1 ln1 lw1
    unfold own_pb at q
    rw [q190] at q; exact q
  have hL : n0 + n1 * 2 ^ w0 < 2 ^ (w0 + w1) := by
    have q : (n1 + 1) * 2 ^ w0 ≤ 2 ^ w1 * 2 ^ w0 := Nat.mul_le_mul_right _ ln1
    rw [Nat.add_mul, Nat.one_mul] at q
    rw [Nat.pow_add, Nat.mul_comm (2 ^ w0)]; omega
  have hbo := own_pbm hlo hL hs (by omega) hn2
  rw [q201] at hbo
  have hV2 : (n0 + n1 * 2 ^ w0 + n2 * 2 ^ (w0 + w1)) / 2 ^ 64 = n2 / 2 ^ (64 - (w0 + w1)) := by
    have e : 2 ^ 64 = 2 ^ (w0 + w1) * 2 ^ (64 - (w0 + w1)) := by rw [← Nat.pow_add]; congr 1; omega
    rw [e, ← Nat.div_div_eq_div_mul, Nat.add_mul_div_right _ _ (Nat.two_pow_pos _), Nat.div_eq_of_lt hL, Nat.zero_add]
  generalize hVV : n0 + n1 * 2 ^ w0 + n2 * 2 ^ (w0 + w1) = V at *
  have w_0 : own_word V 0 = v0 := by
    rw [← q206]
    symm
    apply own_w
    have e : V / 2 ^ (32 * 0) = V := by simp
    rw [e]; omega
  have w_1 : own_word V 1 = v1 := by
    rw [← q214]
    symm
    apply own_w
    rw [c_lushr bo 32 32 (by decide) (by decide)]
    have e : V / 2 ^ (32 * 1) = V / 4294967296 := rfl
    have e32 : ((2 ^ 32 : Nat) : Int) = 4294967296 := rfl
    rw [e, e32]
    have rb := rng64 bo
    omega
  have w_2 : 40 < w0 + w1 → own_word V 2 = v2 := by
    intro h40
    have e40 : (40 : Int32).toInt = 40 := rfl
    have hc : (40 : Int32) < s := by rw [Int32.lt_iff_toInt_lt, e40]; omega
    rw [qj, if_pos hc]
    symm
    apply own_w
    have e64 : (64 : Int32).toInt = 64 := rfl
    have b1 := c_isub (64 : Int32) s
    have rb := rng32 ((64 : Int32) - s)
    have hk : ((64 : Int32) - s).toInt = ((64 - (w0 + w1) : Nat) : Int) := by omega
    rw [c_lushr X2.toInt64 ((64 : Int32) - s) (64 - (w0 + w1)) (by rw [own_nat hk]; omega) (by omega), c_i2l, hn2]
    have e : V / 2 ^ (32 * 2) = n2 / 2 ^ (64 - (w0 + w1)) := hV2
    rw [e]
    have b2 : 2 ^ w2 ≤ 2 ^ 24 := Nat.pow_le_pow_right (by decide) lw2
    have e2 : ((n2 : Int) % 18446744073709551616) = (n2 : Int) := Int.emod_eq_of_lt (by omega) (by omega)
    rw [e2, ← Int.natCast_ediv]
    omega
  rw [got]
  unfold own_slot
  have d1 := c_isub ix A
  have rd := rng32 (ix - A)
  have hd : (ix - A).toInt = (i : Int) - (z : Int) := by omega
  have want : own_at fil z V ((w0 + w1 + w2 + 31) / 32) i = own_want ix A nn v0 v1 v2 fil := by
    unfold own_at own_want
    by_cases c1 : (ix - A) < 0
    · rw [if_pos c1]
      rw [Int32.lt_iff_toInt_lt, own_e0] at c1
      rw [if_neg (by omega)]
    · rw [if_neg c1]
      rw [Int32.lt_iff_toInt_lt, own_e0] at c1
      by_cases c2 : (ix - A) < nn
      · rw [if_pos c2]
        rw [Int32.lt_iff_toInt_lt] at c2
        rw [if_pos (by omega)]
        by_cases c3 : (ix - A) = 0
        · rw [if_pos c3, ← w_0]
          rw [c3, own_e0] at hd
          rw [show i - z = 0 by omega]
        · rw [if_neg c3]
          have c3' : (ix - A).toInt ≠ 0 := fun q => c3 (Int32.toInt_inj.mp (by rw [q]; rfl))
          by_cases c4 : (ix - A) = 1
          · rw [if_pos c4, ← w_1]
            rw [c4, own_e1] at hd
            rw [show i - z = 1 by omega]
          · rw [if_neg c4]
            have c4' : (ix - A).toInt ≠ 1 := fun q => c4 (Int32.toInt_inj.mp (by rw [q]; rfl))
            rw [← w_2 (by omega), show i - z = 2 by omega]
      · rw [if_neg c2]
        rw [Int32.lt_iff_toInt_lt] at c2
        rw [if_neg (by omega)]
  rw [if_pos want]
  decide
theorem own_pd0 : parseMethodDescriptor "()V" = some ⟨[], none⟩ := by decide +kernel
theorem own_pd1 : parseMethodDescriptor "([II)Lcom/example/firstlight/firstlight/BitWriter;" = some ⟨[(.array .int), .int], some (.object "com/example/firstlight/firstlight/BitWriter")⟩ := by decide +kernel
theorem own_pd2 : parseMethodDescriptor "(II)V" = some ⟨[.int, .int], none⟩ := by decide +kernel
theorem own_pd3 : parseMethodDescriptor "()I" = some ⟨[], some .int⟩ := by decide +kernel
theorem own_pd4 : parseMethodDescriptor "(IIIIIIII)Z" = some ⟨[.int, .int, .int, .int, .int, .int, .int, .int], some .boolean⟩ := by decide +kernel
theorem own_d1_0 : decode prog_8_method_1_code 0 = .ok (.aload_n 0, 1) := by decide +kernel
theorem own_d1_1 : decode prog_8_method_1_code 1 = .ok (.invokespecial 1, 3) := by decide +kernel
theorem own_d1_4 : decode prog_8_method_1_code 4 = .ok (.return_, 1) := by decide +kernel
abbrev own_room1 : Room := { frames := 1, cells := 0, slots := 0, locals := 12 }
theorem own_pn1 : plainName "com/example/firstlight/firstlight/BitWriter" = true := by first | (simp [plainName, overriddenIn]; done) | decide +kernel
theorem own_ef1 (m : MethodId) (a0 : Addr) : entryFrame m #[(.ref a0)] 1 = mkF m 0 #[.val (.ref a0)] [] := by first | (simp [entryFrame, mkF, argsToLocals, Value.category]; done) | rfl
def own_Q1 (Z : State) (a0 : Addr) (h0 : Heap) (n0 : Nat) (v : Option Value) (h : Heap) (L : List Loc) : Prop := v = none ∧ Fr n0 L ∧ h = h0
set_option maxRecDepth 65536 in
set_option maxHeartbeats 40000000 in
theorem own_rm1 (l : Launch) (Z : State) (a0 : Array Value) (hw : ∀ d ∈ tables_1, d.before a0 Z = true) (ws : List Jvm.Cond) (a0 : Addr) (h0 : Heap) (n0 : Nat)  :
    MetFree l (⟨"com/example/firstlight/firstlight/BitWriter", "<init>", "()V"⟩ : MethodName) (head1 (Jvm.Cond.code (⟨"com/example/firstlight/firstlight/BitWriter", "<init>", "()V"⟩ : MethodName) prog_8_method_1_code 1 none :: ws) (own_room1 : Room)) (fun a U => a = #[(.ref a0)] ∧ Z.Warmed39 U.vm ∧ U.heap = h0) (fun _ _ _ _ _ => True) (fun _ U o U' => ∃ v L, o = .returned v ∧ own_Q1 Z a0 h0 n0 v U'.heap L ∧ FrameEnd U o U' L (own_room1 : Room).cells (own_room1 : Room).slots) := by
  refine MetFree.of_bodySF (plainFor_of_name own_pn1) hisR ?_
  intro p e s m args below meth c s₁ Bd hml0 hP hK
  obtain ⟨rfl, hZ, hh⟩ := hP
  have hx := Bd.exec
  have hby := Bd.bytes
  have hml : c.maxLocals = 1 := hml0
  have hown : s.vm.findClass "com/example/firstlight/firstlight/BitWriter" = some m.cls := findClass_of_methodNamed Bd.named
  have hnm := (name_of_methodNamed Bd.named Bd.method).1
  have X0 : Stand p l e (own_room1 : Room) s m #[(.ref a0)] below meth c s₁ [] 0 0 := Stand.of_body Bd
  have e0 : s₁.heap = h0 := by rw [← hh, Bd.state]; rfl
  have N0 := Fr.nil n0
  refine own_out fun G hG => ?_
  rw [own_ef1 m a0]
  show own_Go p.tables e below G (s₁.setTop (mkF m 0 #[.val (.ref a0)] []))
  refine own_of (S' := s₁.setTop (mkF m 1 #[.val (.ref a0)] [(.ref a0)])) (fun t k => XS.aloadN X0.here hx rfl (hb hby own_d1_0) rfl rfl k) ?_
  obtain ⟨T1, X1, e1, st1⟩ := initO X0 hx hZ hown (hw _ (List.mem_of_getElem? (i := 7) rfl)) (hw _ (List.mem_of_getElem? (i := 8) rfl)) (hw _ (List.mem_of_getElem? (i := 9) rfl)) e0 (g := (mkF m 1 #[.val (.ref a0)] [(.ref a0)])) rfl (by rw [hml]; rfl) rfl (hb hby own_d1_1) (by decide) (W := 0) (by show 2 * 0 + _ ≤ _; exact Nat.le_of_eq rfl) (by decide)
  refine own_of (S' := T1.setTop (mkF m 4 #[.val (.ref a0)] [])) st1 ?_
  obtain ⟨fs, hr, hrun, hended, hW, hsame⟩ := X1.leave (v := none) (fun _ => rfl)
  refine ⟨_, _, X1.returnOut hx Bd.returns (hb hby own_d1_4) hr, hrun, hended, hG _ _ ⟨_, _, rfl, ?_, ⟨_, rfl⟩, hW, hsame.mono (by decide) (by decide)⟩⟩
  show own_Q1 Z a0 h0 n0 _ T1.heap _
  rw [e1]
  exact ⟨rfl, N0, rfl⟩
theorem own_d2_0 : decode prog_8_method_2_code 0 = .ok (.aload_n 0, 1) := by decide +kernel
theorem own_d2_1 : decode prog_8_method_2_code 1 = .ok (.aload_n 1, 1) := by decide +kernel
theorem own_d2_2 : decode prog_8_method_2_code 2 = .ok (.putfield 7, 3) := by decide +kernel
theorem own_d2_5 : decode prog_8_method_2_code 5 = .ok (.aload_n 0, 1) := by decide +kernel
theorem own_d2_6 : decode prog_8_method_2_code 6 = .ok (.iload_n 2, 1) := by decide +kernel
theorem own_d2_7 : decode prog_8_method_2_code 7 = .ok (.putfield 13, 3) := by decide +kernel
theorem own_d2_10 : decode prog_8_method_2_code 10 = .ok (.aload_n 0, 1) := by decide +kernel
theorem own_d2_11 : decode prog_8_method_2_code 11 = .ok (.lconst 0, 1) := by decide +kernel
theorem own_d2_12 : decode prog_8_method_2_code 12 = .ok (.putfield 17, 3) := by decide +kernel
theorem own_d2_15 : decode prog_8_method_2_code 15 = .ok (.aload_n 0, 1) := by decide +kernel
theorem own_d2_16 : decode prog_8_method_2_code 16 = .ok (.iconst 0, 1) := by decide +kernel
theorem own_d2_17 : decode prog_8_method_2_code 17 = .ok (.putfield 21, 3) := by decide +kernel
theorem own_d2_20 : decode prog_8_method_2_code 20 = .ok (.aload_n 0, 1) := by decide +kernel
theorem own_d2_21 : decode prog_8_method_2_code 21 = .ok (.areturn, 1) := by decide +kernel
abbrev own_room2 : Room := { frames := 0, cells := 0, slots := 0, locals := 0 }
theorem own_pn2 : plainName "com/example/firstlight/firstlight/BitWriter" = true := by first | (simp [plainName, overriddenIn]; done) | decide +kernel
theorem own_ef2 (m : MethodId) (a0 : Addr) (ar : Addr) (at_ : Int32) : entryFrame m #[(.ref a0), (.ref ar), (.int at_)] 3 = mkF m 0 #[.val (.ref a0), .val (.ref ar), .val (.int at_)] [] := by first | (simp [entryFrame, mkF, argsToLocals, Value.category]; done) | rfl
def own_Q2 (Z : State) (a0 : Addr) (ar : Addr) (at_ : Int32) (h0 : Heap) (n0 : Nat) (v : Option Value) (h : Heap) (L : List Loc) : Prop := v = some (.ref a0) ∧ Fr n0 L ∧ Keep h0 h [a0] ∧ Exa Z h a0 "com/example/firstlight/firstlight/BitWriter" ∧ Fld Z h a0 "com/example/firstlight/firstlight/BitWriter" "data" "[I" (.ref ar) ∧ Fld Z h a0 "com/example/firstlight/firstlight/BitWriter" "at" "I" (.int at_) ∧ Fld Z h a0 "com/example/firstlight/firstlight/BitWriter" "buffer" "J" (.long (0 : Int64)) ∧ Fld Z h a0 "com/example/firstlight/firstlight/BitWriter" "filled" "I" (.int (0 : Int32))
set_option maxRecDepth 65536 in
set_option maxHeartbeats 40000000 in
theorem own_rm2 (l : Launch) (Z : State) (a0 : Array Value) (hw : ∀ d ∈ tables_1, d.before a0 Z = true) (ws : List Jvm.Cond) (a0 : Addr) (ar : Addr) (at_ : Int32) (h0 : Heap) (n0 : Nat) (F0 : Exa Z h0 a0 "com/example/firstlight/firstlight/BitWriter") (F1 : Fld Z h0 a0 "com/example/firstlight/firstlight/BitWriter" "data" "[I" .null) (F2 : Fld Z h0 a0 "com/example/firstlight/firstlight/BitWriter" "at" "I" (.int (0 : Int32))) (F3 : Fld Z h0 a0 "com/example/firstlight/firstlight/BitWriter" "buffer" "J" (.long (0 : Int64))) (F4 : Fld Z h0 a0 "com/example/firstlight/firstlight/BitWriter" "filled" "I" (.int (0 : Int32))) (g_a0 : n0 ≤ a0) :
    MetFree l (⟨"com/example/firstlight/firstlight/BitWriter", "start", "([II)Lcom/example/firstlight/firstlight/BitWriter;"⟩ : MethodName) (head1 (Jvm.Cond.code (⟨"com/example/firstlight/firstlight/BitWriter", "start", "([II)Lcom/example/firstlight/firstlight/BitWriter;"⟩ : MethodName) prog_8_method_2_code 3 (some (.object "com/example/firstlight/firstlight/BitWriter")) :: ws) (own_room2 : Room)) (fun a U => a = #[(.ref a0), (.ref ar), (.int at_)] ∧ Z.Warmed39 U.vm ∧ U.heap = h0) (fun _ _ _ _ _ => True) (fun _ U o U' => ∃ v L, o = .returned v ∧ own_Q2 Z a0 ar at_ h0 n0 v U'.heap L ∧ FrameEnd U o U' L (own_room2 : Room).cells (own_room2 : Room).slots) := by
  refine MetFree.of_bodySF (plainFor_of_name own_pn2) hisR ?_
  intro p e s m args below meth c s₁ Bd hml0 hP hK
  obtain ⟨rfl, hZ, hh⟩ := hP
  have hx := Bd.exec
  have hby := Bd.bytes
  have hml : c.maxLocals = 3 := hml0
  have hown : s.vm.findClass "com/example/firstlight/firstlight/BitWriter" = some m.cls := findClass_of_methodNamed Bd.named
  have hnm := (name_of_methodNamed Bd.named Bd.method).1
  have X0 : Stand p l e (own_room2 : Room) s m #[(.ref a0), (.ref ar), (.int at_)] below meth c s₁ [] 0 0 := Stand.of_body Bd
  have e0 : s₁.heap = h0 := by rw [← hh, Bd.state]; rfl
  have N0 := Fr.nil n0
  have K0 := Keep.refl h0 [a0]
  refine own_out fun G hG => ?_
  rw [own_ef2 m a0 ar at_]
  show own_Go p.tables e below G (s₁.setTop (mkF m 0 #[.val (.ref a0), .val (.ref ar), .val (.int at_)] []))
  refine own_of (S' := s₁.setTop (mkF m 1 #[.val (.ref a0), .val (.ref ar), .val (.int at_)] [(.ref a0)])) (fun t k => XS.aloadN X0.here hx rfl (hb hby own_d2_0) rfl rfl k) ?_
  refine own_of (S' := s₁.setTop (mkF m 2 #[.val (.ref a0), .val (.ref ar), .val (.int at_)] [(.ref ar), (.ref a0)])) (fun t k => XS.aloadN X0.here hx rfl (hb hby own_d2_1) rfl rfl k) ?_
  obtain ⟨T2, h2, X2, e2, W2, st2⟩ := putF X0 hx hZ hown (host := "") (Or.inl (hw _ (List.mem_of_getElem? (i := 15) rfl))) Via.refl e0 F1 F0 (Or.inl (hw _ (List.mem_of_getElem? (i := 16) rfl))) (hw _ (List.mem_of_getElem? (i := 2) rfl)) (ty := (.array .int)) (by decide) rfl rfl (g := (mkF m 2 #[.val (.ref a0), .val (.ref ar), .val (.int at_)] [(.ref ar), (.ref a0)])) rfl rfl (hb hby own_d2_2)
  have f3 : Fld Z h2 a0 "com/example/firstlight/firstlight/BitWriter" "data" "[I" (.ref ar) := F1.same W2
  have f4 : Exa Z h2 a0 "com/example/firstlight/firstlight/BitWriter" := (F0.wr W2)
  have f5 : Fld Z h2 a0 "com/example/firstlight/firstlight/BitWriter" "at" "I" (.int (0 : Int32)) := (F2.other W2 (Or.inr (slot_ne (Or.inl (hw _ (List.mem_of_getElem? (i := 18) rfl))) (Or.inl (hw _ (List.mem_of_getElem? (i := 16) rfl))) (by decide) (t := .int) (t' := (.array .int)) (by decide) (by decide))))
  have f6 : Fld Z h2 a0 "com/example/firstlight/firstlight/BitWriter" "buffer" "J" (.long (0 : Int64)) := (F3.other W2 (Or.inr (slot_ne (Or.inl (hw _ (List.mem_of_getElem? (i := 20) rfl))) (Or.inl (hw _ (List.mem_of_getElem? (i := 16) rfl))) (by decide) (t := .long) (t' := (.array .int)) (by decide) (by decide))))
  have f7 : Fld Z h2 a0 "com/example/firstlight/firstlight/BitWriter" "filled" "I" (.int (0 : Int32)) := (F4.other W2 (Or.inr (slot_ne (Or.inl (hw _ (List.mem_of_getElem? (i := 22) rfl))) (Or.inl (hw _ (List.mem_of_getElem? (i := 16) rfl))) (by decide) (t := .int) (t' := (.array .int)) (by decide) (by decide))))
  have N2 := Fr.snoc X2 N0 g_a0
  have kk8 : Keep h0 h2 [a0] := K0.wr W2 (Or.inl (List.mem_of_getElem? (i := 0) rfl))
  refine own_of (S' := T2.setTop (mkF m 5 #[.val (.ref a0), .val (.ref ar), .val (.int at_)] [])) st2 ?_
  refine own_of (S' := T2.setTop (mkF m 6 #[.val (.ref a0), .val (.ref ar), .val (.int at_)] [(.ref a0)])) (fun t k => XS.aloadN X2.here hx rfl (hb hby own_d2_5) rfl rfl k) ?_
  refine own_of (S' := T2.setTop (mkF m 7 #[.val (.ref a0), .val (.ref ar), .val (.int at_)] [(.int at_), (.ref a0)])) (fun t k => XS.iloadN X2.here hx rfl (hb hby own_d2_6) rfl k) ?_
  obtain ⟨T9, h9, X9, e9, W9, st9⟩ := putF X2 hx hZ hown (host := "") (Or.inl (hw _ (List.mem_of_getElem? (i := 17) rfl))) Via.refl e2 f5 f4 (Or.inl (hw _ (List.mem_of_getElem? (i := 18) rfl))) (hw _ (List.mem_of_getElem? (i := 2) rfl)) (ty := .int) (by decide) rfl rfl (g := (mkF m 7 #[.val (.ref a0), .val (.ref ar), .val (.int at_)] [(.int at_), (.ref a0)])) rfl rfl (hb hby own_d2_7)
  have f10 : Fld Z h9 a0 "com/example/firstlight/firstlight/BitWriter" "at" "I" (.int at_) := f5.same W9
  have f11 : Exa Z h9 a0 "com/example/firstlight/firstlight/BitWriter" := (f4.wr W9)
  have f12 : Fld Z h9 a0 "com/example/firstlight/firstlight/BitWriter" "buffer" "J" (.long (0 : Int64)) := (f6.other W9 (Or.inr (slot_ne (Or.inl (hw _ (List.mem_of_getElem? (i := 20) rfl))) (Or.inl (hw _ (List.mem_of_getElem? (i := 18) rfl))) (by decide) (t := .long) (t' := .int) (by decide) (by decide))))
  have f13 : Fld Z h9 a0 "com/example/firstlight/firstlight/BitWriter" "filled" "I" (.int (0 : Int32)) := (f7.other W9 (Or.inr (slot_ne (Or.inl (hw _ (List.mem_of_getElem? (i := 22) rfl))) (Or.inl (hw _ (List.mem_of_getElem? (i := 18) rfl))) (by decide) (t := .int) (t' := .int) (by decide) (by decide))))
  have f14 : Fld Z h9 a0 "com/example/firstlight/firstlight/BitWriter" "data" "[I" (.ref ar) := (f3.other W9 (Or.inr (slot_ne (Or.inl (hw _ (List.mem_of_getElem? (i := 16) rfl))) (Or.inl (hw _ (List.mem_of_getElem? (i := 18) rfl))) (by decide) (t := (.array .int)) (t' := .int) (by decide) (by decide))))
  have N9 := Fr.snoc X9 N2 g_a0
  have kk15 : Keep h0 h9 [a0] := kk8.wr W9 (Or.inl (List.mem_of_getElem? (i := 0) rfl))
  refine own_of (S' := T9.setTop (mkF m 10 #[.val (.ref a0), .val (.ref ar), .val (.int at_)] [])) st9 ?_
  refine own_of (S' := T9.setTop (mkF m 11 #[.val (.ref a0), .val (.ref ar), .val (.int at_)] [(.ref a0)])) (fun t k => XS.aloadN X9.here hx rfl (hb hby own_d2_10) rfl rfl k) ?_
  refine own_of (S' := T9.setTop (mkF m 12 #[.val (.ref a0), .val (.ref ar), .val (.int at_)] [(.long (0 : Int64)), (.ref a0)])) (fun t k => XS.lconst X9.here hx rfl (hb hby own_d2_11) k) ?_
  obtain ⟨T16, h16, X16, e16, W16, st16⟩ := putF X9 hx hZ hown (host := "") (Or.inl (hw _ (List.mem_of_getElem? (i := 19) rfl))) Via.refl e9 f12 f11 (Or.inl (hw _ (List.mem_of_getElem? (i := 20) rfl))) (hw _ (List.mem_of_getElem? (i := 2) rfl)) (ty := .long) (by decide) rfl rfl (g := (mkF m 12 #[.val (.ref a0), .val (.ref ar), .val (.int at_)] [(.long (0 : Int64)), (.ref a0)])) rfl rfl (hb hby own_d2_12)
  have f17 : Fld Z h16 a0 "com/example/firstlight/firstlight/BitWriter" "buffer" "J" (.long (0 : Int64)) := f12.same W16
  have f18 : Exa Z h16 a0 "com/example/firstlight/firstlight/BitWriter" := (f11.wr W16)
  have f19 : Fld Z h16 a0 "com/example/firstlight/firstlight/BitWriter" "filled" "I" (.int (0 : Int32)) := (f13.other W16 (Or.inr (slot_ne (Or.inl (hw _ (List.mem_of_getElem? (i := 22) rfl))) (Or.inl (hw _ (List.mem_of_getElem? (i := 20) rfl))) (by decide) (t := .int) (t' := .long) (by decide) (by decide))))
  have f20 : Fld Z h16 a0 "com/example/firstlight/firstlight/BitWriter" "data" "[I" (.ref ar) := (f14.other W16 (Or.inr (slot_ne (Or.inl (hw _ (List.mem_of_getElem? (i := 16) rfl))) (Or.inl (hw _ (List.mem_of_getElem? (i := 20) rfl))) (by decide) (t := (.array .int)) (t' := .long) (by decide) (by decide))))
  have f21 : Fld Z h16 a0 "com/example/firstlight/firstlight/BitWriter" "at" "I" (.int at_) := (f10.other W16 (Or.inr (slot_ne (Or.inl (hw _ (List.mem_of_getElem? (i := 18) rfl))) (Or.inl (hw _ (List.mem_of_getElem? (i := 20) rfl))) (by decide) (t := .int) (t' := .long) (by decide) (by decide))))
  have N16 := Fr.snoc X16 N9 g_a0
  have kk22 : Keep h0 h16 [a0] := kk15.wr W16 (Or.inl (List.mem_of_getElem? (i := 0) rfl))
  refine own_of (S' := T16.setTop (mkF m 15 #[.val (.ref a0), .val (.ref ar), .val (.int at_)] [])) st16 ?_
  refine own_of (S' := T16.setTop (mkF m 16 #[.val (.ref a0), .val (.ref ar), .val (.int at_)] [(.ref a0)])) (fun t k => XS.aloadN X16.here hx rfl (hb hby own_d2_15) rfl rfl k) ?_
  refine own_of (S' := T16.setTop (mkF m 17 #[.val (.ref a0), .val (.ref ar), .val (.int at_)] [(.int (0 : Int32)), (.ref a0)])) (fun t k => XS.iconst X16.here hx rfl (hb hby own_d2_16) k) ?_
  obtain ⟨T23, h23, X23, e23, W23, st23⟩ := putF X16 hx hZ hown (host := "") (Or.inl (hw _ (List.mem_of_getElem? (i := 21) rfl))) Via.refl e16 f19 f18 (Or.inl (hw _ (List.mem_of_getElem? (i := 22) rfl))) (hw _ (List.mem_of_getElem? (i := 2) rfl)) (ty := .int) (by decide) rfl rfl (g := (mkF m 17 #[.val (.ref a0), .val (.ref ar), .val (.int at_)] [(.int (0 : Int32)), (.ref a0)])) rfl rfl (hb hby own_d2_17)
  have f24 : Fld Z h23 a0 "com/example/firstlight/firstlight/BitWriter" "filled" "I" (.int (0 : Int32)) := f19.same W23
  have f25 : Exa Z h23 a0 "com/example/firstlight/firstlight/BitWriter" := (f18.wr W23)
  have f26 : Fld Z h23 a0 "com/example/firstlight/firstlight/BitWriter" "data" "[I" (.ref ar) := (f20.other W23 (Or.inr (slot_ne (Or.inl (hw _ (List.mem_of_getElem? (i := 16) rfl))) (Or.inl (hw _ (List.mem_of_getElem? (i := 22) rfl))) (by decide) (t := (.array .int)) (t' := .int) (by decide) (by decide))))
  have f27 : Fld Z h23 a0 "com/example/firstlight/firstlight/BitWriter" "at" "I" (.int at_) := (f21.other W23 (Or.inr (slot_ne (Or.inl (hw _ (List.mem_of_getElem? (i := 18) rfl))) (Or.inl (hw _ (List.mem_of_getElem? (i := 22) rfl))) (by decide) (t := .int) (t' := .int) (by decide) (by decide))))
  have f28 : Fld Z h23 a0 "com/example/firstlight/firstlight/BitWriter" "buffer" "J" (.long (0 : Int64)) := (f17.other W23 (Or.inr (slot_ne (Or.inl (hw _ (List.mem_of_getElem? (i := 20) rfl))) (Or.inl (hw _ (List.mem_of_getElem? (i := 22) rfl))) (by decide) (t := .long) (t' := .int) (by decide) (by decide))))
  have N23 := Fr.snoc X23 N16 g_a0
  have kk29 : Keep h0 h23 [a0] := kk22.wr W23 (Or.inl (List.mem_of_getElem? (i := 0) rfl))
  refine own_of (S' := T23.setTop (mkF m 20 #[.val (.ref a0), .val (.ref ar), .val (.int at_)] [])) st23 ?_
  refine own_of (S' := T23.setTop (mkF m 21 #[.val (.ref a0), .val (.ref ar), .val (.int at_)] [(.ref a0)])) (fun t k => XS.aloadN X23.here hx rfl (hb hby own_d2_20) rfl rfl k) ?_
  obtain ⟨fs, hr, hrun, hended, hW, hsame⟩ := X23.leave (v := some (.ref a0)) (fun h => by rw [Bd.returns] at h; cases h)
  refine ⟨_, _, own_retA X23 hx Bd.returns (hb hby own_d2_21) hr, hrun, hended, hG _ _ ⟨_, _, rfl, ?_, ⟨_, rfl⟩, hW, hsame.mono (by decide) (by decide)⟩⟩
  show own_Q2 Z a0 ar at_ h0 n0 _ T23.heap _
  rw [e23]
  exact ⟨rfl, N23, kk29, f25, f26, f27, f28, f24⟩
theorem own_d3_0 : decode prog_8_method_3_code 0 = .ok (.aload_n 0, 1) := by decide +kernel
theorem own_d3_1 : decode prog_8_method_3_code 1 = .ok (.dup, 1) := by decide +kernel
theorem own_d3_2 : decode prog_8_method_3_code 2 = .ok (.getfield 17, 3) := by decide +kernel
theorem own_d3_5 : decode prog_8_method_3_code 5 = .ok (.iload_n 1, 1) := by decide +kernel
theorem own_d3_6 : decode prog_8_method_3_code 6 = .ok (.i2l, 1) := by decide +kernel
theorem own_d3_7 : decode prog_8_method_3_code 7 = .ok (.aload_n 0, 1) := by decide +kernel
theorem own_d3_8 : decode prog_8_method_3_code 8 = .ok (.getfield 21, 3) := by decide +kernel
theorem own_d3_11 : decode prog_8_method_3_code 11 = .ok (.lshl, 1) := by decide +kernel
theorem own_d3_12 : decode prog_8_method_3_code 12 = .ok (.lor, 1) := by decide +kernel
theorem own_d3_13 : decode prog_8_method_3_code 13 = .ok (.putfield 17, 3) := by decide +kernel
theorem own_d3_16 : decode prog_8_method_3_code 16 = .ok (.aload_n 0, 1) := by decide +kernel
theorem own_d3_17 : decode prog_8_method_3_code 17 = .ok (.dup, 1) := by decide +kernel
theorem own_d3_18 : decode prog_8_method_3_code 18 = .ok (.getfield 21, 3) := by decide +kernel
theorem own_d3_21 : decode prog_8_method_3_code 21 = .ok (.iload_n 2, 1) := by decide +kernel
theorem own_d3_22 : decode prog_8_method_3_code 22 = .ok (.iadd, 1) := by decide +kernel
theorem own_d3_23 : decode prog_8_method_3_code 23 = .ok (.putfield 21, 3) := by decide +kernel
theorem own_d3_26 : decode prog_8_method_3_code 26 = .ok (.aload_n 0, 1) := by decide +kernel
theorem own_d3_27 : decode prog_8_method_3_code 27 = .ok (.getfield 21, 3) := by decide +kernel
theorem own_d3_30 : decode prog_8_method_3_code 30 = .ok (.bipush 32, 2) := by decide +kernel
theorem own_d3_32 : decode prog_8_method_3_code 32 = .ok (.if_icmp .lt 46, 3) := by decide +kernel
theorem own_d3_35 : decode prog_8_method_3_code 35 = .ok (.aload_n 0, 1) := by decide +kernel
theorem own_d3_36 : decode prog_8_method_3_code 36 = .ok (.getfield 7, 3) := by decide +kernel
theorem own_d3_39 : decode prog_8_method_3_code 39 = .ok (.aload_n 0, 1) := by decide +kernel
theorem own_d3_40 : decode prog_8_method_3_code 40 = .ok (.dup, 1) := by decide +kernel
theorem own_d3_41 : decode prog_8_method_3_code 41 = .ok (.getfield 13, 3) := by decide +kernel
theorem own_d3_44 : decode prog_8_method_3_code 44 = .ok (.dup_x1, 1) := by decide +kernel
theorem own_d3_45 : decode prog_8_method_3_code 45 = .ok (.iconst 1, 1) := by decide +kernel
theorem own_d3_46 : decode prog_8_method_3_code 46 = .ok (.iadd, 1) := by decide +kernel
theorem own_d3_47 : decode prog_8_method_3_code 47 = .ok (.putfield 13, 3) := by decide +kernel
theorem own_d3_50 : decode prog_8_method_3_code 50 = .ok (.aload_n 0, 1) := by decide +kernel
theorem own_d3_51 : decode prog_8_method_3_code 51 = .ok (.getfield 17, 3) := by decide +kernel
theorem own_d3_54 : decode prog_8_method_3_code 54 = .ok (.l2i, 1) := by decide +kernel
theorem own_d3_55 : decode prog_8_method_3_code 55 = .ok (.iastore, 1) := by decide +kernel
theorem own_d3_56 : decode prog_8_method_3_code 56 = .ok (.aload_n 0, 1) := by decide +kernel
theorem own_d3_57 : decode prog_8_method_3_code 57 = .ok (.dup, 1) := by decide +kernel
theorem own_d3_58 : decode prog_8_method_3_code 58 = .ok (.getfield 17, 3) := by decide +kernel
theorem own_d3_61 : decode prog_8_method_3_code 61 = .ok (.bipush 32, 2) := by decide +kernel
theorem own_d3_63 : decode prog_8_method_3_code 63 = .ok (.lushr, 1) := by decide +kernel
theorem own_d3_64 : decode prog_8_method_3_code 64 = .ok (.putfield 17, 3) := by decide +kernel
theorem own_d3_67 : decode prog_8_method_3_code 67 = .ok (.aload_n 0, 1) := by decide +kernel
theorem own_d3_68 : decode prog_8_method_3_code 68 = .ok (.dup, 1) := by decide +kernel
theorem own_d3_69 : decode prog_8_method_3_code 69 = .ok (.getfield 21, 3) := by decide +kernel
theorem own_d3_72 : decode prog_8_method_3_code 72 = .ok (.bipush 32, 2) := by decide +kernel
theorem own_d3_74 : decode prog_8_method_3_code 74 = .ok (.isub, 1) := by decide +kernel
theorem own_d3_75 : decode prog_8_method_3_code 75 = .ok (.putfield 21, 3) := by decide +kernel
theorem own_d3_78 : decode prog_8_method_3_code 78 = .ok (.return_, 1) := by decide +kernel
abbrev own_room3 : Room := { frames := 0, cells := 0, slots := 0, locals := 0 }
theorem own_pn3 : plainName "com/example/firstlight/firstlight/BitWriter" = true := by first | (simp [plainName, overriddenIn]; done) | decide +kernel
theorem own_ef3 (m : MethodId) (a0 : Addr) (px : Int32) (pw : Int32) : entryFrame m #[(.ref a0), (.int px), (.int pw)] 3 = mkF m 0 #[.val (.ref a0), .val (.int px), .val (.int pw)] [] := by first | (simp [entryFrame, mkF, argsToLocals, Value.category]; done) | rfl
def own_Q3 (Z : State) (a0 : Addr) (px : Int32) (pw : Int32) (da : Addr) (ka : ClassId) (at_ : Int32) (bu : Int64) (fi : Int32) (xs : List Int32) (h0 : Heap) (n0 : Nat) (v : Option Value) (h : Heap) (L : List Loc) : Prop := v = none ∧ Fr n0 L ∧ Keep h0 h [a0, da] ∧ Exa Z h a0 "com/example/firstlight/firstlight/BitWriter" ∧ Fld Z h a0 "com/example/firstlight/firstlight/BitWriter" "data" "[I" (.ref da) ∧ Fld Z h a0 "com/example/firstlight/firstlight/BitWriter" "at" "I" (.int (own_pat at_ fi pw)) ∧ Fld Z h a0 "com/example/firstlight/firstlight/BitWriter" "buffer" "J" (.long (own_pbu bu fi px pw)) ∧ Fld Z h a0 "com/example/firstlight/firstlight/BitWriter" "filled" "I" (.int (own_pfi fi pw)) ∧ own_AI Z h da ka .int (5 : Int32) (own_pxs xs at_ bu fi px pw)
set_option maxRecDepth 65536 in
set_option maxHeartbeats 40000000 in
theorem own_rm3 (l : Launch) (Z : State) (a0 : Array Value) (hw : ∀ d ∈ tables_1, d.before a0 Z = true) (ws : List Jvm.Cond) (a0 : Addr) (px : Int32) (pw : Int32) (da : Addr) (ka : ClassId) (at_ : Int32) (bu : Int64) (fi : Int32) (xs : List Int32) (h0 : Heap) (n0 : Nat) (F0 : Exa Z h0 a0 "com/example/firstlight/firstlight/BitWriter") (F1 : Fld Z h0 a0 "com/example/firstlight/firstlight/BitWriter" "data" "[I" (.ref da)) (F2 : Fld Z h0 a0 "com/example/firstlight/firstlight/BitWriter" "at" "I" (.int at_)) (F3 : Fld Z h0 a0 "com/example/firstlight/firstlight/BitWriter" "buffer" "J" (.long bu)) (F4 : Fld Z h0 a0 "com/example/firstlight/firstlight/BitWriter" "filled" "I" (.int fi)) (F5 : own_AI Z h0 da ka .int (5 : Int32) xs) (g_a0 : n0 ≤ a0) (g_da : n0 ≤ da) (hne : a0 ≠ da) (hin : ¬ (fi + pw) < (32 : Int32) → ¬ at_ < (0 : Int32) ∧ at_ < (5 : Int32)) :
    MetFree l (⟨"com/example/firstlight/firstlight/BitWriter", "put", "(II)V"⟩ : MethodName) (head1 (Jvm.Cond.code (⟨"com/example/firstlight/firstlight/BitWriter", "put", "(II)V"⟩ : MethodName) prog_8_method_3_code 3 none :: ws) (own_room3 : Room)) (fun a U => a = #[(.ref a0), (.int px), (.int pw)] ∧ Z.Warmed39 U.vm ∧ U.heap = h0) (fun _ _ _ _ _ => True) (fun _ U o U' => ∃ v L, o = .returned v ∧ own_Q3 Z a0 px pw da ka at_ bu fi xs h0 n0 v U'.heap L ∧ FrameEnd U o U' L (own_room3 : Room).cells (own_room3 : Room).slots) := by
  refine MetFree.of_bodySF (plainFor_of_name own_pn3) hisR ?_
  intro p e s m args below meth c s₁ Bd hml0 hP hK
  obtain ⟨rfl, hZ, hh⟩ := hP
  have hx := Bd.exec
  have hby := Bd.bytes
  have hml : c.maxLocals = 3 := hml0
  have hown : s.vm.findClass "com/example/firstlight/firstlight/BitWriter" = some m.cls := findClass_of_methodNamed Bd.named
  have hnm := (name_of_methodNamed Bd.named Bd.method).1
  have X0 : Stand p l e (own_room3 : Room) s m #[(.ref a0), (.int px), (.int pw)] below meth c s₁ [] 0 0 := Stand.of_body Bd
  have e0 : s₁.heap = h0 := by rw [← hh, Bd.state]; rfl
  have N0 := Fr.nil n0
  have K0 := Keep.refl h0 [a0, da]
  refine own_out fun G hG => ?_
  rw [own_ef3 m a0 px pw]
  show own_Go p.tables e below G (s₁.setTop (mkF m 0 #[.val (.ref a0), .val (.int px), .val (.int pw)] []))
  refine own_of (S' := s₁.setTop (mkF m 1 #[.val (.ref a0), .val (.int px), .val (.int pw)] [(.ref a0)])) (fun t k => XS.aloadN X0.here hx rfl (hb hby own_d3_0) rfl rfl k) ?_
  refine own_of (S' := s₁.setTop (mkF m 2 #[.val (.ref a0), .val (.int px), .val (.int pw)] [(.ref a0), (.ref a0)])) (fun t k => XS.dup X0.here hx rfl (hb hby own_d3_1) rfl rfl k) ?_
  obtain ⟨T30, X30, e30, st30⟩ := getF X0 hx hZ hown (host := "") (Or.inl (hw _ (List.mem_of_getElem? (i := 19) rfl))) Via.refl e0 F3 (g := (mkF m 2 #[.val (.ref a0), .val (.int px), .val (.int pw)] [(.ref a0), (.ref a0)])) rfl rfl (hb hby own_d3_2)
  refine own_of (S' := T30.setTop (mkF m 5 #[.val (.ref a0), .val (.int px), .val (.int pw)] [(.long bu), (.ref a0)])) st30 ?_
  refine own_of (S' := T30.setTop (mkF m 6 #[.val (.ref a0), .val (.int px), .val (.int pw)] [(.int px), (.long bu), (.ref a0)])) (fun t k => XS.iloadN X30.here hx rfl (hb hby own_d3_5) rfl k) ?_
  refine own_of (S' := T30.setTop (mkF m 7 #[.val (.ref a0), .val (.int px), .val (.int pw)] [(.long (px.toInt64)), (.long bu), (.ref a0)])) (fun t k => XS.i2l X30.here hx rfl (hb hby own_d3_6) rfl k) ?_
  refine own_of (S' := T30.setTop (mkF m 8 #[.val (.ref a0), .val (.int px), .val (.int pw)] [(.ref a0), (.long (px.toInt64)), (.long bu), (.ref a0)])) (fun t k => XS.aloadN X30.here hx rfl (hb hby own_d3_7) rfl rfl k) ?_
  obtain ⟨T31, X31, e31, st31⟩ := getF X30 hx hZ hown (host := "") (Or.inl (hw _ (List.mem_of_getElem? (i := 21) rfl))) Via.refl e30 F4 (g := (mkF m 8 #[.val (.ref a0), .val (.int px), .val (.int pw)] [(.ref a0), (.long (px.toInt64)), (.long bu), (.ref a0)])) rfl rfl (hb hby own_d3_8)
  refine own_of (S' := T31.setTop (mkF m 11 #[.val (.ref a0), .val (.int px), .val (.int pw)] [(.int fi), (.long (px.toInt64)), (.long bu), (.ref a0)])) st31 ?_
  refine own_of (S' := T31.setTop (mkF m 12 #[.val (.ref a0), .val (.int px), .val (.int pw)] [(.long ((px.toInt64) <<< (fi &&& 0x3f).toInt64)), (.long bu), (.ref a0)])) (fun t k => XS.lshl X31.here hx rfl (hb hby own_d3_11) rfl k) ?_
  refine own_of (S' := T31.setTop (mkF m 13 #[.val (.ref a0), .val (.int px), .val (.int pw)] [(.long (bu ||| ((px.toInt64) <<< (fi &&& 0x3f).toInt64))), (.ref a0)])) (fun t k => XS.lor X31.here hx rfl (hb hby own_d3_12) rfl k) ?_
  obtain ⟨T32, h32, X32, e32, W32, st32⟩ := putF X31 hx hZ hown (host := "") (Or.inl (hw _ (List.mem_of_getElem? (i := 19) rfl))) Via.refl e31 F3 F0 (Or.inl (hw _ (List.mem_of_getElem? (i := 20) rfl))) (hw _ (List.mem_of_getElem? (i := 2) rfl)) (ty := .long) (by decide) rfl rfl (g := (mkF m 13 #[.val (.ref a0), .val (.int px), .val (.int pw)] [(.long (bu ||| ((px.toInt64) <<< (fi &&& 0x3f).toInt64))), (.ref a0)])) rfl rfl (hb hby own_d3_13)
  have f33 : Fld Z h32 a0 "com/example/firstlight/firstlight/BitWriter" "buffer" "J" (.long (bu ||| ((px.toInt64) <<< (fi &&& 0x3f).toInt64))) := F3.same W32
  have f34 : Exa Z h32 a0 "com/example/firstlight/firstlight/BitWriter" := (F0.wr W32)
  have f35 : Fld Z h32 a0 "com/example/firstlight/firstlight/BitWriter" "data" "[I" (.ref da) := (F1.other W32 (Or.inr (slot_ne (Or.inl (hw _ (List.mem_of_getElem? (i := 16) rfl))) (Or.inl (hw _ (List.mem_of_getElem? (i := 20) rfl))) (by decide) (t := (.array .int)) (t' := .long) (by decide) (by decide))))
  have f36 : Fld Z h32 a0 "com/example/firstlight/firstlight/BitWriter" "at" "I" (.int at_) := (F2.other W32 (Or.inr (slot_ne (Or.inl (hw _ (List.mem_of_getElem? (i := 18) rfl))) (Or.inl (hw _ (List.mem_of_getElem? (i := 20) rfl))) (by decide) (t := .int) (t' := .long) (by decide) (by decide))))
  have f37 : Fld Z h32 a0 "com/example/firstlight/firstlight/BitWriter" "filled" "I" (.int fi) := (F4.other W32 (Or.inr (slot_ne (Or.inl (hw _ (List.mem_of_getElem? (i := 22) rfl))) (Or.inl (hw _ (List.mem_of_getElem? (i := 20) rfl))) (by decide) (t := .int) (t' := .long) (by decide) (by decide))))
  have f38 : own_AI Z h32 da ka .int (5 : Int32) xs := (F5.other W32 (Ne.symm hne))
  have N32 := Fr.snoc X32 N0 g_a0
  have kk39 : Keep h0 h32 [a0, da] := K0.wr W32 (Or.inl (List.mem_of_getElem? (i := 0) rfl))
  refine own_of (S' := T32.setTop (mkF m 16 #[.val (.ref a0), .val (.int px), .val (.int pw)] [])) st32 ?_
  refine own_of (S' := T32.setTop (mkF m 17 #[.val (.ref a0), .val (.int px), .val (.int pw)] [(.ref a0)])) (fun t k => XS.aloadN X32.here hx rfl (hb hby own_d3_16) rfl rfl k) ?_
  refine own_of (S' := T32.setTop (mkF m 18 #[.val (.ref a0), .val (.int px), .val (.int pw)] [(.ref a0), (.ref a0)])) (fun t k => XS.dup X32.here hx rfl (hb hby own_d3_17) rfl rfl k) ?_
  obtain ⟨T40, X40, e40, st40⟩ := getF X32 hx hZ hown (host := "") (Or.inl (hw _ (List.mem_of_getElem? (i := 21) rfl))) Via.refl e32 f37 (g := (mkF m 18 #[.val (.ref a0), .val (.int px), .val (.int pw)] [(.ref a0), (.ref a0)])) rfl rfl (hb hby own_d3_18)
  refine own_of (S' := T40.setTop (mkF m 21 #[.val (.ref a0), .val (.int px), .val (.int pw)] [(.int fi), (.ref a0)])) st40 ?_
  refine own_of (S' := T40.setTop (mkF m 22 #[.val (.ref a0), .val (.int px), .val (.int pw)] [(.int pw), (.int fi), (.ref a0)])) (fun t k => XS.iloadN X40.here hx rfl (hb hby own_d3_21) rfl k) ?_
  refine own_of (S' := T40.setTop (mkF m 23 #[.val (.ref a0), .val (.int px), .val (.int pw)] [(.int (fi + pw)), (.ref a0)])) (fun t k => XS.iadd X40.here hx rfl (hb hby own_d3_22) rfl k) ?_
  obtain ⟨T41, h41, X41, e41, W41, st41⟩ := putF X40 hx hZ hown (host := "") (Or.inl (hw _ (List.mem_of_getElem? (i := 21) rfl))) Via.refl e40 f37 f34 (Or.inl (hw _ (List.mem_of_getElem? (i := 22) rfl))) (hw _ (List.mem_of_getElem? (i := 2) rfl)) (ty := .int) (by decide) rfl rfl (g := (mkF m 23 #[.val (.ref a0), .val (.int px), .val (.int pw)] [(.int (fi + pw)), (.ref a0)])) rfl rfl (hb hby own_d3_23)
  have f42 : Fld Z h41 a0 "com/example/firstlight/firstlight/BitWriter" "filled" "I" (.int (fi + pw)) := f37.same W41
  have f43 : Exa Z h41 a0 "com/example/firstlight/firstlight/BitWriter" := (f34.wr W41)
  have f44 : Fld Z h41 a0 "com/example/firstlight/firstlight/BitWriter" "data" "[I" (.ref da) := (f35.other W41 (Or.inr (slot_ne (Or.inl (hw _ (List.mem_of_getElem? (i := 16) rfl))) (Or.inl (hw _ (List.mem_of_getElem? (i := 22) rfl))) (by decide) (t := (.array .int)) (t' := .int) (by decide) (by decide))))
  have f45 : Fld Z h41 a0 "com/example/firstlight/firstlight/BitWriter" "at" "I" (.int at_) := (f36.other W41 (Or.inr (slot_ne (Or.inl (hw _ (List.mem_of_getElem? (i := 18) rfl))) (Or.inl (hw _ (List.mem_of_getElem? (i := 22) rfl))) (by decide) (t := .int) (t' := .int) (by decide) (by decide))))
  have f46 : own_AI Z h41 da ka .int (5 : Int32) xs := (f38.other W41 (Ne.symm hne))
  have f47 : Fld Z h41 a0 "com/example/firstlight/firstlight/BitWriter" "buffer" "J" (.long (bu ||| ((px.toInt64) <<< (fi &&& 0x3f).toInt64))) := (f33.other W41 (Or.inr (slot_ne (Or.inl (hw _ (List.mem_of_getElem? (i := 20) rfl))) (Or.inl (hw _ (List.mem_of_getElem? (i := 22) rfl))) (by decide) (t := .long) (t' := .int) (by decide) (by decide))))
  have N41 := Fr.snoc X41 N32 g_a0
  have kk48 : Keep h0 h41 [a0, da] := kk39.wr W41 (Or.inl (List.mem_of_getElem? (i := 0) rfl))
  refine own_of (S' := T41.setTop (mkF m 26 #[.val (.ref a0), .val (.int px), .val (.int pw)] [])) st41 ?_
  refine own_of (S' := T41.setTop (mkF m 27 #[.val (.ref a0), .val (.int px), .val (.int pw)] [(.ref a0)])) (fun t k => XS.aloadN X41.here hx rfl (hb hby own_d3_26) rfl rfl k) ?_
  obtain ⟨T49, X49, e49, st49⟩ := getF X41 hx hZ hown (host := "") (Or.inl (hw _ (List.mem_of_getElem? (i := 21) rfl))) Via.refl e41 f42 (g := (mkF m 27 #[.val (.ref a0), .val (.int px), .val (.int pw)] [(.ref a0)])) rfl rfl (hb hby own_d3_27)
  refine own_of (S' := T49.setTop (mkF m 30 #[.val (.ref a0), .val (.int px), .val (.int pw)] [(.int (fi + pw))])) st49 ?_
  refine own_of (S' := T49.setTop (mkF m 32 #[.val (.ref a0), .val (.int px), .val (.int pw)] [(.int (32 : Int32)), (.int (fi + pw))])) (fun t k => XS.bipush X49.here hx rfl (hb hby own_d3_30) k) ?_
  by_cases hc32 : (fi + pw) < (32 : Int32)
  · refine own_of (S' := T49.setTop (mkF m 78 #[.val (.ref a0), .val (.int px), .val (.int pw)] [])) (fun t k => XS.icmpYes X49.here hx rfl (pc0 := 32) (pc' := 78) rfl (hb hby own_d3_32) rfl (tlt hc32).1 (by decide) (by decide) k) ?_
    obtain ⟨fs, hr, hrun, hended, hW, hsame⟩ := X49.leave (v := none) (fun _ => rfl)
    refine ⟨_, _, X49.returnOut hx Bd.returns (hb hby own_d3_78) hr, hrun, hended, hG _ _ ⟨_, _, rfl, ?_, ⟨_, rfl⟩, hW, hsame.mono (by decide) (by decide)⟩⟩
    show own_Q3 Z a0 px pw da ka at_ bu fi xs h0 n0 _ T49.heap _
    rw [e49]
    have qq51 : at_ = (own_pat at_ fi pw) := by first | (rw [own_pat, if_pos hc32]; done) | (rw [own_pat, if_pos hc32]; rfl)
    have qq52 : Fld Z h41 a0 "com/example/firstlight/firstlight/BitWriter" "at" "I" (.int (own_pat at_ fi pw)) := by rw [← qq51]; exact f45
    have qq53 : (bu ||| ((px.toInt64) <<< (fi &&& 0x3f).toInt64)) = (own_pbu bu fi px pw) := by first | (rw [own_pbu, if_pos hc32]; done) | (rw [own_pbu, if_pos hc32]; rfl)
    have qq54 : Fld Z h41 a0 "com/example/firstlight/firstlight/BitWriter" "buffer" "J" (.long (own_pbu bu fi px pw)) := by rw [← qq53]; exact f47
    have qq55 : (fi + pw) = (own_pfi fi pw) := by first | (rw [own_pfi, if_pos hc32]; done) | (rw [own_pfi, if_pos hc32]; rfl)
    have qq56 : Fld Z h41 a0 "com/example/firstlight/firstlight/BitWriter" "filled" "I" (.int (own_pfi fi pw)) := by rw [← qq55]; exact f42
    have qq57 : xs = (own_pxs xs at_ bu fi px pw) := by first | (rw [own_pxs, if_pos hc32]; done) | (rw [own_pxs, if_pos hc32]; rfl)
    have qq58 : own_AI Z h41 da ka .int (5 : Int32) (own_pxs xs at_ bu fi px pw) := by rw [← qq57]; exact f46
    exact ⟨rfl, N41, kk48, f43, f44, qq52, qq54, qq56, qq58⟩
  · refine own_of (S' := T49.setTop (mkF m 35 #[.val (.ref a0), .val (.int px), .val (.int pw)] [])) (fun t k => XS.icmpNo X49.here hx rfl (hb hby own_d3_32) rfl (flt hc32).1 k) ?_
    refine own_of (S' := T49.setTop (mkF m 36 #[.val (.ref a0), .val (.int px), .val (.int pw)] [(.ref a0)])) (fun t k => XS.aloadN X49.here hx rfl (hb hby own_d3_35) rfl rfl k) ?_
    obtain ⟨T59, X59, e59, st59⟩ := getF X49 hx hZ hown (host := "") (Or.inl (hw _ (List.mem_of_getElem? (i := 15) rfl))) Via.refl e49 f44 (g := (mkF m 36 #[.val (.ref a0), .val (.int px), .val (.int pw)] [(.ref a0)])) rfl rfl (hb hby own_d3_36)
    refine own_of (S' := T59.setTop (mkF m 39 #[.val (.ref a0), .val (.int px), .val (.int pw)] [(.ref da)])) st59 ?_
    refine own_of (S' := T59.setTop (mkF m 40 #[.val (.ref a0), .val (.int px), .val (.int pw)] [(.ref a0), (.ref da)])) (fun t k => XS.aloadN X59.here hx rfl (hb hby own_d3_39) rfl rfl k) ?_
    refine own_of (S' := T59.setTop (mkF m 41 #[.val (.ref a0), .val (.int px), .val (.int pw)] [(.ref a0), (.ref a0), (.ref da)])) (fun t k => XS.dup X59.here hx rfl (hb hby own_d3_40) rfl rfl k) ?_
    obtain ⟨T60, X60, e60, st60⟩ := getF X59 hx hZ hown (host := "") (Or.inl (hw _ (List.mem_of_getElem? (i := 17) rfl))) Via.refl e59 f45 (g := (mkF m 41 #[.val (.ref a0), .val (.int px), .val (.int pw)] [(.ref a0), (.ref a0), (.ref da)])) rfl rfl (hb hby own_d3_41)
    refine own_of (S' := T60.setTop (mkF m 44 #[.val (.ref a0), .val (.int px), .val (.int pw)] [(.int at_), (.ref a0), (.ref da)])) st60 ?_
    refine own_of (S' := T60.setTop (mkF m 45 #[.val (.ref a0), .val (.int px), .val (.int pw)] [(.int at_), (.ref a0), (.int at_), (.ref da)])) (fun t k => XS.dupX1 X60.here hx rfl (hb hby own_d3_44) rfl rfl rfl k) ?_
    refine own_of (S' := T60.setTop (mkF m 46 #[.val (.ref a0), .val (.int px), .val (.int pw)] [(.int (1 : Int32)), (.int at_), (.ref a0), (.int at_), (.ref da)])) (fun t k => XS.iconst X60.here hx rfl (hb hby own_d3_45) k) ?_
    refine own_of (S' := T60.setTop (mkF m 47 #[.val (.ref a0), .val (.int px), .val (.int pw)] [(.int (at_ + (1 : Int32))), (.ref a0), (.int at_), (.ref da)])) (fun t k => XS.iadd X60.here hx rfl (hb hby own_d3_46) rfl k) ?_
    obtain ⟨T61, h61, X61, e61, W61, st61⟩ := putF X60 hx hZ hown (host := "") (Or.inl (hw _ (List.mem_of_getElem? (i := 17) rfl))) Via.refl e60 f45 f43 (Or.inl (hw _ (List.mem_of_getElem? (i := 18) rfl))) (hw _ (List.mem_of_getElem? (i := 2) rfl)) (ty := .int) (by decide) rfl rfl (g := (mkF m 47 #[.val (.ref a0), .val (.int px), .val (.int pw)] [(.int (at_ + (1 : Int32))), (.ref a0), (.int at_), (.ref da)])) rfl rfl (hb hby own_d3_47)
    have f62 : Fld Z h61 a0 "com/example/firstlight/firstlight/BitWriter" "at" "I" (.int (at_ + (1 : Int32))) := f45.same W61
    have f63 : Exa Z h61 a0 "com/example/firstlight/firstlight/BitWriter" := (f43.wr W61)
    have f64 : Fld Z h61 a0 "com/example/firstlight/firstlight/BitWriter" "data" "[I" (.ref da) := (f44.other W61 (Or.inr (slot_ne (Or.inl (hw _ (List.mem_of_getElem? (i := 16) rfl))) (Or.inl (hw _ (List.mem_of_getElem? (i := 18) rfl))) (by decide) (t := (.array .int)) (t' := .int) (by decide) (by decide))))
    have f65 : own_AI Z h61 da ka .int (5 : Int32) xs := (f46.other W61 (Ne.symm hne))
    have f66 : Fld Z h61 a0 "com/example/firstlight/firstlight/BitWriter" "buffer" "J" (.long (bu ||| ((px.toInt64) <<< (fi &&& 0x3f).toInt64))) := (f47.other W61 (Or.inr (slot_ne (Or.inl (hw _ (List.mem_of_getElem? (i := 20) rfl))) (Or.inl (hw _ (List.mem_of_getElem? (i := 18) rfl))) (by decide) (t := .long) (t' := .int) (by decide) (by decide))))
    have f67 : Fld Z h61 a0 "com/example/firstlight/firstlight/BitWriter" "filled" "I" (.int (fi + pw)) := (f42.other W61 (Or.inr (slot_ne (Or.inl (hw _ (List.mem_of_getElem? (i := 22) rfl))) (Or.inl (hw _ (List.mem_of_getElem? (i := 18) rfl))) (by decide) (t := .int) (t' := .int) (by decide) (by decide))))
    have N61 := Fr.snoc X61 N41 g_a0
    have kk68 : Keep h0 h61 [a0, da] := kk48.wr W61 (Or.inl (List.mem_of_getElem? (i := 0) rfl))
    refine own_of (S' := T61.setTop (mkF m 50 #[.val (.ref a0), .val (.int px), .val (.int pw)] [(.int at_), (.ref da)])) st61 ?_
    refine own_of (S' := T61.setTop (mkF m 51 #[.val (.ref a0), .val (.int px), .val (.int pw)] [(.ref a0), (.int at_), (.ref da)])) (fun t k => XS.aloadN X61.here hx rfl (hb hby own_d3_50) rfl rfl k) ?_
    obtain ⟨T69, X69, e69, st69⟩ := getF X61 hx hZ hown (host := "") (Or.inl (hw _ (List.mem_of_getElem? (i := 19) rfl))) Via.refl e61 f66 (g := (mkF m 51 #[.val (.ref a0), .val (.int px), .val (.int pw)] [(.ref a0), (.int at_), (.ref da)])) rfl rfl (hb hby own_d3_51)
    refine own_of (S' := T69.setTop (mkF m 54 #[.val (.ref a0), .val (.int px), .val (.int pw)] [(.long (bu ||| ((px.toInt64) <<< (fi &&& 0x3f).toInt64))), (.int at_), (.ref da)])) st69 ?_
    refine own_of (S' := T69.setTop (mkF m 55 #[.val (.ref a0), .val (.int px), .val (.int pw)] [(.int ((bu ||| ((px.toInt64) <<< (fi &&& 0x3f).toInt64)).toInt32)), (.int at_), (.ref da)])) (fun t k => XS.l2i X69.here hx rfl (hb hby own_d3_54) rfl k) ?_
    obtain ⟨T70, h70, X70, e70, W70, V70, st70⟩ := own_stI X69 hx hZ e69 f65 (j := at_) (hin hc32) (g := (mkF m 55 #[.val (.ref a0), .val (.int px), .val (.int pw)] [(.int ((bu ||| ((px.toInt64) <<< (fi &&& 0x3f).toInt64)).toInt32)), (.int at_), (.ref da)])) rfl rfl (hb hby own_d3_55)
    have f71 : Exa Z h70 a0 "com/example/firstlight/firstlight/BitWriter" := (f63.wr W70)
    have f72 : Fld Z h70 a0 "com/example/firstlight/firstlight/BitWriter" "data" "[I" (.ref da) := (f64.other W70 (Or.inl hne))
    have f73 : Fld Z h70 a0 "com/example/firstlight/firstlight/BitWriter" "buffer" "J" (.long (bu ||| ((px.toInt64) <<< (fi &&& 0x3f).toInt64))) := (f66.other W70 (Or.inl hne))
    have f74 : Fld Z h70 a0 "com/example/firstlight/firstlight/BitWriter" "filled" "I" (.int (fi + pw)) := (f67.other W70 (Or.inl hne))
    have f75 : Fld Z h70 a0 "com/example/firstlight/firstlight/BitWriter" "at" "I" (.int (at_ + (1 : Int32))) := (f62.other W70 (Or.inl hne))
    have f76 : own_AI Z h70 da ka .int (5 : Int32) (List.set xs (at_).toNatClampNeg ((bu ||| ((px.toInt64) <<< (fi &&& 0x3f).toInt64)).toInt32)) := V70
    have N70 := Fr.snoc X70 N61 g_da
    have kk77 : Keep h0 h70 [a0, da] := kk68.wr W70 (Or.inl (List.mem_of_getElem? (i := 1) rfl))
    refine own_of (S' := T70.setTop (mkF m 56 #[.val (.ref a0), .val (.int px), .val (.int pw)] [])) st70 ?_
    refine own_of (S' := T70.setTop (mkF m 57 #[.val (.ref a0), .val (.int px), .val (.int pw)] [(.ref a0)])) (fun t k => XS.aloadN X70.here hx rfl (hb hby own_d3_56) rfl rfl k) ?_
    refine own_of (S' := T70.setTop (mkF m 58 #[.val (.ref a0), .val (.int px), .val (.int pw)] [(.ref a0), (.ref a0)])) (fun t k => XS.dup X70.here hx rfl (hb hby own_d3_57) rfl rfl k) ?_
    obtain ⟨T78, X78, e78, st78⟩ := getF X70 hx hZ hown (host := "") (Or.inl (hw _ (List.mem_of_getElem? (i := 19) rfl))) Via.refl e70 f73 (g := (mkF m 58 #[.val (.ref a0), .val (.int px), .val (.int pw)] [(.ref a0), (.ref a0)])) rfl rfl (hb hby own_d3_58)
    refine own_of (S' := T78.setTop (mkF m 61 #[.val (.ref a0), .val (.int px), .val (.int pw)] [(.long (bu ||| ((px.toInt64) <<< (fi &&& 0x3f).toInt64))), (.ref a0)])) st78 ?_
    refine own_of (S' := T78.setTop (mkF m 63 #[.val (.ref a0), .val (.int px), .val (.int pw)] [(.int (32 : Int32)), (.long (bu ||| ((px.toInt64) <<< (fi &&& 0x3f).toInt64))), (.ref a0)])) (fun t k => XS.bipush X78.here hx rfl (hb hby own_d3_61) k) ?_
    refine own_of (S' := T78.setTop (mkF m 64 #[.val (.ref a0), .val (.int px), .val (.int pw)] [(.long (((bu ||| ((px.toInt64) <<< (fi &&& 0x3f).toInt64)).toUInt64 >>> ((32 : Int32) &&& 0x3f).toInt64.toUInt64).toInt64)), (.ref a0)])) (fun t k => XS.lushr X78.here hx rfl (hb hby own_d3_63) rfl k) ?_
    obtain ⟨T79, h79, X79, e79, W79, st79⟩ := putF X78 hx hZ hown (host := "") (Or.inl (hw _ (List.mem_of_getElem? (i := 19) rfl))) Via.refl e78 f73 f71 (Or.inl (hw _ (List.mem_of_getElem? (i := 20) rfl))) (hw _ (List.mem_of_getElem? (i := 2) rfl)) (ty := .long) (by decide) rfl rfl (g := (mkF m 64 #[.val (.ref a0), .val (.int px), .val (.int pw)] [(.long (((bu ||| ((px.toInt64) <<< (fi &&& 0x3f).toInt64)).toUInt64 >>> ((32 : Int32) &&& 0x3f).toInt64.toUInt64).toInt64)), (.ref a0)])) rfl rfl (hb hby own_d3_64)
    have f80 : Fld Z h79 a0 "com/example/firstlight/firstlight/BitWriter" "buffer" "J" (.long (((bu ||| ((px.toInt64) <<< (fi &&& 0x3f).toInt64)).toUInt64 >>> ((32 : Int32) &&& 0x3f).toInt64.toUInt64).toInt64)) := f73.same W79
    have f81 : Exa Z h79 a0 "com/example/firstlight/firstlight/BitWriter" := (f71.wr W79)
    have f82 : Fld Z h79 a0 "com/example/firstlight/firstlight/BitWriter" "data" "[I" (.ref da) := (f72.other W79 (Or.inr (slot_ne (Or.inl (hw _ (List.mem_of_getElem? (i := 16) rfl))) (Or.inl (hw _ (List.mem_of_getElem? (i := 20) rfl))) (by decide) (t := (.array .int)) (t' := .long) (by decide) (by decide))))
    have f83 : Fld Z h79 a0 "com/example/firstlight/firstlight/BitWriter" "filled" "I" (.int (fi + pw)) := (f74.other W79 (Or.inr (slot_ne (Or.inl (hw _ (List.mem_of_getElem? (i := 22) rfl))) (Or.inl (hw _ (List.mem_of_getElem? (i := 20) rfl))) (by decide) (t := .int) (t' := .long) (by decide) (by decide))))
    have f84 : Fld Z h79 a0 "com/example/firstlight/firstlight/BitWriter" "at" "I" (.int (at_ + (1 : Int32))) := (f75.other W79 (Or.inr (slot_ne (Or.inl (hw _ (List.mem_of_getElem? (i := 18) rfl))) (Or.inl (hw _ (List.mem_of_getElem? (i := 20) rfl))) (by decide) (t := .int) (t' := .long) (by decide) (by decide))))
    have f85 : own_AI Z h79 da ka .int (5 : Int32) (List.set xs (at_).toNatClampNeg ((bu ||| ((px.toInt64) <<< (fi &&& 0x3f).toInt64)).toInt32)) := (f76.other W79 (Ne.symm hne))
    have N79 := Fr.snoc X79 N70 g_a0
    have kk86 : Keep h0 h79 [a0, da] := kk77.wr W79 (Or.inl (List.mem_of_getElem? (i := 0) rfl))
    refine own_of (S' := T79.setTop (mkF m 67 #[.val (.ref a0), .val (.int px), .val (.int pw)] [])) st79 ?_
    refine own_of (S' := T79.setTop (mkF m 68 #[.val (.ref a0), .val (.int px), .val (.int pw)] [(.ref a0)])) (fun t k => XS.aloadN X79.here hx rfl (hb hby own_d3_67) rfl rfl k) ?_
    refine own_of (S' := T79.setTop (mkF m 69 #[.val (.ref a0), .val (.int px), .val (.int pw)] [(.ref a0), (.ref a0)])) (fun t k => XS.dup X79.here hx rfl (hb hby own_d3_68) rfl rfl k) ?_
    obtain ⟨T87, X87, e87, st87⟩ := getF X79 hx hZ hown (host := "") (Or.inl (hw _ (List.mem_of_getElem? (i := 21) rfl))) Via.refl e79 f83 (g := (mkF m 69 #[.val (.ref a0), .val (.int px), .val (.int pw)] [(.ref a0), (.ref a0)])) rfl rfl (hb hby own_d3_69)
    refine own_of (S' := T87.setTop (mkF m 72 #[.val (.ref a0), .val (.int px), .val (.int pw)] [(.int (fi + pw)), (.ref a0)])) st87 ?_
    refine own_of (S' := T87.setTop (mkF m 74 #[.val (.ref a0), .val (.int px), .val (.int pw)] [(.int (32 : Int32)), (.int (fi + pw)), (.ref a0)])) (fun t k => XS.bipush X87.here hx rfl (hb hby own_d3_72) k) ?_
    refine own_of (S' := T87.setTop (mkF m 75 #[.val (.ref a0), .val (.int px), .val (.int pw)] [(.int ((fi + pw) - (32 : Int32))), (.ref a0)])) (fun t k => XS.isub X87.here hx rfl (hb hby own_d3_74) rfl k) ?_
    obtain ⟨T88, h88, X88, e88, W88, st88⟩ := putF X87 hx hZ hown (host := "") (Or.inl (hw _ (List.mem_of_getElem? (i := 21) rfl))) Via.refl e87 f83 f81 (Or.inl (hw _ (List.mem_of_getElem? (i := 22) rfl))) (hw _ (List.mem_of_getElem? (i := 2) rfl)) (ty := .int) (by decide) rfl rfl (g := (mkF m 75 #[.val (.ref a0), .val (.int px), .val (.int pw)] [(.int ((fi + pw) - (32 : Int32))), (.ref a0)])) rfl rfl (hb hby own_d3_75)
    have f89 : Fld Z h88 a0 "com/example/firstlight/firstlight/BitWriter" "filled" "I" (.int ((fi + pw) - (32 : Int32))) := f83.same W88
    have f90 : Exa Z h88 a0 "com/example/firstlight/firstlight/BitWriter" := (f81.wr W88)
    have f91 : Fld Z h88 a0 "com/example/firstlight/firstlight/BitWriter" "data" "[I" (.ref da) := (f82.other W88 (Or.inr (slot_ne (Or.inl (hw _ (List.mem_of_getElem? (i := 16) rfl))) (Or.inl (hw _ (List.mem_of_getElem? (i := 22) rfl))) (by decide) (t := (.array .int)) (t' := .int) (by decide) (by decide))))
    have f92 : Fld Z h88 a0 "com/example/firstlight/firstlight/BitWriter" "at" "I" (.int (at_ + (1 : Int32))) := (f84.other W88 (Or.inr (slot_ne (Or.inl (hw _ (List.mem_of_getElem? (i := 18) rfl))) (Or.inl (hw _ (List.mem_of_getElem? (i := 22) rfl))) (by decide) (t := .int) (t' := .int) (by decide) (by decide))))
    have f93 : own_AI Z h88 da ka .int (5 : Int32) (List.set xs (at_).toNatClampNeg ((bu ||| ((px.toInt64) <<< (fi &&& 0x3f).toInt64)).toInt32)) := (f85.other W88 (Ne.symm hne))
    have f94 : Fld Z h88 a0 "com/example/firstlight/firstlight/BitWriter" "buffer" "J" (.long (((bu ||| ((px.toInt64) <<< (fi &&& 0x3f).toInt64)).toUInt64 >>> ((32 : Int32) &&& 0x3f).toInt64.toUInt64).toInt64)) := (f80.other W88 (Or.inr (slot_ne (Or.inl (hw _ (List.mem_of_getElem? (i := 20) rfl))) (Or.inl (hw _ (List.mem_of_getElem? (i := 22) rfl))) (by decide) (t := .long) (t' := .int) (by decide) (by decide))))
    have N88 := Fr.snoc X88 N79 g_a0
    have kk95 : Keep h0 h88 [a0, da] := kk86.wr W88 (Or.inl (List.mem_of_getElem? (i := 0) rfl))
    refine own_of (S' := T88.setTop (mkF m 78 #[.val (.ref a0), .val (.int px), .val (.int pw)] [])) st88 ?_
    obtain ⟨fs, hr, hrun, hended, hW, hsame⟩ := X88.leave (v := none) (fun _ => rfl)
    refine ⟨_, _, X88.returnOut hx Bd.returns (hb hby own_d3_78) hr, hrun, hended, hG _ _ ⟨_, _, rfl, ?_, ⟨_, rfl⟩, hW, hsame.mono (by decide) (by decide)⟩⟩
    show own_Q3 Z a0 px pw da ka at_ bu fi xs h0 n0 _ T88.heap _
    rw [e88]
    have qq96 : (at_ + (1 : Int32)) = (own_pat at_ fi pw) := by first | (rw [own_pat, if_neg hc32]; done) | (rw [own_pat, if_neg hc32]; rfl)
    have qq97 : Fld Z h88 a0 "com/example/firstlight/firstlight/BitWriter" "at" "I" (.int (own_pat at_ fi pw)) := by rw [← qq96]; exact f92
    have qq98 : (((bu ||| ((px.toInt64) <<< (fi &&& 0x3f).toInt64)).toUInt64 >>> ((32 : Int32) &&& 0x3f).toInt64.toUInt64).toInt64) = (own_pbu bu fi px pw) := by first | (rw [own_pbu, if_neg hc32]; done) | (rw [own_pbu, if_neg hc32]; rfl)
    have qq99 : Fld Z h88 a0 "com/example/firstlight/firstlight/BitWriter" "buffer" "J" (.long (own_pbu bu fi px pw)) := by rw [← qq98]; exact f94
    have qq100 : ((fi + pw) - (32 : Int32)) = (own_pfi fi pw) := by first | (rw [own_pfi, if_neg hc32]; done) | (rw [own_pfi, if_neg hc32]; rfl)
    have qq101 : Fld Z h88 a0 "com/example/firstlight/firstlight/BitWriter" "filled" "I" (.int (own_pfi fi pw)) := by rw [← qq100]; exact f89
    have qq102 : (List.set xs (at_).toNatClampNeg ((bu ||| ((px.toInt64) <<< (fi &&& 0x3f).toInt64)).toInt32)) = (own_pxs xs at_ bu fi px pw) := by first | (rw [own_pxs, if_neg hc32]; done) | (rw [own_pxs, if_neg hc32]; rfl)
    have qq103 : own_AI Z h88 da ka .int (5 : Int32) (own_pxs xs at_ bu fi px pw) := by rw [← qq102]; exact f93
    exact ⟨rfl, N88, kk95, f90, f91, qq97, qq99, qq101, qq103⟩
theorem own_d4_0 : decode prog_8_method_4_code 0 = .ok (.aload_n 0, 1) := by decide +kernel
theorem own_d4_1 : decode prog_8_method_4_code 1 = .ok (.getfield 21, 3) := by decide +kernel
theorem own_d4_4 : decode prog_8_method_4_code 4 = .ok (.ifCond .le 24, 3) := by decide +kernel
theorem own_d4_7 : decode prog_8_method_4_code 7 = .ok (.aload_n 0, 1) := by decide +kernel
theorem own_d4_8 : decode prog_8_method_4_code 8 = .ok (.getfield 7, 3) := by decide +kernel
theorem own_d4_11 : decode prog_8_method_4_code 11 = .ok (.aload_n 0, 1) := by decide +kernel
theorem own_d4_12 : decode prog_8_method_4_code 12 = .ok (.dup, 1) := by decide +kernel
theorem own_d4_13 : decode prog_8_method_4_code 13 = .ok (.getfield 13, 3) := by decide +kernel
theorem own_d4_16 : decode prog_8_method_4_code 16 = .ok (.dup_x1, 1) := by decide +kernel
theorem own_d4_17 : decode prog_8_method_4_code 17 = .ok (.iconst 1, 1) := by decide +kernel
theorem own_d4_18 : decode prog_8_method_4_code 18 = .ok (.iadd, 1) := by decide +kernel
theorem own_d4_19 : decode prog_8_method_4_code 19 = .ok (.putfield 13, 3) := by decide +kernel
theorem own_d4_22 : decode prog_8_method_4_code 22 = .ok (.aload_n 0, 1) := by decide +kernel
theorem own_d4_23 : decode prog_8_method_4_code 23 = .ok (.getfield 17, 3) := by decide +kernel
theorem own_d4_26 : decode prog_8_method_4_code 26 = .ok (.l2i, 1) := by decide +kernel
theorem own_d4_27 : decode prog_8_method_4_code 27 = .ok (.iastore, 1) := by decide +kernel
theorem own_d4_28 : decode prog_8_method_4_code 28 = .ok (.aload_n 0, 1) := by decide +kernel
theorem own_d4_29 : decode prog_8_method_4_code 29 = .ok (.aconst_null, 1) := by decide +kernel
theorem own_d4_30 : decode prog_8_method_4_code 30 = .ok (.putfield 7, 3) := by decide +kernel
theorem own_d4_33 : decode prog_8_method_4_code 33 = .ok (.aload_n 0, 1) := by decide +kernel
theorem own_d4_34 : decode prog_8_method_4_code 34 = .ok (.getfield 13, 3) := by decide +kernel
theorem own_d4_37 : decode prog_8_method_4_code 37 = .ok (.ireturn, 1) := by decide +kernel
abbrev own_room4 : Room := { frames := 0, cells := 0, slots := 0, locals := 0 }
theorem own_pn4 : plainName "com/example/firstlight/firstlight/BitWriter" = true := by first | (simp [plainName, overriddenIn]; done) | decide +kernel
theorem own_ef4 (m : MethodId) (a0 : Addr) : entryFrame m #[(.ref a0)] 1 = mkF m 0 #[.val (.ref a0)] [] := by first | (simp [entryFrame, mkF, argsToLocals, Value.category]; done) | rfl
def own_Q4 (Z : State) (a0 : Addr) (da : Addr) (ka : ClassId) (at_ : Int32) (bu : Int64) (fi : Int32) (xs : List Int32) (h0 : Heap) (n0 : Nat) (v : Option Value) (h : Heap) (L : List Loc) : Prop := v = some (.int (own_eat at_ fi)) ∧ Fr n0 L ∧ Keep h0 h [a0, da] ∧ own_AI Z h da ka .int (5 : Int32) (own_exs xs at_ bu fi)
set_option maxRecDepth 65536 in
set_option maxHeartbeats 40000000 in
theorem own_rm4 (l : Launch) (Z : State) (a0 : Array Value) (hw : ∀ d ∈ tables_1, d.before a0 Z = true) (ws : List Jvm.Cond) (a0 : Addr) (da : Addr) (ka : ClassId) (at_ : Int32) (bu : Int64) (fi : Int32) (xs : List Int32) (h0 : Heap) (n0 : Nat) (F0 : Exa Z h0 a0 "com/example/firstlight/firstlight/BitWriter") (F1 : Fld Z h0 a0 "com/example/firstlight/firstlight/BitWriter" "data" "[I" (.ref da)) (F2 : Fld Z h0 a0 "com/example/firstlight/firstlight/BitWriter" "at" "I" (.int at_)) (F3 : Fld Z h0 a0 "com/example/firstlight/firstlight/BitWriter" "buffer" "J" (.long bu)) (F4 : Fld Z h0 a0 "com/example/firstlight/firstlight/BitWriter" "filled" "I" (.int fi)) (F5 : own_AI Z h0 da ka .int (5 : Int32) xs) (g_a0 : n0 ≤ a0) (g_da : n0 ≤ da) (hne : a0 ≠ da) (hin : (0 : Int32) < fi → ¬ at_ < (0 : Int32) ∧ at_ < (5 : Int32)) :
    MetFree l (⟨"com/example/firstlight/firstlight/BitWriter", "end", "()I"⟩ : MethodName) (head1 (Jvm.Cond.code (⟨"com/example/firstlight/firstlight/BitWriter", "end", "()I"⟩ : MethodName) prog_8_method_4_code 1 (some .int) :: ws) (own_room4 : Room)) (fun a U => a = #[(.ref a0)] ∧ Z.Warmed39 U.vm ∧ U.heap = h0) (fun _ _ _ _ _ => True) (fun _ U o U' => ∃ v L, o = .returned v ∧ own_Q4 Z a0 da ka at_ bu fi xs h0 n0 v U'.heap L ∧ FrameEnd U o U' L (own_room4 : Room).cells (own_room4 : Room).slots) := by
  refine MetFree.of_bodySF (plainFor_of_name own_pn4) hisR ?_
  intro p e s m args below meth c s₁ Bd hml0 hP hK
  obtain ⟨rfl, hZ, hh⟩ := hP
  have hx := Bd.exec
  have hby := Bd.bytes
  have hml : c.maxLocals = 1 := hml0
  have hown : s.vm.findClass "com/example/firstlight/firstlight/BitWriter" = some m.cls := findClass_of_methodNamed Bd.named
  have hnm := (name_of_methodNamed Bd.named Bd.method).1
  have X0 : Stand p l e (own_room4 : Room) s m #[(.ref a0)] below meth c s₁ [] 0 0 := Stand.of_body Bd
  have e0 : s₁.heap = h0 := by rw [← hh, Bd.state]; rfl
  have N0 := Fr.nil n0
  have K0 := Keep.refl h0 [a0, da]
  refine own_out fun G hG => ?_
  rw [own_ef4 m a0]
  show own_Go p.tables e below G (s₁.setTop (mkF m 0 #[.val (.ref a0)] []))
  refine own_of (S' := s₁.setTop (mkF m 1 #[.val (.ref a0)] [(.ref a0)])) (fun t k => XS.aloadN X0.here hx rfl (hb hby own_d4_0) rfl rfl k) ?_
  obtain ⟨T104, X104, e104, st104⟩ := getF X0 hx hZ hown (host := "") (Or.inl (hw _ (List.mem_of_getElem? (i := 21) rfl))) Via.refl e0 F4 (g := (mkF m 1 #[.val (.ref a0)] [(.ref a0)])) rfl rfl (hb hby own_d4_1)
  refine own_of (S' := T104.setTop (mkF m 4 #[.val (.ref a0)] [(.int fi)])) st104 ?_
  by_cases hc4 : (0 : Int32) < fi
  · refine own_of (S' := T104.setTop (mkF m 7 #[.val (.ref a0)] [])) (fun t k => XS.ifNo X104.here hx rfl (hb hby own_d4_4) rfl ((if0 _ _).trans (tlt hc4).2.2.2) k) ?_
    refine own_of (S' := T104.setTop (mkF m 8 #[.val (.ref a0)] [(.ref a0)])) (fun t k => XS.aloadN X104.here hx rfl (hb hby own_d4_7) rfl rfl k) ?_
    obtain ⟨T106, X106, e106, st106⟩ := getF X104 hx hZ hown (host := "") (Or.inl (hw _ (List.mem_of_getElem? (i := 15) rfl))) Via.refl e104 F1 (g := (mkF m 8 #[.val (.ref a0)] [(.ref a0)])) rfl rfl (hb hby own_d4_8)
    refine own_of (S' := T106.setTop (mkF m 11 #[.val (.ref a0)] [(.ref da)])) st106 ?_
    refine own_of (S' := T106.setTop (mkF m 12 #[.val (.ref a0)] [(.ref a0), (.ref da)])) (fun t k => XS.aloadN X106.here hx rfl (hb hby own_d4_11) rfl rfl k) ?_
    refine own_of (S' := T106.setTop (mkF m 13 #[.val (.ref a0)] [(.ref a0), (.ref a0), (.ref da)])) (fun t k => XS.dup X106.here hx rfl (hb hby own_d4_12) rfl rfl k) ?_
    obtain ⟨T107, X107, e107, st107⟩ := getF X106 hx hZ hown (host := "") (Or.inl (hw _ (List.mem_of_getElem? (i := 17) rfl))) Via.refl e106 F2 (g := (mkF m 13 #[.val (.ref a0)] [(.ref a0), (.ref a0), (.ref da)])) rfl rfl (hb hby own_d4_13)
    refine own_of (S' := T107.setTop (mkF m 16 #[.val (.ref a0)] [(.int at_), (.ref a0), (.ref da)])) st107 ?_
    refine own_of (S' := T107.setTop (mkF m 17 #[.val (.ref a0)] [(.int at_), (.ref a0), (.int at_), (.ref da)])) (fun t k => XS.dupX1 X107.here hx rfl (hb hby own_d4_16) rfl rfl rfl k) ?_
    refine own_of (S' := T107.setTop (mkF m 18 #[.val (.ref a0)] [(.int (1 : Int32)), (.int at_), (.ref a0), (.int at_), (.ref da)])) (fun t k => XS.iconst X107.here hx rfl (hb hby own_d4_17) k) ?_
    refine own_of (S' := T107.setTop (mkF m 19 #[.val (.ref a0)] [(.int (at_ + (1 : Int32))), (.ref a0), (.int at_), (.ref da)])) (fun t k => XS.iadd X107.here hx rfl (hb hby own_d4_18) rfl k) ?_
    obtain ⟨T108, h108, X108, e108, W108, st108⟩ := putF X107 hx hZ hown (host := "") (Or.inl (hw _ (List.mem_of_getElem? (i := 17) rfl))) Via.refl e107 F2 F0 (Or.inl (hw _ (List.mem_of_getElem? (i := 18) rfl))) (hw _ (List.mem_of_getElem? (i := 2) rfl)) (ty := .int) (by decide) rfl rfl (g := (mkF m 19 #[.val (.ref a0)] [(.int (at_ + (1 : Int32))), (.ref a0), (.int at_), (.ref da)])) rfl rfl (hb hby own_d4_19)
    have f109 : Fld Z h108 a0 "com/example/firstlight/firstlight/BitWriter" "at" "I" (.int (at_ + (1 : Int32))) := F2.same W108
    have f110 : Exa Z h108 a0 "com/example/firstlight/firstlight/BitWriter" := (F0.wr W108)
    have f111 : Fld Z h108 a0 "com/example/firstlight/firstlight/BitWriter" "data" "[I" (.ref da) := (F1.other W108 (Or.inr (slot_ne (Or.inl (hw _ (List.mem_of_getElem? (i := 16) rfl))) (Or.inl (hw _ (List.mem_of_getElem? (i := 18) rfl))) (by decide) (t := (.array .int)) (t' := .int) (by decide) (by decide))))
    have f112 : Fld Z h108 a0 "com/example/firstlight/firstlight/BitWriter" "buffer" "J" (.long bu) := (F3.other W108 (Or.inr (slot_ne (Or.inl (hw _ (List.mem_of_getElem? (i := 20) rfl))) (Or.inl (hw _ (List.mem_of_getElem? (i := 18) rfl))) (by decide) (t := .long) (t' := .int) (by decide) (by decide))))
    have f113 : Fld Z h108 a0 "com/example/firstlight/firstlight/BitWriter" "filled" "I" (.int fi) := (F4.other W108 (Or.inr (slot_ne (Or.inl (hw _ (List.mem_of_getElem? (i := 22) rfl))) (Or.inl (hw _ (List.mem_of_getElem? (i := 18) rfl))) (by decide) (t := .int) (t' := .int) (by decide) (by decide))))
    have f114 : own_AI Z h108 da ka .int (5 : Int32) xs := (F5.other W108 (Ne.symm hne))
    have N108 := Fr.snoc X108 N0 g_a0
    have kk115 : Keep h0 h108 [a0, da] := K0.wr W108 (Or.inl (List.mem_of_getElem? (i := 0) rfl))
    refine own_of (S' := T108.setTop (mkF m 22 #[.val (.ref a0)] [(.int at_), (.ref da)])) st108 ?_
    refine own_of (S' := T108.setTop (mkF m 23 #[.val (.ref a0)] [(.ref a0), (.int at_), (.ref da)])) (fun t k => XS.aloadN X108.here hx rfl (hb hby own_d4_22) rfl rfl k) ?_
    obtain ⟨T116, X116, e116, st116⟩ := getF X108 hx hZ hown (host := "") (Or.inl (hw _ (List.mem_of_getElem? (i := 19) rfl))) Via.refl e108 f112 (g := (mkF m 23 #[.val (.ref a0)] [(.ref a0), (.int at_), (.ref da)])) rfl rfl (hb hby own_d4_23)
    refine own_of (S' := T116.setTop (mkF m 26 #[.val (.ref a0)] [(.long bu), (.int at_), (.ref da)])) st116 ?_
    refine own_of (S' := T116.setTop (mkF m 27 #[.val (.ref a0)] [(.int (bu.toInt32)), (.int at_), (.ref da)])) (fun t k => XS.l2i X116.here hx rfl (hb hby own_d4_26) rfl k) ?_
    obtain ⟨T117, h117, X117, e117, W117, V117, st117⟩ := own_stI X116 hx hZ e116 f114 (j := at_) (hin hc4) (g := (mkF m 27 #[.val (.ref a0)] [(.int (bu.toInt32)), (.int at_), (.ref da)])) rfl rfl (hb hby own_d4_27)
    have f118 : Exa Z h117 a0 "com/example/firstlight/firstlight/BitWriter" := (f110.wr W117)
    have f119 : Fld Z h117 a0 "com/example/firstlight/firstlight/BitWriter" "data" "[I" (.ref da) := (f111.other W117 (Or.inl hne))
    have f120 : Fld Z h117 a0 "com/example/firstlight/firstlight/BitWriter" "buffer" "J" (.long bu) := (f112.other W117 (Or.inl hne))
    have f121 : Fld Z h117 a0 "com/example/firstlight/firstlight/BitWriter" "filled" "I" (.int fi) := (f113.other W117 (Or.inl hne))
    have f122 : Fld Z h117 a0 "com/example/firstlight/firstlight/BitWriter" "at" "I" (.int (at_ + (1 : Int32))) := (f109.other W117 (Or.inl hne))
    have f123 : own_AI Z h117 da ka .int (5 : Int32) (List.set xs (at_).toNatClampNeg (bu.toInt32)) := V117
    have N117 := Fr.snoc X117 N108 g_da
    have kk124 : Keep h0 h117 [a0, da] := kk115.wr W117 (Or.inl (List.mem_of_getElem? (i := 1) rfl))
    refine own_of (S' := T117.setTop (mkF m 28 #[.val (.ref a0)] [])) st117 ?_
    refine own_of (S' := T117.setTop (mkF m 29 #[.val (.ref a0)] [(.ref a0)])) (fun t k => XS.aloadN X117.here hx rfl (hb hby own_d4_28) rfl rfl k) ?_
    refine own_of (S' := T117.setTop (mkF m 30 #[.val (.ref a0)] [.null, (.ref a0)])) (fun t k => XS.aconstNull X117.here hx rfl (hb hby own_d4_29) k) ?_
    obtain ⟨T125, h125, X125, e125, W125, st125⟩ := putF X117 hx hZ hown (host := "") (Or.inl (hw _ (List.mem_of_getElem? (i := 15) rfl))) Via.refl e117 f119 f118 (Or.inl (hw _ (List.mem_of_getElem? (i := 16) rfl))) (hw _ (List.mem_of_getElem? (i := 2) rfl)) (ty := (.array .int)) (by decide) rfl rfl (g := (mkF m 30 #[.val (.ref a0)] [.null, (.ref a0)])) rfl rfl (hb hby own_d4_30)
    have f126 : Fld Z h125 a0 "com/example/firstlight/firstlight/BitWriter" "data" "[I" .null := f119.same W125
    have f127 : Exa Z h125 a0 "com/example/firstlight/firstlight/BitWriter" := (f118.wr W125)
    have f128 : Fld Z h125 a0 "com/example/firstlight/firstlight/BitWriter" "buffer" "J" (.long bu) := (f120.other W125 (Or.inr (slot_ne (Or.inl (hw _ (List.mem_of_getElem? (i := 20) rfl))) (Or.inl (hw _ (List.mem_of_getElem? (i := 16) rfl))) (by decide) (t := .long) (t' := (.array .int)) (by decide) (by decide))))
    have f129 : Fld Z h125 a0 "com/example/firstlight/firstlight/BitWriter" "filled" "I" (.int fi) := (f121.other W125 (Or.inr (slot_ne (Or.inl (hw _ (List.mem_of_getElem? (i := 22) rfl))) (Or.inl (hw _ (List.mem_of_getElem? (i := 16) rfl))) (by decide) (t := .int) (t' := (.array .int)) (by decide) (by decide))))
    have f130 : Fld Z h125 a0 "com/example/firstlight/firstlight/BitWriter" "at" "I" (.int (at_ + (1 : Int32))) := (f122.other W125 (Or.inr (slot_ne (Or.inl (hw _ (List.mem_of_getElem? (i := 18) rfl))) (Or.inl (hw _ (List.mem_of_getElem? (i := 16) rfl))) (by decide) (t := .int) (t' := (.array .int)) (by decide) (by decide))))
    have f131 : own_AI Z h125 da ka .int (5 : Int32) (List.set xs (at_).toNatClampNeg (bu.toInt32)) := (f123.other W125 (Ne.symm hne))
    have N125 := Fr.snoc X125 N117 g_a0
    have kk132 : Keep h0 h125 [a0, da] := kk124.wr W125 (Or.inl (List.mem_of_getElem? (i := 0) rfl))
    refine own_of (S' := T125.setTop (mkF m 33 #[.val (.ref a0)] [])) st125 ?_
    refine own_of (S' := T125.setTop (mkF m 34 #[.val (.ref a0)] [(.ref a0)])) (fun t k => XS.aloadN X125.here hx rfl (hb hby own_d4_33) rfl rfl k) ?_
    obtain ⟨T133, X133, e133, st133⟩ := getF X125 hx hZ hown (host := "") (Or.inl (hw _ (List.mem_of_getElem? (i := 17) rfl))) Via.refl e125 f130 (g := (mkF m 34 #[.val (.ref a0)] [(.ref a0)])) rfl rfl (hb hby own_d4_34)
    refine own_of (S' := T133.setTop (mkF m 37 #[.val (.ref a0)] [(.int (at_ + (1 : Int32)))])) st133 ?_
    obtain ⟨fs, hr, hrun, hended, hW, hsame⟩ := X133.leave (v := some (.int (at_ + (1 : Int32)))) (fun h => by rw [Bd.returns] at h; cases h)
    refine ⟨_, _, own_retI X133 hx Bd.returns (hb hby own_d4_37) hr, hrun, hended, hG _ _ ⟨_, _, rfl, ?_, ⟨_, rfl⟩, hW, hsame.mono (by decide) (by decide)⟩⟩
    show own_Q4 Z a0 da ka at_ bu fi xs h0 n0 _ T133.heap _
    rw [e133]
    have hl : (at_ + (1 : Int32)) = (own_eat at_ fi) := by rw [own_eat, if_pos hc4]
    have qq134 : (List.set xs (at_).toNatClampNeg (bu.toInt32)) = (own_exs xs at_ bu fi) := by rw [own_exs, if_pos hc4]
    have qq135 : own_AI Z h125 da ka .int (5 : Int32) (own_exs xs at_ bu fi) := by rw [← qq134]; exact f131
    exact ⟨congrArg (fun w => some (Value.int w)) hl, N125, kk132, qq135⟩
  · refine own_of (S' := T104.setTop (mkF m 28 #[.val (.ref a0)] [])) (fun t k => XS.ifYes X104.here hx rfl (pc0 := 4) (pc' := 28) rfl (hb hby own_d4_4) rfl ((if0 _ _).trans (flt hc4).2.2.2) (by decide) (by decide) k) ?_
    refine own_of (S' := T104.setTop (mkF m 29 #[.val (.ref a0)] [(.ref a0)])) (fun t k => XS.aloadN X104.here hx rfl (hb hby own_d4_28) rfl rfl k) ?_
    refine own_of (S' := T104.setTop (mkF m 30 #[.val (.ref a0)] [.null, (.ref a0)])) (fun t k => XS.aconstNull X104.here hx rfl (hb hby own_d4_29) k) ?_
    obtain ⟨T136, h136, X136, e136, W136, st136⟩ := putF X104 hx hZ hown (host := "") (Or.inl (hw _ (List.mem_of_getElem? (i := 15) rfl))) Via.refl e104 F1 F0 (Or.inl (hw _ (List.mem_of_getElem? (i := 16) rfl))) (hw _ (List.mem_of_getElem? (i := 2) rfl)) (ty := (.array .int)) (by decide) rfl rfl (g := (mkF m 30 #[.val (.ref a0)] [.null, (.ref a0)])) rfl rfl (hb hby own_d4_30)
    have f137 : Fld Z h136 a0 "com/example/firstlight/firstlight/BitWriter" "data" "[I" .null := F1.same W136
    have f138 : Exa Z h136 a0 "com/example/firstlight/firstlight/BitWriter" := (F0.wr W136)
    have f139 : Fld Z h136 a0 "com/example/firstlight/firstlight/BitWriter" "at" "I" (.int at_) := (F2.other W136 (Or.inr (slot_ne (Or.inl (hw _ (List.mem_of_getElem? (i := 18) rfl))) (Or.inl (hw _ (List.mem_of_getElem? (i := 16) rfl))) (by decide) (t := .int) (t' := (.array .int)) (by decide) (by decide))))
    have f140 : Fld Z h136 a0 "com/example/firstlight/firstlight/BitWriter" "buffer" "J" (.long bu) := (F3.other W136 (Or.inr (slot_ne (Or.inl (hw _ (List.mem_of_getElem? (i := 20) rfl))) (Or.inl (hw _ (List.mem_of_getElem? (i := 16) rfl))) (by decide) (t := .long) (t' := (.array .int)) (by decide) (by decide))))
    have f141 : Fld Z h136 a0 "com/example/firstlight/firstlight/BitWriter" "filled" "I" (.int fi) := (F4.other W136 (Or.inr (slot_ne (Or.inl (hw _ (List.mem_of_getElem? (i := 22) rfl))) (Or.inl (hw _ (List.mem_of_getElem? (i := 16) rfl))) (by decide) (t := .int) (t' := (.array .int)) (by decide) (by decide))))
    have f142 : own_AI Z h136 da ka .int (5 : Int32) xs := (F5.other W136 (Ne.symm hne))
    have N136 := Fr.snoc X136 N0 g_a0
    have kk143 : Keep h0 h136 [a0, da] := K0.wr W136 (Or.inl (List.mem_of_getElem? (i := 0) rfl))
    refine own_of (S' := T136.setTop (mkF m 33 #[.val (.ref a0)] [])) st136 ?_
    refine own_of (S' := T136.setTop (mkF m 34 #[.val (.ref a0)] [(.ref a0)])) (fun t k => XS.aloadN X136.here hx rfl (hb hby own_d4_33) rfl rfl k) ?_
    obtain ⟨T144, X144, e144, st144⟩ := getF X136 hx hZ hown (host := "") (Or.inl (hw _ (List.mem_of_getElem? (i := 17) rfl))) Via.refl e136 f139 (g := (mkF m 34 #[.val (.ref a0)] [(.ref a0)])) rfl rfl (hb hby own_d4_34)
    refine own_of (S' := T144.setTop (mkF m 37 #[.val (.ref a0)] [(.int at_)])) st144 ?_
    obtain ⟨fs, hr, hrun, hended, hW, hsame⟩ := X144.leave (v := some (.int at_)) (fun h => by rw [Bd.returns] at h; cases h)
    refine ⟨_, _, own_retI X144 hx Bd.returns (hb hby own_d4_37) hr, hrun, hended, hG _ _ ⟨_, _, rfl, ?_, ⟨_, rfl⟩, hW, hsame.mono (by decide) (by decide)⟩⟩
    show own_Q4 Z a0 da ka at_ bu fi xs h0 n0 _ T144.heap _
    rw [e144]
    have hl : at_ = (own_eat at_ fi) := by rw [own_eat, if_neg hc4]
    have qq145 : xs = (own_exs xs at_ bu fi) := by rw [own_exs, if_neg hc4]
    have qq146 : own_AI Z h136 da ka .int (5 : Int32) (own_exs xs at_ bu fi) := by rw [← qq145]; exact f142
    exact ⟨congrArg (fun w => some (Value.int w)) hl, N136, kk143, qq146⟩
theorem own_d5_0 : decode method_3_code 0 = .ok (.iload_n 1, 1) := by decide +kernel
theorem own_d5_1 : decode method_3_code 1 = .ok (.iload_n 2, 1) := by decide +kernel
theorem own_d5_2 : decode method_3_code 2 = .ok (.isub, 1) := by decide +kernel
theorem own_d5_3 : decode method_3_code 3 = .ok (.istore 8, 2) := by decide +kernel
theorem own_d5_5 : decode method_3_code 5 = .ok (.iload 8, 2) := by decide +kernel
theorem own_d5_7 : decode method_3_code 7 = .ok (.ifCond .lt 9, 3) := by decide +kernel
theorem own_d5_10 : decode method_3_code 10 = .ok (.iload 8, 2) := by decide +kernel
theorem own_d5_12 : decode method_3_code 12 = .ok (.iload_n 3, 1) := by decide +kernel
theorem own_d5_13 : decode method_3_code 13 = .ok (.if_icmp .lt 10, 3) := by decide +kernel
theorem own_d5_16 : decode method_3_code 16 = .ok (.iload 7, 2) := by decide +kernel
theorem own_d5_18 : decode method_3_code 18 = .ok (.istore 9, 2) := by decide +kernel
theorem own_d5_20 : decode method_3_code 20 = .ok (.goto 32, 3) := by decide +kernel
theorem own_d5_23 : decode method_3_code 23 = .ok (.iload 8, 2) := by decide +kernel
theorem own_d5_25 : decode method_3_code 25 = .ok (.ifCond .ne 10, 3) := by decide +kernel
theorem own_d5_28 : decode method_3_code 28 = .ok (.iload 4, 2) := by decide +kernel
theorem own_d5_30 : decode method_3_code 30 = .ok (.istore 9, 2) := by decide +kernel
theorem own_d5_32 : decode method_3_code 32 = .ok (.goto 20, 3) := by decide +kernel
theorem own_d5_35 : decode method_3_code 35 = .ok (.iload 8, 2) := by decide +kernel
theorem own_d5_37 : decode method_3_code 37 = .ok (.iconst 1, 1) := by decide +kernel
theorem own_d5_38 : decode method_3_code 38 = .ok (.if_icmp .ne 10, 3) := by decide +kernel
theorem own_d5_41 : decode method_3_code 41 = .ok (.iload 5, 2) := by decide +kernel
theorem own_d5_43 : decode method_3_code 43 = .ok (.istore 9, 2) := by decide +kernel
theorem own_d5_45 : decode method_3_code 45 = .ok (.goto 7, 3) := by decide +kernel
theorem own_d5_48 : decode method_3_code 48 = .ok (.iload 6, 2) := by decide +kernel
theorem own_d5_50 : decode method_3_code 50 = .ok (.istore 9, 2) := by decide +kernel
theorem own_d5_52 : decode method_3_code 52 = .ok (.iload_n 0, 1) := by decide +kernel
theorem own_d5_53 : decode method_3_code 53 = .ok (.iload 9, 2) := by decide +kernel
theorem own_d5_55 : decode method_3_code 55 = .ok (.if_icmp .ne 7, 3) := by decide +kernel
theorem own_d5_58 : decode method_3_code 58 = .ok (.iconst 1, 1) := by decide +kernel
theorem own_d5_59 : decode method_3_code 59 = .ok (.goto 4, 3) := by decide +kernel
theorem own_d5_62 : decode method_3_code 62 = .ok (.iconst 0, 1) := by decide +kernel
theorem own_d5_63 : decode method_3_code 63 = .ok (.ireturn, 1) := by decide +kernel
abbrev own_room5 : Room := { frames := 0, cells := 0, slots := 0, locals := 0 }
theorem own_pn5 : plainName "com/example/firstlight/firstlight/BitWriterPutPinLaw" = true := by first | (simp [plainName, overriddenIn]; done) | decide +kernel
theorem own_ef5 (m : MethodId) (got : Int32) (ix : Int32) (at_ : Int32) (nn : Int32) (v0 : Int32) (v1 : Int32) (v2 : Int32) (fil : Int32) : entryFrame m #[(.int got), (.int ix), (.int at_), (.int nn), (.int v0), (.int v1), (.int v2), (.int fil)] 10 = mkF m 0 #[.val (.int got), .val (.int ix), .val (.int at_), .val (.int nn), .val (.int v0), .val (.int v1), .val (.int v2), .val (.int fil), .unset, .unset] [] := by first | (simp [entryFrame, mkF, argsToLocals, Value.category]; done) | rfl
def own_Q5 (Z : State) (got : Int32) (ix : Int32) (at_ : Int32) (nn : Int32) (v0 : Int32) (v1 : Int32) (v2 : Int32) (fil : Int32) (h0 : Heap) (n0 : Nat) (v : Option Value) (h : Heap) (L : List Loc) : Prop := v = some (.int (own_slot got ix at_ nn v0 v1 v2 fil)) ∧ Fr n0 L ∧ h = h0
set_option maxRecDepth 65536 in
set_option maxHeartbeats 40000000 in
theorem own_rm5 (l : Launch) (Z : State) (a0 : Array Value) (hw : ∀ d ∈ tables_1, d.before a0 Z = true) (ws : List Jvm.Cond) (got : Int32) (ix : Int32) (at_ : Int32) (nn : Int32) (v0 : Int32) (v1 : Int32) (v2 : Int32) (fil : Int32) (h0 : Heap) (n0 : Nat)  :
    MetFree l (⟨"com/example/firstlight/firstlight/BitWriterPutPinLaw", "slot", "(IIIIIIII)Z"⟩ : MethodName) (head1 (Jvm.Cond.code (⟨"com/example/firstlight/firstlight/BitWriterPutPinLaw", "slot", "(IIIIIIII)Z"⟩ : MethodName) method_3_code 10 (some .boolean) :: ws) (own_room5 : Room)) (fun a U => a = #[(.int got), (.int ix), (.int at_), (.int nn), (.int v0), (.int v1), (.int v2), (.int fil)] ∧ Z.Warmed39 U.vm ∧ U.heap = h0) (fun _ _ _ _ _ => True) (fun _ U o U' => ∃ v L, o = .returned v ∧ own_Q5 Z got ix at_ nn v0 v1 v2 fil h0 n0 v U'.heap L ∧ FrameEnd U o U' L (own_room5 : Room).cells (own_room5 : Room).slots) := by
  refine MetFree.of_bodySF (plainFor_of_name own_pn5) hisR ?_
  intro p e s m args below meth c s₁ Bd hml0 hP hK
  obtain ⟨rfl, hZ, hh⟩ := hP
  have hx := Bd.exec
  have hby := Bd.bytes
  have hml : c.maxLocals = 10 := hml0
  have hown : s.vm.findClass "com/example/firstlight/firstlight/BitWriterPutPinLaw" = some m.cls := findClass_of_methodNamed Bd.named
  have hnm := (name_of_methodNamed Bd.named Bd.method).1
  have X0 : Stand p l e (own_room5 : Room) s m #[(.int got), (.int ix), (.int at_), (.int nn), (.int v0), (.int v1), (.int v2), (.int fil)] below meth c s₁ [] 0 0 := Stand.of_body Bd
  have e0 : s₁.heap = h0 := by rw [← hh, Bd.state]; rfl
  have N0 := Fr.nil n0
  refine own_out fun G hG => ?_
  rw [own_ef5 m got ix at_ nn v0 v1 v2 fil]
  show own_Go p.tables e below G (s₁.setTop (mkF m 0 #[.val (.int got), .val (.int ix), .val (.int at_), .val (.int nn), .val (.int v0), .val (.int v1), .val (.int v2), .val (.int fil), .unset, .unset] []))
  refine own_of (S' := s₁.setTop (mkF m 1 #[.val (.int got), .val (.int ix), .val (.int at_), .val (.int nn), .val (.int v0), .val (.int v1), .val (.int v2), .val (.int fil), .unset, .unset] [(.int ix)])) (fun t k => XS.iloadN X0.here hx rfl (hb hby own_d5_0) rfl k) ?_
  refine own_of (S' := s₁.setTop (mkF m 2 #[.val (.int got), .val (.int ix), .val (.int at_), .val (.int nn), .val (.int v0), .val (.int v1), .val (.int v2), .val (.int fil), .unset, .unset] [(.int at_), (.int ix)])) (fun t k => XS.iloadN X0.here hx rfl (hb hby own_d5_1) rfl k) ?_
  refine own_of (S' := s₁.setTop (mkF m 3 #[.val (.int got), .val (.int ix), .val (.int at_), .val (.int nn), .val (.int v0), .val (.int v1), .val (.int v2), .val (.int fil), .unset, .unset] [(.int (ix - at_))])) (fun t k => XS.isub X0.here hx rfl (hb hby own_d5_2) rfl k) ?_
  generalize q3 : (ix - at_) = x3
  refine own_of (S' := s₁.setTop (mkF m 5 #[.val (.int got), .val (.int ix), .val (.int at_), .val (.int nn), .val (.int v0), .val (.int v1), .val (.int v2), .val (.int fil), .val (.int x3), .unset] [])) (fun t k => XS.istore X0.here hx rfl (hb hby own_d5_3) rfl (l' := #[.val (.int got), .val (.int ix), .val (.int at_), .val (.int nn), .val (.int v0), .val (.int v1), .val (.int v2), .val (.int fil), .val (.int x3), .unset]) rfl k) ?_
  refine own_of (S' := s₁.setTop (mkF m 7 #[.val (.int got), .val (.int ix), .val (.int at_), .val (.int nn), .val (.int v0), .val (.int v1), .val (.int v2), .val (.int fil), .val (.int x3), .unset] [(.int x3)])) (fun t k => XS.iload X0.here hx rfl (hb hby own_d5_5) rfl k) ?_
  by_cases hc7 : x3 < (0 : Int32)
  · refine own_of (S' := s₁.setTop (mkF m 16 #[.val (.int got), .val (.int ix), .val (.int at_), .val (.int nn), .val (.int v0), .val (.int v1), .val (.int v2), .val (.int fil), .val (.int x3), .unset] [])) (fun t k => XS.ifYes X0.here hx rfl (pc0 := 7) (pc' := 16) rfl (hb hby own_d5_7) rfl ((if0 _ _).trans (tlt hc7).1) (by decide) (by decide) k) ?_
    refine own_of (S' := s₁.setTop (mkF m 18 #[.val (.int got), .val (.int ix), .val (.int at_), .val (.int nn), .val (.int v0), .val (.int v1), .val (.int v2), .val (.int fil), .val (.int x3), .unset] [(.int fil)])) (fun t k => XS.iload X0.here hx rfl (hb hby own_d5_16) rfl k) ?_
    refine own_of (S' := s₁.setTop (mkF m 20 #[.val (.int got), .val (.int ix), .val (.int at_), .val (.int nn), .val (.int v0), .val (.int v1), .val (.int v2), .val (.int fil), .val (.int x3), .val (.int fil)] [])) (fun t k => XS.istore X0.here hx rfl (hb hby own_d5_18) rfl (l' := #[.val (.int got), .val (.int ix), .val (.int at_), .val (.int nn), .val (.int v0), .val (.int v1), .val (.int v2), .val (.int fil), .val (.int x3), .val (.int fil)]) rfl k) ?_
    refine own_of (S' := s₁.setTop (mkF m 52 #[.val (.int got), .val (.int ix), .val (.int at_), .val (.int nn), .val (.int v0), .val (.int v1), .val (.int v2), .val (.int fil), .val (.int x3), .val (.int fil)] [])) (fun t k => XS.goto X0.here hx rfl (pc0 := 20) (pc' := 52) rfl (hb hby own_d5_20) (by decide) (by decide) k) ?_
    refine own_of (S' := s₁.setTop (mkF m 53 #[.val (.int got), .val (.int ix), .val (.int at_), .val (.int nn), .val (.int v0), .val (.int v1), .val (.int v2), .val (.int fil), .val (.int x3), .val (.int fil)] [(.int got)])) (fun t k => XS.iloadN X0.here hx rfl (hb hby own_d5_52) rfl k) ?_
    refine own_of (S' := s₁.setTop (mkF m 55 #[.val (.int got), .val (.int ix), .val (.int at_), .val (.int nn), .val (.int v0), .val (.int v1), .val (.int v2), .val (.int fil), .val (.int x3), .val (.int fil)] [(.int fil), (.int got)])) (fun t k => XS.iload X0.here hx rfl (hb hby own_d5_53) rfl k) ?_
    by_cases hc55 : got = fil
    · refine own_of (S' := s₁.setTop (mkF m 58 #[.val (.int got), .val (.int ix), .val (.int at_), .val (.int nn), .val (.int v0), .val (.int v1), .val (.int v2), .val (.int fil), .val (.int x3), .val (.int fil)] [])) (fun t k => XS.icmpNo X0.here hx rfl (hb hby own_d5_55) rfl (teq hc55).2 k) ?_
      refine own_of (S' := s₁.setTop (mkF m 59 #[.val (.int got), .val (.int ix), .val (.int at_), .val (.int nn), .val (.int v0), .val (.int v1), .val (.int v2), .val (.int fil), .val (.int x3), .val (.int fil)] [(.int (1 : Int32))])) (fun t k => XS.iconst X0.here hx rfl (hb hby own_d5_58) k) ?_
      refine own_of (S' := s₁.setTop (mkF m 63 #[.val (.int got), .val (.int ix), .val (.int at_), .val (.int nn), .val (.int v0), .val (.int v1), .val (.int v2), .val (.int fil), .val (.int x3), .val (.int fil)] [(.int (1 : Int32))])) (fun t k => XS.goto X0.here hx rfl (pc0 := 59) (pc' := 63) rfl (hb hby own_d5_59) (by decide) (by decide) k) ?_
      obtain ⟨fs, hr, hrun, hended, hW, hsame⟩ := X0.leave (v := some (.int (nar .boolean (1 : Int32)))) (fun h => by rw [Bd.returns] at h; cases h)
      refine ⟨_, _, retN X0 hx (t := .boolean) Bd.returns (by simp) (hb hby own_d5_63) hr, hrun, hended, hG _ _ ⟨_, _, rfl, ?_, ⟨_, rfl⟩, hW, hsame.mono (by decide) (by decide)⟩⟩
      show own_Q5 Z got ix at_ nn v0 v1 v2 fil h0 n0 _ s₁.heap _
      rw [e0]
      have hl : nar .boolean (1 : Int32) = (own_slot got ix at_ nn v0 v1 v2 fil) := by subst q3; unfold own_slot own_want; first | (rw [if_pos hc7, if_pos hc55]; rfl) | (rw [if_neg hc7, if_neg hc13, if_pos hc55]; rfl) | (rw [if_neg hc7, if_pos hc13, if_pos hc25, if_pos hc55]; rfl) | (rw [if_neg hc7, if_pos hc13, if_neg hc25, if_pos hc38, if_pos hc55]; rfl) | (rw [if_neg hc7, if_pos hc13, if_neg hc25, if_neg hc38, if_pos hc55]; rfl) | (rw [if_pos hc7, if_neg hc55]; rfl) | (rw [if_neg hc7, if_neg hc13, if_neg hc55]; rfl) | (rw [if_neg hc7, if_pos hc13, if_pos hc25, if_neg hc55]; rfl) | (rw [if_neg hc7, if_pos hc13, if_neg hc25, if_pos hc38, if_neg hc55]; rfl) | (rw [if_neg hc7, if_pos hc13, if_neg hc25, if_neg hc38, if_neg hc55]; rfl)
      exact ⟨congrArg (fun w => some (Value.int w)) hl, N0, rfl⟩
    · refine own_of (S' := s₁.setTop (mkF m 62 #[.val (.int got), .val (.int ix), .val (.int at_), .val (.int nn), .val (.int v0), .val (.int v1), .val (.int v2), .val (.int fil), .val (.int x3), .val (.int fil)] [])) (fun t k => XS.icmpYes X0.here hx rfl (pc0 := 55) (pc' := 62) rfl (hb hby own_d5_55) rfl (feq hc55).2 (by decide) (by decide) k) ?_
      refine own_of (S' := s₁.setTop (mkF m 63 #[.val (.int got), .val (.int ix), .val (.int at_), .val (.int nn), .val (.int v0), .val (.int v1), .val (.int v2), .val (.int fil), .val (.int x3), .val (.int fil)] [(.int (0 : Int32))])) (fun t k => XS.iconst X0.here hx rfl (hb hby own_d5_62) k) ?_
      obtain ⟨fs, hr, hrun, hended, hW, hsame⟩ := X0.leave (v := some (.int (nar .boolean (0 : Int32)))) (fun h => by rw [Bd.returns] at h; cases h)
      refine ⟨_, _, retN X0 hx (t := .boolean) Bd.returns (by simp) (hb hby own_d5_63) hr, hrun, hended, hG _ _ ⟨_, _, rfl, ?_, ⟨_, rfl⟩, hW, hsame.mono (by decide) (by decide)⟩⟩
      show own_Q5 Z got ix at_ nn v0 v1 v2 fil h0 n0 _ s₁.heap _
      rw [e0]
      have hl : nar .boolean (0 : Int32) = (own_slot got ix at_ nn v0 v1 v2 fil) := by subst q3; unfold own_slot own_want; first | (rw [if_pos hc7, if_pos hc55]; rfl) | (rw [if_neg hc7, if_neg hc13, if_pos hc55]; rfl) | (rw [if_neg hc7, if_pos hc13, if_pos hc25, if_pos hc55]; rfl) | (rw [if_neg hc7, if_pos hc13, if_neg hc25, if_pos hc38, if_pos hc55]; rfl) | (rw [if_neg hc7, if_pos hc13, if_neg hc25, if_neg hc38, if_pos hc55]; rfl) | (rw [if_pos hc7, if_neg hc55]; rfl) | (rw [if_neg hc7, if_neg hc13, if_neg hc55]; rfl) | (rw [if_neg hc7, if_pos hc13, if_pos hc25, if_neg hc55]; rfl) | (rw [if_neg hc7, if_pos hc13, if_neg hc25, if_pos hc38, if_neg hc55]; rfl) | (rw [if_neg hc7, if_pos hc13, if_neg hc25, if_neg hc38, if_neg hc55]; rfl)
      exact ⟨congrArg (fun w => some (Value.int w)) hl, N0, rfl⟩
  · refine own_of (S' := s₁.setTop (mkF m 10 #[.val (.int got), .val (.int ix), .val (.int at_), .val (.int nn), .val (.int v0), .val (.int v1), .val (.int v2), .val (.int fil), .val (.int x3), .unset] [])) (fun t k => XS.ifNo X0.here hx rfl (hb hby own_d5_7) rfl ((if0 _ _).trans (flt hc7).1) k) ?_
    refine own_of (S' := s₁.setTop (mkF m 12 #[.val (.int got), .val (.int ix), .val (.int at_), .val (.int nn), .val (.int v0), .val (.int v1), .val (.int v2), .val (.int fil), .val (.int x3), .unset] [(.int x3)])) (fun t k => XS.iload X0.here hx rfl (hb hby own_d5_10) rfl k) ?_
    refine own_of (S' := s₁.setTop (mkF m 13 #[.val (.int got), .val (.int ix), .val (.int at_), .val (.int nn), .val (.int v0), .val (.int v1), .val (.int v2), .val (.int fil), .val (.int x3), .unset] [(.int nn), (.int x3)])) (fun t k => XS.iloadN X0.here hx rfl (hb hby own_d5_12) rfl k) ?_
    by_cases hc13 : x3 < nn
    · refine own_of (S' := s₁.setTop (mkF m 23 #[.val (.int got), .val (.int ix), .val (.int at_), .val (.int nn), .val (.int v0), .val (.int v1), .val (.int v2), .val (.int fil), .val (.int x3), .unset] [])) (fun t k => XS.icmpYes X0.here hx rfl (pc0 := 13) (pc' := 23) rfl (hb hby own_d5_13) rfl (tlt hc13).1 (by decide) (by decide) k) ?_
      refine own_of (S' := s₁.setTop (mkF m 25 #[.val (.int got), .val (.int ix), .val (.int at_), .val (.int nn), .val (.int v0), .val (.int v1), .val (.int v2), .val (.int fil), .val (.int x3), .unset] [(.int x3)])) (fun t k => XS.iload X0.here hx rfl (hb hby own_d5_23) rfl k) ?_
      by_cases hc25 : x3 = (0 : Int32)
      · refine own_of (S' := s₁.setTop (mkF m 28 #[.val (.int got), .val (.int ix), .val (.int at_), .val (.int nn), .val (.int v0), .val (.int v1), .val (.int v2), .val (.int fil), .val (.int x3), .unset] [])) (fun t k => XS.ifNo X0.here hx rfl (hb hby own_d5_25) rfl ((if0 _ _).trans (teq hc25).2) k) ?_
        refine own_of (S' := s₁.setTop (mkF m 30 #[.val (.int got), .val (.int ix), .val (.int at_), .val (.int nn), .val (.int v0), .val (.int v1), .val (.int v2), .val (.int fil), .val (.int x3), .unset] [(.int v0)])) (fun t k => XS.iload X0.here hx rfl (hb hby own_d5_28) rfl k) ?_
        refine own_of (S' := s₁.setTop (mkF m 32 #[.val (.int got), .val (.int ix), .val (.int at_), .val (.int nn), .val (.int v0), .val (.int v1), .val (.int v2), .val (.int fil), .val (.int x3), .val (.int v0)] [])) (fun t k => XS.istore X0.here hx rfl (hb hby own_d5_30) rfl (l' := #[.val (.int got), .val (.int ix), .val (.int at_), .val (.int nn), .val (.int v0), .val (.int v1), .val (.int v2), .val (.int fil), .val (.int x3), .val (.int v0)]) rfl k) ?_
        refine own_of (S' := s₁.setTop (mkF m 52 #[.val (.int got), .val (.int ix), .val (.int at_), .val (.int nn), .val (.int v0), .val (.int v1), .val (.int v2), .val (.int fil), .val (.int x3), .val (.int v0)] [])) (fun t k => XS.goto X0.here hx rfl (pc0 := 32) (pc' := 52) rfl (hb hby own_d5_32) (by decide) (by decide) k) ?_
        refine own_of (S' := s₁.setTop (mkF m 53 #[.val (.int got), .val (.int ix), .val (.int at_), .val (.int nn), .val (.int v0), .val (.int v1), .val (.int v2), .val (.int fil), .val (.int x3), .val (.int v0)] [(.int got)])) (fun t k => XS.iloadN X0.here hx rfl (hb hby own_d5_52) rfl k) ?_
        refine own_of (S' := s₁.setTop (mkF m 55 #[.val (.int got), .val (.int ix), .val (.int at_), .val (.int nn), .val (.int v0), .val (.int v1), .val (.int v2), .val (.int fil), .val (.int x3), .val (.int v0)] [(.int v0), (.int got)])) (fun t k => XS.iload X0.here hx rfl (hb hby own_d5_53) rfl k) ?_
        by_cases hc55 : got = v0
        · refine own_of (S' := s₁.setTop (mkF m 58 #[.val (.int got), .val (.int ix), .val (.int at_), .val (.int nn), .val (.int v0), .val (.int v1), .val (.int v2), .val (.int fil), .val (.int x3), .val (.int v0)] [])) (fun t k => XS.icmpNo X0.here hx rfl (hb hby own_d5_55) rfl (teq hc55).2 k) ?_
          refine own_of (S' := s₁.setTop (mkF m 59 #[.val (.int got), .val (.int ix), .val (.int at_), .val (.int nn), .val (.int v0), .val (.int v1), .val (.int v2), .val (.int fil), .val (.int x3), .val (.int v0)] [(.int (1 : Int32))])) (fun t k => XS.iconst X0.here hx rfl (hb hby own_d5_58) k) ?_
          refine own_of (S' := s₁.setTop (mkF m 63 #[.val (.int got), .val (.int ix), .val (.int at_), .val (.int nn), .val (.int v0), .val (.int v1), .val (.int v2), .val (.int fil), .val (.int x3), .val (.int v0)] [(.int (1 : Int32))])) (fun t k => XS.goto X0.here hx rfl (pc0 := 59) (pc' := 63) rfl (hb hby own_d5_59) (by decide) (by decide) k) ?_
          obtain ⟨fs, hr, hrun, hended, hW, hsame⟩ := X0.leave (v := some (.int (nar .boolean (1 : Int32)))) (fun h => by rw [Bd.returns] at h; cases h)
          refine ⟨_, _, retN X0 hx (t := .boolean) Bd.returns (by simp) (hb hby own_d5_63) hr, hrun, hended, hG _ _ ⟨_, _, rfl, ?_, ⟨_, rfl⟩, hW, hsame.mono (by decide) (by decide)⟩⟩
          show own_Q5 Z got ix at_ nn v0 v1 v2 fil h0 n0 _ s₁.heap _
          rw [e0]
          have hl : nar .boolean (1 : Int32) = (own_slot got ix at_ nn v0 v1 v2 fil) := by subst q3; unfold own_slot own_want; first | (rw [if_pos hc7, if_pos hc55]; rfl) | (rw [if_neg hc7, if_neg hc13, if_pos hc55]; rfl) | (rw [if_neg hc7, if_pos hc13, if_pos hc25, if_pos hc55]; rfl) | (rw [if_neg hc7, if_pos hc13, if_neg hc25, if_pos hc38, if_pos hc55]; rfl) | (rw [if_neg hc7, if_pos hc13, if_neg hc25, if_neg hc38, if_pos hc55]; rfl) | (rw [if_pos hc7, if_neg hc55]; rfl) | (rw [if_neg hc7, if_neg hc13, if_neg hc55]; rfl) | (rw [if_neg hc7, if_pos hc13, if_pos hc25, if_neg hc55]; rfl) | (rw [if_neg hc7, if_pos hc13, if_neg hc25, if_pos hc38, if_neg hc55]; rfl) | (rw [if_neg hc7, if_pos hc13, if_neg hc25, if_neg hc38, if_neg hc55]; rfl)
          exact ⟨congrArg (fun w => some (Value.int w)) hl, N0, rfl⟩
        · refine own_of (S' := s₁.setTop (mkF m 62 #[.val (.int got), .val (.int ix), .val (.int at_), .val (.int nn), .val (.int v0), .val (.int v1), .val (.int v2), .val (.int fil), .val (.int x3), .val (.int v0)] [])) (fun t k => XS.icmpYes X0.here hx rfl (pc0 := 55) (pc' := 62) rfl (hb hby own_d5_55) rfl (feq hc55).2 (by decide) (by decide) k) ?_
          refine own_of (S' := s₁.setTop (mkF m 63 #[.val (.int got), .val (.int ix), .val (.int at_), .val (.int nn), .val (.int v0), .val (.int v1), .val (.int v2), .val (.int fil), .val (.int x3), .val (.int v0)] [(.int (0 : Int32))])) (fun t k => XS.iconst X0.here hx rfl (hb hby own_d5_62) k) ?_
          obtain ⟨fs, hr, hrun, hended, hW, hsame⟩ := X0.leave (v := some (.int (nar .boolean (0 : Int32)))) (fun h => by rw [Bd.returns] at h; cases h)
          refine ⟨_, _, retN X0 hx (t := .boolean) Bd.returns (by simp) (hb hby own_d5_63) hr, hrun, hended, hG _ _ ⟨_, _, rfl, ?_, ⟨_, rfl⟩, hW, hsame.mono (by decide) (by decide)⟩⟩
          show own_Q5 Z got ix at_ nn v0 v1 v2 fil h0 n0 _ s₁.heap _
          rw [e0]
          have hl : nar .boolean (0 : Int32) = (own_slot got ix at_ nn v0 v1 v2 fil) := by subst q3; unfold own_slot own_want; first | (rw [if_pos hc7, if_pos hc55]; rfl) | (rw [if_neg hc7, if_neg hc13, if_pos hc55]; rfl) | (rw [if_neg hc7, if_pos hc13, if_pos hc25, if_pos hc55]; rfl) | (rw [if_neg hc7, if_pos hc13, if_neg hc25, if_pos hc38, if_pos hc55]; rfl) | (rw [if_neg hc7, if_pos hc13, if_neg hc25, if_neg hc38, if_pos hc55]; rfl) | (rw [if_pos hc7, if_neg hc55]; rfl) | (rw [if_neg hc7, if_neg hc13, if_neg hc55]; rfl) | (rw [if_neg hc7, if_pos hc13, if_pos hc25, if_neg hc55]; rfl) | (rw [if_neg hc7, if_pos hc13, if_neg hc25, if_pos hc38, if_neg hc55]; rfl) | (rw [if_neg hc7, if_pos hc13, if_neg hc25, if_neg hc38, if_neg hc55]; rfl)
          exact ⟨congrArg (fun w => some (Value.int w)) hl, N0, rfl⟩
      · refine own_of (S' := s₁.setTop (mkF m 35 #[.val (.int got), .val (.int ix), .val (.int at_), .val (.int nn), .val (.int v0), .val (.int v1), .val (.int v2), .val (.int fil), .val (.int x3), .unset] [])) (fun t k => XS.ifYes X0.here hx rfl (pc0 := 25) (pc' := 35) rfl (hb hby own_d5_25) rfl ((if0 _ _).trans (feq hc25).2) (by decide) (by decide) k) ?_
        refine own_of (S' := s₁.setTop (mkF m 37 #[.val (.int got), .val (.int ix), .val (.int at_), .val (.int nn), .val (.int v0), .val (.int v1), .val (.int v2), .val (.int fil), .val (.int x3), .unset] [(.int x3)])) (fun t k => XS.iload X0.here hx rfl (hb hby own_d5_35) rfl k) ?_
        refine own_of (S' := s₁.setTop (mkF m 38 #[.val (.int got), .val (.int ix), .val (.int at_), .val (.int nn), .val (.int v0), .val (.int v1), .val (.int v2), .val (.int fil), .val (.int x3), .unset] [(.int (1 : Int32)), (.int x3)])) (fun t k => XS.iconst X0.here hx rfl (hb hby own_d5_37) k) ?_
        by_cases hc38 : x3 = (1 : Int32)
        · refine own_of (S' := s₁.setTop (mkF m 41 #[.val (.int got), .val (.int ix), .val (.int at_), .val (.int nn), .val (.int v0), .val (.int v1), .val (.int v2), .val (.int fil), .val (.int x3), .unset] [])) (fun t k => XS.icmpNo X0.here hx rfl (hb hby own_d5_38) rfl (teq hc38).2 k) ?_
          refine own_of (S' := s₁.setTop (mkF m 43 #[.val (.int got), .val (.int ix), .val (.int at_), .val (.int nn), .val (.int v0), .val (.int v1), .val (.int v2), .val (.int fil), .val (.int x3), .unset] [(.int v1)])) (fun t k => XS.iload X0.here hx rfl (hb hby own_d5_41) rfl k) ?_
          refine own_of (S' := s₁.setTop (mkF m 45 #[.val (.int got), .val (.int ix), .val (.int at_), .val (.int nn), .val (.int v0), .val (.int v1), .val (.int v2), .val (.int fil), .val (.int x3), .val (.int v1)] [])) (fun t k => XS.istore X0.here hx rfl (hb hby own_d5_43) rfl (l' := #[.val (.int got), .val (.int ix), .val (.int at_), .val (.int nn), .val (.int v0), .val (.int v1), .val (.int v2), .val (.int fil), .val (.int x3), .val (.int v1)]) rfl k) ?_
          refine own_of (S' := s₁.setTop (mkF m 52 #[.val (.int got), .val (.int ix), .val (.int at_), .val (.int nn), .val (.int v0), .val (.int v1), .val (.int v2), .val (.int fil), .val (.int x3), .val (.int v1)] [])) (fun t k => XS.goto X0.here hx rfl (pc0 := 45) (pc' := 52) rfl (hb hby own_d5_45) (by decide) (by decide) k) ?_
          refine own_of (S' := s₁.setTop (mkF m 53 #[.val (.int got), .val (.int ix), .val (.int at_), .val (.int nn), .val (.int v0), .val (.int v1), .val (.int v2), .val (.int fil), .val (.int x3), .val (.int v1)] [(.int got)])) (fun t k => XS.iloadN X0.here hx rfl (hb hby own_d5_52) rfl k) ?_
          refine own_of (S' := s₁.setTop (mkF m 55 #[.val (.int got), .val (.int ix), .val (.int at_), .val (.int nn), .val (.int v0), .val (.int v1), .val (.int v2), .val (.int fil), .val (.int x3), .val (.int v1)] [(.int v1), (.int got)])) (fun t k => XS.iload X0.here hx rfl (hb hby own_d5_53) rfl k) ?_
          by_cases hc55 : got = v1
          · refine own_of (S' := s₁.setTop (mkF m 58 #[.val (.int got), .val (.int ix), .val (.int at_), .val (.int nn), .val (.int v0), .val (.int v1), .val (.int v2), .val (.int fil), .val (.int x3), .val (.int v1)] [])) (fun t k => XS.icmpNo X0.here hx rfl (hb hby own_d5_55) rfl (teq hc55).2 k) ?_
            refine own_of (S' := s₁.setTop (mkF m 59 #[.val (.int got), .val (.int ix), .val (.int at_), .val (.int nn), .val (.int v0), .val (.int v1), .val (.int v2), .val (.int fil), .val (.int x3), .val (.int v1)] [(.int (1 : Int32))])) (fun t k => XS.iconst X0.here hx rfl (hb hby own_d5_58) k) ?_
            refine own_of (S' := s₁.setTop (mkF m 63 #[.val (.int got), .val (.int ix), .val (.int at_), .val (.int nn), .val (.int v0), .val (.int v1), .val (.int v2), .val (.int fil), .val (.int x3), .val (.int v1)] [(.int (1 : Int32))])) (fun t k => XS.goto X0.here hx rfl (pc0 := 59) (pc' := 63) rfl (hb hby own_d5_59) (by decide) (by decide) k) ?_
            obtain ⟨fs, hr, hrun, hended, hW, hsame⟩ := X0.leave (v := some (.int (nar .boolean (1 : Int32)))) (fun h => by rw [Bd.returns] at h; cases h)
            refine ⟨_, _, retN X0 hx (t := .boolean) Bd.returns (by simp) (hb hby own_d5_63) hr, hrun, hended, hG _ _ ⟨_, _, rfl, ?_, ⟨_, rfl⟩, hW, hsame.mono (by decide) (by decide)⟩⟩
            show own_Q5 Z got ix at_ nn v0 v1 v2 fil h0 n0 _ s₁.heap _
            rw [e0]
            have hl : nar .boolean (1 : Int32) = (own_slot got ix at_ nn v0 v1 v2 fil) := by subst q3; unfold own_slot own_want; first | (rw [if_pos hc7, if_pos hc55]; rfl) | (rw [if_neg hc7, if_neg hc13, if_pos hc55]; rfl) | (rw [if_neg hc7, if_pos hc13, if_pos hc25, if_pos hc55]; rfl) | (rw [if_neg hc7, if_pos hc13, if_neg hc25, if_pos hc38, if_pos hc55]; rfl) | (rw [if_neg hc7, if_pos hc13, if_neg hc25, if_neg hc38, if_pos hc55]; rfl) | (rw [if_pos hc7, if_neg hc55]; rfl) | (rw [if_neg hc7, if_neg hc13, if_neg hc55]; rfl) | (rw [if_neg hc7, if_pos hc13, if_pos hc25, if_neg hc55]; rfl) | (rw [if_neg hc7, if_pos hc13, if_neg hc25, if_pos hc38, if_neg hc55]; rfl) | (rw [if_neg hc7, if_pos hc13, if_neg hc25, if_neg hc38, if_neg hc55]; rfl)
            exact ⟨congrArg (fun w => some (Value.int w)) hl, N0, rfl⟩
          · refine own_of (S' := s₁.setTop (mkF m 62 #[.val (.int got), .val (.int ix), .val (.int at_), .val (.int nn), .val (.int v0), .val (.int v1), .val (.int v2), .val (.int fil), .val (.int x3), .val (.int v1)] [])) (fun t k => XS.icmpYes X0.here hx rfl (pc0 := 55) (pc' := 62) rfl (hb hby own_d5_55) rfl (feq hc55).2 (by decide) (by decide) k) ?_
            refine own_of (S' := s₁.setTop (mkF m 63 #[.val (.int got), .val (.int ix), .val (.int at_), .val (.int nn), .val (.int v0), .val (.int v1), .val (.int v2), .val (.int fil), .val (.int x3), .val (.int v1)] [(.int (0 : Int32))])) (fun t k => XS.iconst X0.here hx rfl (hb hby own_d5_62) k) ?_
            obtain ⟨fs, hr, hrun, hended, hW, hsame⟩ := X0.leave (v := some (.int (nar .boolean (0 : Int32)))) (fun h => by rw [Bd.returns] at h; cases h)
            refine ⟨_, _, retN X0 hx (t := .boolean) Bd.returns (by simp) (hb hby own_d5_63) hr, hrun, hended, hG _ _ ⟨_, _, rfl, ?_, ⟨_, rfl⟩, hW, hsame.mono (by decide) (by decide)⟩⟩
            show own_Q5 Z got ix at_ nn v0 v1 v2 fil h0 n0 _ s₁.heap _
            rw [e0]
            have hl : nar .boolean (0 : Int32) = (own_slot got ix at_ nn v0 v1 v2 fil) := by subst q3; unfold own_slot own_want; first | (rw [if_pos hc7, if_pos hc55]; rfl) | (rw [if_neg hc7, if_neg hc13, if_pos hc55]; rfl) | (rw [if_neg hc7, if_pos hc13, if_pos hc25, if_pos hc55]; rfl) | (rw [if_neg hc7, if_pos hc13, if_neg hc25, if_pos hc38, if_pos hc55]; rfl) | (rw [if_neg hc7, if_pos hc13, if_neg hc25, if_neg hc38, if_pos hc55]; rfl) | (rw [if_pos hc7, if_neg hc55]; rfl) | (rw [if_neg hc7, if_neg hc13, if_neg hc55]; rfl) | (rw [if_neg hc7, if_pos hc13, if_pos hc25, if_neg hc55]; rfl) | (rw [if_neg hc7, if_pos hc13, if_neg hc25, if_pos hc38, if_neg hc55]; rfl) | (rw [if_neg hc7, if_pos hc13, if_neg hc25, if_neg hc38, if_neg hc55]; rfl)
            exact ⟨congrArg (fun w => some (Value.int w)) hl, N0, rfl⟩
        · refine own_of (S' := s₁.setTop (mkF m 48 #[.val (.int got), .val (.int ix), .val (.int at_), .val (.int nn), .val (.int v0), .val (.int v1), .val (.int v2), .val (.int fil), .val (.int x3), .unset] [])) (fun t k => XS.icmpYes X0.here hx rfl (pc0 := 38) (pc' := 48) rfl (hb hby own_d5_38) rfl (feq hc38).2 (by decide) (by decide) k) ?_
          refine own_of (S' := s₁.setTop (mkF m 50 #[.val (.int got), .val (.int ix), .val (.int at_), .val (.int nn), .val (.int v0), .val (.int v1), .val (.int v2), .val (.int fil), .val (.int x3), .unset] [(.int v2)])) (fun t k => XS.iload X0.here hx rfl (hb hby own_d5_48) rfl k) ?_
          refine own_of (S' := s₁.setTop (mkF m 52 #[.val (.int got), .val (.int ix), .val (.int at_), .val (.int nn), .val (.int v0), .val (.int v1), .val (.int v2), .val (.int fil), .val (.int x3), .val (.int v2)] [])) (fun t k => XS.istore X0.here hx rfl (hb hby own_d5_50) rfl (l' := #[.val (.int got), .val (.int ix), .val (.int at_), .val (.int nn), .val (.int v0), .val (.int v1), .val (.int v2), .val (.int fil), .val (.int x3), .val (.int v2)]) rfl k) ?_
          refine own_of (S' := s₁.setTop (mkF m 53 #[.val (.int got), .val (.int ix), .val (.int at_), .val (.int nn), .val (.int v0), .val (.int v1), .val (.int v2), .val (.int fil), .val (.int x3), .val (.int v2)] [(.int got)])) (fun t k => XS.iloadN X0.here hx rfl (hb hby own_d5_52) rfl k) ?_
          refine own_of (S' := s₁.setTop (mkF m 55 #[.val (.int got), .val (.int ix), .val (.int at_), .val (.int nn), .val (.int v0), .val (.int v1), .val (.int v2), .val (.int fil), .val (.int x3), .val (.int v2)] [(.int v2), (.int got)])) (fun t k => XS.iload X0.here hx rfl (hb hby own_d5_53) rfl k) ?_
          by_cases hc55 : got = v2
          · refine own_of (S' := s₁.setTop (mkF m 58 #[.val (.int got), .val (.int ix), .val (.int at_), .val (.int nn), .val (.int v0), .val (.int v1), .val (.int v2), .val (.int fil), .val (.int x3), .val (.int v2)] [])) (fun t k => XS.icmpNo X0.here hx rfl (hb hby own_d5_55) rfl (teq hc55).2 k) ?_
            refine own_of (S' := s₁.setTop (mkF m 59 #[.val (.int got), .val (.int ix), .val (.int at_), .val (.int nn), .val (.int v0), .val (.int v1), .val (.int v2), .val (.int fil), .val (.int x3), .val (.int v2)] [(.int (1 : Int32))])) (fun t k => XS.iconst X0.here hx rfl (hb hby own_d5_58) k) ?_
            refine own_of (S' := s₁.setTop (mkF m 63 #[.val (.int got), .val (.int ix), .val (.int at_), .val (.int nn), .val (.int v0), .val (.int v1), .val (.int v2), .val (.int fil), .val (.int x3), .val (.int v2)] [(.int (1 : Int32))])) (fun t k => XS.goto X0.here hx rfl (pc0 := 59) (pc' := 63) rfl (hb hby own_d5_59) (by decide) (by decide) k) ?_
            obtain ⟨fs, hr, hrun, hended, hW, hsame⟩ := X0.leave (v := some (.int (nar .boolean (1 : Int32)))) (fun h => by rw [Bd.returns] at h; cases h)
            refine ⟨_, _, retN X0 hx (t := .boolean) Bd.returns (by simp) (hb hby own_d5_63) hr, hrun, hended, hG _ _ ⟨_, _, rfl, ?_, ⟨_, rfl⟩, hW, hsame.mono (by decide) (by decide)⟩⟩
            show own_Q5 Z got ix at_ nn v0 v1 v2 fil h0 n0 _ s₁.heap _
            rw [e0]
            have hl : nar .boolean (1 : Int32) = (own_slot got ix at_ nn v0 v1 v2 fil) := by subst q3; unfold own_slot own_want; first | (rw [if_pos hc7, if_pos hc55]; rfl) | (rw [if_neg hc7, if_neg hc13, if_pos hc55]; rfl) | (rw [if_neg hc7, if_pos hc13, if_pos hc25, if_pos hc55]; rfl) | (rw [if_neg hc7, if_pos hc13, if_neg hc25, if_pos hc38, if_pos hc55]; rfl) | (rw [if_neg hc7, if_pos hc13, if_neg hc25, if_neg hc38, if_pos hc55]; rfl) | (rw [if_pos hc7, if_neg hc55]; rfl) | (rw [if_neg hc7, if_neg hc13, if_neg hc55]; rfl) | (rw [if_neg hc7, if_pos hc13, if_pos hc25, if_neg hc55]; rfl) | (rw [if_neg hc7, if_pos hc13, if_neg hc25, if_pos hc38, if_neg hc55]; rfl) | (rw [if_neg hc7, if_pos hc13, if_neg hc25, if_neg hc38, if_neg hc55]; rfl)
            exact ⟨congrArg (fun w => some (Value.int w)) hl, N0, rfl⟩
          · refine own_of (S' := s₁.setTop (mkF m 62 #[.val (.int got), .val (.int ix), .val (.int at_), .val (.int nn), .val (.int v0), .val (.int v1), .val (.int v2), .val (.int fil), .val (.int x3), .val (.int v2)] [])) (fun t k => XS.icmpYes X0.here hx rfl (pc0 := 55) (pc' := 62) rfl (hb hby own_d5_55) rfl (feq hc55).2 (by decide) (by decide) k) ?_
            refine own_of (S' := s₁.setTop (mkF m 63 #[.val (.int got), .val (.int ix), .val (.int at_), .val (.int nn), .val (.int v0), .val (.int v1), .val (.int v2), .val (.int fil), .val (.int x3), .val (.int v2)] [(.int (0 : Int32))])) (fun t k => XS.iconst X0.here hx rfl (hb hby own_d5_62) k) ?_
            obtain ⟨fs, hr, hrun, hended, hW, hsame⟩ := X0.leave (v := some (.int (nar .boolean (0 : Int32)))) (fun h => by rw [Bd.returns] at h; cases h)
            refine ⟨_, _, retN X0 hx (t := .boolean) Bd.returns (by simp) (hb hby own_d5_63) hr, hrun, hended, hG _ _ ⟨_, _, rfl, ?_, ⟨_, rfl⟩, hW, hsame.mono (by decide) (by decide)⟩⟩
            show own_Q5 Z got ix at_ nn v0 v1 v2 fil h0 n0 _ s₁.heap _
            rw [e0]
            have hl : nar .boolean (0 : Int32) = (own_slot got ix at_ nn v0 v1 v2 fil) := by subst q3; unfold own_slot own_want; first | (rw [if_pos hc7, if_pos hc55]; rfl) | (rw [if_neg hc7, if_neg hc13, if_pos hc55]; rfl) | (rw [if_neg hc7, if_pos hc13, if_pos hc25, if_pos hc55]; rfl) | (rw [if_neg hc7, if_pos hc13, if_neg hc25, if_pos hc38, if_pos hc55]; rfl) | (rw [if_neg hc7, if_pos hc13, if_neg hc25, if_neg hc38, if_pos hc55]; rfl) | (rw [if_pos hc7, if_neg hc55]; rfl) | (rw [if_neg hc7, if_neg hc13, if_neg hc55]; rfl) | (rw [if_neg hc7, if_pos hc13, if_pos hc25, if_neg hc55]; rfl) | (rw [if_neg hc7, if_pos hc13, if_neg hc25, if_pos hc38, if_neg hc55]; rfl) | (rw [if_neg hc7, if_pos hc13, if_neg hc25, if_neg hc38, if_neg hc55]; rfl)
            exact ⟨congrArg (fun w => some (Value.int w)) hl, N0, rfl⟩
    · refine own_of (S' := s₁.setTop (mkF m 16 #[.val (.int got), .val (.int ix), .val (.int at_), .val (.int nn), .val (.int v0), .val (.int v1), .val (.int v2), .val (.int fil), .val (.int x3), .unset] [])) (fun t k => XS.icmpNo X0.here hx rfl (hb hby own_d5_13) rfl (flt hc13).1 k) ?_
      refine own_of (S' := s₁.setTop (mkF m 18 #[.val (.int got), .val (.int ix), .val (.int at_), .val (.int nn), .val (.int v0), .val (.int v1), .val (.int v2), .val (.int fil), .val (.int x3), .unset] [(.int fil)])) (fun t k => XS.iload X0.here hx rfl (hb hby own_d5_16) rfl k) ?_
      refine own_of (S' := s₁.setTop (mkF m 20 #[.val (.int got), .val (.int ix), .val (.int at_), .val (.int nn), .val (.int v0), .val (.int v1), .val (.int v2), .val (.int fil), .val (.int x3), .val (.int fil)] [])) (fun t k => XS.istore X0.here hx rfl (hb hby own_d5_18) rfl (l' := #[.val (.int got), .val (.int ix), .val (.int at_), .val (.int nn), .val (.int v0), .val (.int v1), .val (.int v2), .val (.int fil), .val (.int x3), .val (.int fil)]) rfl k) ?_
      refine own_of (S' := s₁.setTop (mkF m 52 #[.val (.int got), .val (.int ix), .val (.int at_), .val (.int nn), .val (.int v0), .val (.int v1), .val (.int v2), .val (.int fil), .val (.int x3), .val (.int fil)] [])) (fun t k => XS.goto X0.here hx rfl (pc0 := 20) (pc' := 52) rfl (hb hby own_d5_20) (by decide) (by decide) k) ?_
      refine own_of (S' := s₁.setTop (mkF m 53 #[.val (.int got), .val (.int ix), .val (.int at_), .val (.int nn), .val (.int v0), .val (.int v1), .val (.int v2), .val (.int fil), .val (.int x3), .val (.int fil)] [(.int got)])) (fun t k => XS.iloadN X0.here hx rfl (hb hby own_d5_52) rfl k) ?_
      refine own_of (S' := s₁.setTop (mkF m 55 #[.val (.int got), .val (.int ix), .val (.int at_), .val (.int nn), .val (.int v0), .val (.int v1), .val (.int v2), .val (.int fil), .val (.int x3), .val (.int fil)] [(.int fil), (.int got)])) (fun t k => XS.iload X0.here hx rfl (hb hby own_d5_53) rfl k) ?_
      by_cases hc55 : got = fil
      · refine own_of (S' := s₁.setTop (mkF m 58 #[.val (.int got), .val (.int ix), .val (.int at_), .val (.int nn), .val (.int v0), .val (.int v1), .val (.int v2), .val (.int fil), .val (.int x3), .val (.int fil)] [])) (fun t k => XS.icmpNo X0.here hx rfl (hb hby own_d5_55) rfl (teq hc55).2 k) ?_
        refine own_of (S' := s₁.setTop (mkF m 59 #[.val (.int got), .val (.int ix), .val (.int at_), .val (.int nn), .val (.int v0), .val (.int v1), .val (.int v2), .val (.int fil), .val (.int x3), .val (.int fil)] [(.int (1 : Int32))])) (fun t k => XS.iconst X0.here hx rfl (hb hby own_d5_58) k) ?_
        refine own_of (S' := s₁.setTop (mkF m 63 #[.val (.int got), .val (.int ix), .val (.int at_), .val (.int nn), .val (.int v0), .val (.int v1), .val (.int v2), .val (.int fil), .val (.int x3), .val (.int fil)] [(.int (1 : Int32))])) (fun t k => XS.goto X0.here hx rfl (pc0 := 59) (pc' := 63) rfl (hb hby own_d5_59) (by decide) (by decide) k) ?_
        obtain ⟨fs, hr, hrun, hended, hW, hsame⟩ := X0.leave (v := some (.int (nar .boolean (1 : Int32)))) (fun h => by rw [Bd.returns] at h; cases h)
        refine ⟨_, _, retN X0 hx (t := .boolean) Bd.returns (by simp) (hb hby own_d5_63) hr, hrun, hended, hG _ _ ⟨_, _, rfl, ?_, ⟨_, rfl⟩, hW, hsame.mono (by decide) (by decide)⟩⟩
        show own_Q5 Z got ix at_ nn v0 v1 v2 fil h0 n0 _ s₁.heap _
        rw [e0]
        have hl : nar .boolean (1 : Int32) = (own_slot got ix at_ nn v0 v1 v2 fil) := by subst q3; unfold own_slot own_want; first | (rw [if_pos hc7, if_pos hc55]; rfl) | (rw [if_neg hc7, if_neg hc13, if_pos hc55]; rfl) | (rw [if_neg hc7, if_pos hc13, if_pos hc25, if_pos hc55]; rfl) | (rw [if_neg hc7, if_pos hc13, if_neg hc25, if_pos hc38, if_pos hc55]; rfl) | (rw [if_neg hc7, if_pos hc13, if_neg hc25, if_neg hc38, if_pos hc55]; rfl) | (rw [if_pos hc7, if_neg hc55]; rfl) | (rw [if_neg hc7, if_neg hc13, if_neg hc55]; rfl) | (rw [if_neg hc7, if_pos hc13, if_pos hc25, if_neg hc55]; rfl) | (rw [if_neg hc7, if_pos hc13, if_neg hc25, if_pos hc38, if_neg hc55]; rfl) | (rw [if_neg hc7, if_pos hc13, if_neg hc25, if_neg hc38, if_neg hc55]; rfl)
        exact ⟨congrArg (fun w => some (Value.int w)) hl, N0, rfl⟩
      · refine own_of (S' := s₁.setTop (mkF m 62 #[.val (.int got), .val (.int ix), .val (.int at_), .val (.int nn), .val (.int v0), .val (.int v1), .val (.int v2), .val (.int fil), .val (.int x3), .val (.int fil)] [])) (fun t k => XS.icmpYes X0.here hx rfl (pc0 := 55) (pc' := 62) rfl (hb hby own_d5_55) rfl (feq hc55).2 (by decide) (by decide) k) ?_
        refine own_of (S' := s₁.setTop (mkF m 63 #[.val (.int got), .val (.int ix), .val (.int at_), .val (.int nn), .val (.int v0), .val (.int v1), .val (.int v2), .val (.int fil), .val (.int x3), .val (.int fil)] [(.int (0 : Int32))])) (fun t k => XS.iconst X0.here hx rfl (hb hby own_d5_62) k) ?_
        obtain ⟨fs, hr, hrun, hended, hW, hsame⟩ := X0.leave (v := some (.int (nar .boolean (0 : Int32)))) (fun h => by rw [Bd.returns] at h; cases h)
        refine ⟨_, _, retN X0 hx (t := .boolean) Bd.returns (by simp) (hb hby own_d5_63) hr, hrun, hended, hG _ _ ⟨_, _, rfl, ?_, ⟨_, rfl⟩, hW, hsame.mono (by decide) (by decide)⟩⟩
        show own_Q5 Z got ix at_ nn v0 v1 v2 fil h0 n0 _ s₁.heap _
        rw [e0]
        have hl : nar .boolean (0 : Int32) = (own_slot got ix at_ nn v0 v1 v2 fil) := by subst q3; unfold own_slot own_want; first | (rw [if_pos hc7, if_pos hc55]; rfl) | (rw [if_neg hc7, if_neg hc13, if_pos hc55]; rfl) | (rw [if_neg hc7, if_pos hc13, if_pos hc25, if_pos hc55]; rfl) | (rw [if_neg hc7, if_pos hc13, if_neg hc25, if_pos hc38, if_pos hc55]; rfl) | (rw [if_neg hc7, if_pos hc13, if_neg hc25, if_neg hc38, if_pos hc55]; rfl) | (rw [if_pos hc7, if_neg hc55]; rfl) | (rw [if_neg hc7, if_neg hc13, if_neg hc55]; rfl) | (rw [if_neg hc7, if_pos hc13, if_pos hc25, if_neg hc55]; rfl) | (rw [if_neg hc7, if_pos hc13, if_neg hc25, if_pos hc38, if_neg hc55]; rfl) | (rw [if_neg hc7, if_pos hc13, if_neg hc25, if_neg hc38, if_neg hc55]; rfl)
        exact ⟨congrArg (fun w => some (Value.int w)) hl, N0, rfl⟩
theorem own_pn0 : plainName "com/example/firstlight/firstlight/BitWriterPutPinLaw" = true := by first | (simp [plainName, overriddenIn]; done) | decide +kernel
theorem own_ef0 (m : MethodId) (b0 : Int32) (b1 : Int32) (b2 : Int32) (bw : Int32) (fil : Int32) (ba : Int32) : entryFrame m #[(.int b0), (.int b1), (.int b2), (.int bw), (.int fil), (.int ba)] maxLocals = mkF m 0 #[.val (.int b0), .val (.int b1), .val (.int b2), .val (.int bw), .val (.int fil), .val (.int ba), .unset, .unset, .unset, .unset, .unset, .unset, .unset, .unset, .unset, .unset, .unset, .unset, .unset, .unset, .unset, .unset, .unset, .unset, .unset, .unset] [] := by first | (simp [entryFrame, mkF, argsToLocals, Value.category, maxLocals]; done) | rfl
def own_Q0 (Z : State) (b0 : Int32) (b1 : Int32) (b2 : Int32) (bw : Int32) (fil : Int32) (ba : Int32) (h0 : Heap) (n0 : Nat) (v : Option Value) (h : Heap) (L : List Loc) : Prop := v = some (.int 1) ∧ Fr n0 L
set_option maxRecDepth 65536 in
set_option maxHeartbeats 40000000 in
theorem own_rm0 (l : Launch) (Z : State) (a0 : Array Value) (hw : ∀ d ∈ tables_1, d.before a0 Z = true) (ws : List Jvm.Cond) (b0 : Int32) (b1 : Int32) (b2 : Int32) (bw : Int32) (fil : Int32) (ba : Int32) (h0 : Heap) (n0 : Nat) (Z0 : n0 ≤ h0.size) :
    MetFree l x (head1 (Jvm.Cond.code x code maxLocals ret :: ws) room_1) (fun a U => a = #[(.int b0), (.int b1), (.int b2), (.int bw), (.int fil), (.int ba)] ∧ Z.Warmed39 U.vm ∧ U.heap = h0) (fun _ _ _ _ _ => True) (fun _ U o U' => ∃ v L, o = .returned v ∧ own_Q0 Z b0 b1 b2 bw fil ba h0 n0 v U'.heap L ∧ FrameEnd U o U' L 2 9) := by
  refine MetFree.of_bodySF (plainFor_of_name own_pn0) hisR ?_
  intro p e s m args below meth c s₁ Bd hml0 hP hK
  obtain ⟨rfl, hZ, hh⟩ := hP
  have hx := Bd.exec
  have hby := Bd.bytes
  have hml : c.maxLocals = 26 := hml0
  have hown : s.vm.findClass "com/example/firstlight/firstlight/BitWriterPutPinLaw" = some m.cls := findClass_of_methodNamed Bd.named
  have hnm := (name_of_methodNamed Bd.named Bd.method).1
  have X0 : Stand p l e room_1 s m #[(.int b0), (.int b1), (.int b2), (.int bw), (.int fil), (.int ba)] below meth c s₁ [] 0 0 := Stand.of_body Bd
  have e0 : s₁.heap = h0 := by rw [← hh, Bd.state]; rfl
  have N0 := Fr.nil n0
  refine own_out fun G hG => ?_
  rw [own_ef0 m b0 b1 b2 bw fil ba]
  show own_Go p.tables e below G (s₁.setTop (mkF m 0 #[.val (.int b0), .val (.int b1), .val (.int b2), .val (.int bw), .val (.int fil), .val (.int ba), .unset, .unset, .unset, .unset, .unset, .unset, .unset, .unset, .unset, .unset, .unset, .unset, .unset, .unset, .unset, .unset, .unset, .unset, .unset, .unset] []))
  refine own_of (S' := s₁.setTop (mkF m 1 #[.val (.int b0), .val (.int b1), .val (.int b2), .val (.int bw), .val (.int fil), .val (.int ba), .unset, .unset, .unset, .unset, .unset, .unset, .unset, .unset, .unset, .unset, .unset, .unset, .unset, .unset, .unset, .unset, .unset, .unset, .unset, .unset] [(.int bw)])) (fun t k => XS.iloadN X0.here hx rfl (hb hby at_0) rfl k) ?_
  refine own_of (S' := s₁.setTop (mkF m 3 #[.val (.int b0), .val (.int b1), .val (.int b2), .val (.int bw), .val (.int fil), .val (.int ba), .unset, .unset, .unset, .unset, .unset, .unset, .unset, .unset, .unset, .unset, .unset, .unset, .unset, .unset, .unset, .unset, .unset, .unset, .unset, .unset] [(.int (31 : Int32)), (.int bw)])) (fun t k => XS.bipush X0.here hx rfl (hb hby at_1) k) ?_
  refine own_of (S' := s₁.setTop (mkF m 4 #[.val (.int b0), .val (.int b1), .val (.int b2), .val (.int bw), .val (.int fil), .val (.int ba), .unset, .unset, .unset, .unset, .unset, .unset, .unset, .unset, .unset, .unset, .unset, .unset, .unset, .unset, .unset, .unset, .unset, .unset, .unset, .unset] [(.int (bw &&& (31 : Int32)))])) (fun t k => XS.iand X0.here hx rfl (hb hby at_3) rfl k) ?_
  refine own_of (S' := s₁.setTop (mkF m 6 #[.val (.int b0), .val (.int b1), .val (.int b2), .val (.int bw), .val (.int fil), .val (.int ba), .unset, .unset, .unset, .unset, .unset, .unset, .unset, .unset, .unset, .unset, .unset, .unset, .unset, .unset, .unset, .unset, .unset, .unset, .unset, .unset] [(.int (25 : Int32)), (.int (bw &&& (31 : Int32)))])) (fun t k => XS.bipush X0.here hx rfl (hb hby at_4) k) ?_
  have hz156 : (25 : Int32) ≠ (0 : Int32) := by decide
  refine own_of (S' := s₁.setTop (mkF m 7 #[.val (.int b0), .val (.int b1), .val (.int b2), .val (.int bw), .val (.int fil), .val (.int ba), .unset, .unset, .unset, .unset, .unset, .unset, .unset, .unset, .unset, .unset, .unset, .unset, .unset, .unset, .unset, .unset, .unset, .unset, .unset, .unset] [(.int ((bw &&& (31 : Int32)) % (25 : Int32)))])) (fun t k => iremM X0 hx rfl (hb hby at_6) rfl hz156 k) ?_
  generalize q7 : ((bw &&& (31 : Int32)) % (25 : Int32)) = x7
  refine own_of (S' := s₁.setTop (mkF m 9 #[.val (.int b0), .val (.int b1), .val (.int b2), .val (.int bw), .val (.int fil), .val (.int ba), .val (.int x7), .unset, .unset, .unset, .unset, .unset, .unset, .unset, .unset, .unset, .unset, .unset, .unset, .unset, .unset, .unset, .unset, .unset, .unset, .unset] [])) (fun t k => XS.istore X0.here hx rfl (hb hby at_7) rfl (l' := #[.val (.int b0), .val (.int b1), .val (.int b2), .val (.int bw), .val (.int fil), .val (.int ba), .val (.int x7), .unset, .unset, .unset, .unset, .unset, .unset, .unset, .unset, .unset, .unset, .unset, .unset, .unset, .unset, .unset, .unset, .unset, .unset, .unset]) rfl k) ?_
  refine own_of (S' := s₁.setTop (mkF m 10 #[.val (.int b0), .val (.int b1), .val (.int b2), .val (.int bw), .val (.int fil), .val (.int ba), .val (.int x7), .unset, .unset, .unset, .unset, .unset, .unset, .unset, .unset, .unset, .unset, .unset, .unset, .unset, .unset, .unset, .unset, .unset, .unset, .unset] [(.int bw)])) (fun t k => XS.iloadN X0.here hx rfl (hb hby at_9) rfl k) ?_
  refine own_of (S' := s₁.setTop (mkF m 11 #[.val (.int b0), .val (.int b1), .val (.int b2), .val (.int bw), .val (.int fil), .val (.int ba), .val (.int x7), .unset, .unset, .unset, .unset, .unset, .unset, .unset, .unset, .unset, .unset, .unset, .unset, .unset, .unset, .unset, .unset, .unset, .unset, .unset] [(.int (5 : Int32)), (.int bw)])) (fun t k => XS.iconst X0.here hx rfl (hb hby at_10) k) ?_
  refine own_of (S' := s₁.setTop (mkF m 12 #[.val (.int b0), .val (.int b1), .val (.int b2), .val (.int bw), .val (.int fil), .val (.int ba), .val (.int x7), .unset, .unset, .unset, .unset, .unset, .unset, .unset, .unset, .unset, .unset, .unset, .unset, .unset, .unset, .unset, .unset, .unset, .unset, .unset] [(.int ((bw.toUInt32 >>> ((5 : Int32) &&& 31).toUInt32).toInt32))])) (fun t k => XS.iushr X0.here hx rfl (hb hby at_11) rfl k) ?_
  refine own_of (S' := s₁.setTop (mkF m 14 #[.val (.int b0), .val (.int b1), .val (.int b2), .val (.int bw), .val (.int fil), .val (.int ba), .val (.int x7), .unset, .unset, .unset, .unset, .unset, .unset, .unset, .unset, .unset, .unset, .unset, .unset, .unset, .unset, .unset, .unset, .unset, .unset, .unset] [(.int (31 : Int32)), (.int ((bw.toUInt32 >>> ((5 : Int32) &&& 31).toUInt32).toInt32))])) (fun t k => XS.bipush X0.here hx rfl (hb hby at_12) k) ?_
  refine own_of (S' := s₁.setTop (mkF m 15 #[.val (.int b0), .val (.int b1), .val (.int b2), .val (.int bw), .val (.int fil), .val (.int ba), .val (.int x7), .unset, .unset, .unset, .unset, .unset, .unset, .unset, .unset, .unset, .unset, .unset, .unset, .unset, .unset, .unset, .unset, .unset, .unset, .unset] [(.int (((bw.toUInt32 >>> ((5 : Int32) &&& 31).toUInt32).toInt32) &&& (31 : Int32)))])) (fun t k => XS.iand X0.here hx rfl (hb hby at_14) rfl k) ?_
  refine own_of (S' := s₁.setTop (mkF m 17 #[.val (.int b0), .val (.int b1), .val (.int b2), .val (.int bw), .val (.int fil), .val (.int ba), .val (.int x7), .unset, .unset, .unset, .unset, .unset, .unset, .unset, .unset, .unset, .unset, .unset, .unset, .unset, .unset, .unset, .unset, .unset, .unset, .unset] [(.int (25 : Int32)), (.int (((bw.toUInt32 >>> ((5 : Int32) &&& 31).toUInt32).toInt32) &&& (31 : Int32)))])) (fun t k => XS.bipush X0.here hx rfl (hb hby at_15) k) ?_
  have hz157 : (25 : Int32) ≠ (0 : Int32) := by decide
  refine own_of (S' := s₁.setTop (mkF m 18 #[.val (.int b0), .val (.int b1), .val (.int b2), .val (.int bw), .val (.int fil), .val (.int ba), .val (.int x7), .unset, .unset, .unset, .unset, .unset, .unset, .unset, .unset, .unset, .unset, .unset, .unset, .unset, .unset, .unset, .unset, .unset, .unset, .unset] [(.int ((((bw.toUInt32 >>> ((5 : Int32) &&& 31).toUInt32).toInt32) &&& (31 : Int32)) % (25 : Int32)))])) (fun t k => iremM X0 hx rfl (hb hby at_17) rfl hz157 k) ?_
  generalize q18 : ((((bw.toUInt32 >>> ((5 : Int32) &&& 31).toUInt32).toInt32) &&& (31 : Int32)) % (25 : Int32)) = x18
  refine own_of (S' := s₁.setTop (mkF m 20 #[.val (.int b0), .val (.int b1), .val (.int b2), .val (.int bw), .val (.int fil), .val (.int ba), .val (.int x7), .val (.int x18), .unset, .unset, .unset, .unset, .unset, .unset, .unset, .unset, .unset, .unset, .unset, .unset, .unset, .unset, .unset, .unset, .unset, .unset] [])) (fun t k => XS.istore X0.here hx rfl (hb hby at_18) rfl (l' := #[.val (.int b0), .val (.int b1), .val (.int b2), .val (.int bw), .val (.int fil), .val (.int ba), .val (.int x7), .val (.int x18), .unset, .unset, .unset, .unset, .unset, .unset, .unset, .unset, .unset, .unset, .unset, .unset, .unset, .unset, .unset, .unset, .unset, .unset]) rfl k) ?_
  refine own_of (S' := s₁.setTop (mkF m 21 #[.val (.int b0), .val (.int b1), .val (.int b2), .val (.int bw), .val (.int fil), .val (.int ba), .val (.int x7), .val (.int x18), .unset, .unset, .unset, .unset, .unset, .unset, .unset, .unset, .unset, .unset, .unset, .unset, .unset, .unset, .unset, .unset, .unset, .unset] [(.int bw)])) (fun t k => XS.iloadN X0.here hx rfl (hb hby at_20) rfl k) ?_
  refine own_of (S' := s₁.setTop (mkF m 23 #[.val (.int b0), .val (.int b1), .val (.int b2), .val (.int bw), .val (.int fil), .val (.int ba), .val (.int x7), .val (.int x18), .unset, .unset, .unset, .unset, .unset, .unset, .unset, .unset, .unset, .unset, .unset, .unset, .unset, .unset, .unset, .unset, .unset, .unset] [(.int (10 : Int32)), (.int bw)])) (fun t k => XS.bipush X0.here hx rfl (hb hby at_21) k) ?_
  refine own_of (S' := s₁.setTop (mkF m 24 #[.val (.int b0), .val (.int b1), .val (.int b2), .val (.int bw), .val (.int fil), .val (.int ba), .val (.int x7), .val (.int x18), .unset, .unset, .unset, .unset, .unset, .unset, .unset, .unset, .unset, .unset, .unset, .unset, .unset, .unset, .unset, .unset, .unset, .unset] [(.int ((bw.toUInt32 >>> ((10 : Int32) &&& 31).toUInt32).toInt32))])) (fun t k => XS.iushr X0.here hx rfl (hb hby at_23) rfl k) ?_
  refine own_of (S' := s₁.setTop (mkF m 26 #[.val (.int b0), .val (.int b1), .val (.int b2), .val (.int bw), .val (.int fil), .val (.int ba), .val (.int x7), .val (.int x18), .unset, .unset, .unset, .unset, .unset, .unset, .unset, .unset, .unset, .unset, .unset, .unset, .unset, .unset, .unset, .unset, .unset, .unset] [(.int (31 : Int32)), (.int ((bw.toUInt32 >>> ((10 : Int32) &&& 31).toUInt32).toInt32))])) (fun t k => XS.bipush X0.here hx rfl (hb hby at_24) k) ?_
  refine own_of (S' := s₁.setTop (mkF m 27 #[.val (.int b0), .val (.int b1), .val (.int b2), .val (.int bw), .val (.int fil), .val (.int ba), .val (.int x7), .val (.int x18), .unset, .unset, .unset, .unset, .unset, .unset, .unset, .unset, .unset, .unset, .unset, .unset, .unset, .unset, .unset, .unset, .unset, .unset] [(.int (((bw.toUInt32 >>> ((10 : Int32) &&& 31).toUInt32).toInt32) &&& (31 : Int32)))])) (fun t k => XS.iand X0.here hx rfl (hb hby at_26) rfl k) ?_
  refine own_of (S' := s₁.setTop (mkF m 29 #[.val (.int b0), .val (.int b1), .val (.int b2), .val (.int bw), .val (.int fil), .val (.int ba), .val (.int x7), .val (.int x18), .unset, .unset, .unset, .unset, .unset, .unset, .unset, .unset, .unset, .unset, .unset, .unset, .unset, .unset, .unset, .unset, .unset, .unset] [(.int (25 : Int32)), (.int (((bw.toUInt32 >>> ((10 : Int32) &&& 31).toUInt32).toInt32) &&& (31 : Int32)))])) (fun t k => XS.bipush X0.here hx rfl (hb hby at_27) k) ?_
  have hz158 : (25 : Int32) ≠ (0 : Int32) := by decide
  refine own_of (S' := s₁.setTop (mkF m 30 #[.val (.int b0), .val (.int b1), .val (.int b2), .val (.int bw), .val (.int fil), .val (.int ba), .val (.int x7), .val (.int x18), .unset, .unset, .unset, .unset, .unset, .unset, .unset, .unset, .unset, .unset, .unset, .unset, .unset, .unset, .unset, .unset, .unset, .unset] [(.int ((((bw.toUInt32 >>> ((10 : Int32) &&& 31).toUInt32).toInt32) &&& (31 : Int32)) % (25 : Int32)))])) (fun t k => iremM X0 hx rfl (hb hby at_29) rfl hz158 k) ?_
  generalize q30 : ((((bw.toUInt32 >>> ((10 : Int32) &&& 31).toUInt32).toInt32) &&& (31 : Int32)) % (25 : Int32)) = x30
  refine own_of (S' := s₁.setTop (mkF m 32 #[.val (.int b0), .val (.int b1), .val (.int b2), .val (.int bw), .val (.int fil), .val (.int ba), .val (.int x7), .val (.int x18), .val (.int x30), .unset, .unset, .unset, .unset, .unset, .unset, .unset, .unset, .unset, .unset, .unset, .unset, .unset, .unset, .unset, .unset, .unset] [])) (fun t k => XS.istore X0.here hx rfl (hb hby at_30) rfl (l' := #[.val (.int b0), .val (.int b1), .val (.int b2), .val (.int bw), .val (.int fil), .val (.int ba), .val (.int x7), .val (.int x18), .val (.int x30), .unset, .unset, .unset, .unset, .unset, .unset, .unset, .unset, .unset, .unset, .unset, .unset, .unset, .unset, .unset, .unset, .unset]) rfl k) ?_
  refine own_of (S' := s₁.setTop (mkF m 33 #[.val (.int b0), .val (.int b1), .val (.int b2), .val (.int bw), .val (.int fil), .val (.int ba), .val (.int x7), .val (.int x18), .val (.int x30), .unset, .unset, .unset, .unset, .unset, .unset, .unset, .unset, .unset, .unset, .unset, .unset, .unset, .unset, .unset, .unset, .unset] [(.int b0)])) (fun t k => XS.iloadN X0.here hx rfl (hb hby at_32) rfl k) ?_
  refine own_of (S' := s₁.setTop (mkF m 34 #[.val (.int b0), .val (.int b1), .val (.int b2), .val (.int bw), .val (.int fil), .val (.int ba), .val (.int x7), .val (.int x18), .val (.int x30), .unset, .unset, .unset, .unset, .unset, .unset, .unset, .unset, .unset, .unset, .unset, .unset, .unset, .unset, .unset, .unset, .unset] [(.int (1 : Int32)), (.int b0)])) (fun t k => XS.iconst X0.here hx rfl (hb hby at_33) k) ?_
  refine own_of (S' := s₁.setTop (mkF m 36 #[.val (.int b0), .val (.int b1), .val (.int b2), .val (.int bw), .val (.int fil), .val (.int ba), .val (.int x7), .val (.int x18), .val (.int x30), .unset, .unset, .unset, .unset, .unset, .unset, .unset, .unset, .unset, .unset, .unset, .unset, .unset, .unset, .unset, .unset, .unset] [(.int x7), (.int (1 : Int32)), (.int b0)])) (fun t k => XS.iload X0.here hx rfl (hb hby at_34) rfl k) ?_
  refine own_of (S' := s₁.setTop (mkF m 37 #[.val (.int b0), .val (.int b1), .val (.int b2), .val (.int bw), .val (.int fil), .val (.int ba), .val (.int x7), .val (.int x18), .val (.int x30), .unset, .unset, .unset, .unset, .unset, .unset, .unset, .unset, .unset, .unset, .unset, .unset, .unset, .unset, .unset, .unset, .unset] [(.int ((1 : Int32) <<< (x7 &&& 31))), (.int b0)])) (fun t k => XS.ishl X0.here hx rfl (hb hby at_36) rfl k) ?_
  refine own_of (S' := s₁.setTop (mkF m 38 #[.val (.int b0), .val (.int b1), .val (.int b2), .val (.int bw), .val (.int fil), .val (.int ba), .val (.int x7), .val (.int x18), .val (.int x30), .unset, .unset, .unset, .unset, .unset, .unset, .unset, .unset, .unset, .unset, .unset, .unset, .unset, .unset, .unset, .unset, .unset] [(.int (1 : Int32)), (.int ((1 : Int32) <<< (x7 &&& 31))), (.int b0)])) (fun t k => XS.iconst X0.here hx rfl (hb hby at_37) k) ?_
  refine own_of (S' := s₁.setTop (mkF m 39 #[.val (.int b0), .val (.int b1), .val (.int b2), .val (.int bw), .val (.int fil), .val (.int ba), .val (.int x7), .val (.int x18), .val (.int x30), .unset, .unset, .unset, .unset, .unset, .unset, .unset, .unset, .unset, .unset, .unset, .unset, .unset, .unset, .unset, .unset, .unset] [(.int (((1 : Int32) <<< (x7 &&& 31)) - (1 : Int32))), (.int b0)])) (fun t k => XS.isub X0.here hx rfl (hb hby at_38) rfl k) ?_
  refine own_of (S' := s₁.setTop (mkF m 40 #[.val (.int b0), .val (.int b1), .val (.int b2), .val (.int bw), .val (.int fil), .val (.int ba), .val (.int x7), .val (.int x18), .val (.int x30), .unset, .unset, .unset, .unset, .unset, .unset, .unset, .unset, .unset, .unset, .unset, .unset, .unset, .unset, .unset, .unset, .unset] [(.int (b0 &&& (((1 : Int32) <<< (x7 &&& 31)) - (1 : Int32))))])) (fun t k => XS.iand X0.here hx rfl (hb hby at_39) rfl k) ?_
  generalize q40 : (b0 &&& (((1 : Int32) <<< (x7 &&& 31)) - (1 : Int32))) = x40
  refine own_of (S' := s₁.setTop (mkF m 42 #[.val (.int b0), .val (.int b1), .val (.int b2), .val (.int bw), .val (.int fil), .val (.int ba), .val (.int x7), .val (.int x18), .val (.int x30), .val (.int x40), .unset, .unset, .unset, .unset, .unset, .unset, .unset, .unset, .unset, .unset, .unset, .unset, .unset, .unset, .unset, .unset] [])) (fun t k => XS.istore X0.here hx rfl (hb hby at_40) rfl (l' := #[.val (.int b0), .val (.int b1), .val (.int b2), .val (.int bw), .val (.int fil), .val (.int ba), .val (.int x7), .val (.int x18), .val (.int x30), .val (.int x40), .unset, .unset, .unset, .unset, .unset, .unset, .unset, .unset, .unset, .unset, .unset, .unset, .unset, .unset, .unset, .unset]) rfl k) ?_
  refine own_of (S' := s₁.setTop (mkF m 43 #[.val (.int b0), .val (.int b1), .val (.int b2), .val (.int bw), .val (.int fil), .val (.int ba), .val (.int x7), .val (.int x18), .val (.int x30), .val (.int x40), .unset, .unset, .unset, .unset, .unset, .unset, .unset, .unset, .unset, .unset, .unset, .unset, .unset, .unset, .unset, .unset] [(.int b1)])) (fun t k => XS.iloadN X0.here hx rfl (hb hby at_42) rfl k) ?_
  refine own_of (S' := s₁.setTop (mkF m 44 #[.val (.int b0), .val (.int b1), .val (.int b2), .val (.int bw), .val (.int fil), .val (.int ba), .val (.int x7), .val (.int x18), .val (.int x30), .val (.int x40), .unset, .unset, .unset, .unset, .unset, .unset, .unset, .unset, .unset, .unset, .unset, .unset, .unset, .unset, .unset, .unset] [(.int (1 : Int32)), (.int b1)])) (fun t k => XS.iconst X0.here hx rfl (hb hby at_43) k) ?_
  refine own_of (S' := s₁.setTop (mkF m 46 #[.val (.int b0), .val (.int b1), .val (.int b2), .val (.int bw), .val (.int fil), .val (.int ba), .val (.int x7), .val (.int x18), .val (.int x30), .val (.int x40), .unset, .unset, .unset, .unset, .unset, .unset, .unset, .unset, .unset, .unset, .unset, .unset, .unset, .unset, .unset, .unset] [(.int x18), (.int (1 : Int32)), (.int b1)])) (fun t k => XS.iload X0.here hx rfl (hb hby at_44) rfl k) ?_
  refine own_of (S' := s₁.setTop (mkF m 47 #[.val (.int b0), .val (.int b1), .val (.int b2), .val (.int bw), .val (.int fil), .val (.int ba), .val (.int x7), .val (.int x18), .val (.int x30), .val (.int x40), .unset, .unset, .unset, .unset, .unset, .unset, .unset, .unset, .unset, .unset, .unset, .unset, .unset, .unset, .unset, .unset] [(.int ((1 : Int32) <<< (x18 &&& 31))), (.int b1)])) (fun t k => XS.ishl X0.here hx rfl (hb hby at_46) rfl k) ?_
  refine own_of (S' := s₁.setTop (mkF m 48 #[.val (.int b0), .val (.int b1), .val (.int b2), .val (.int bw), .val (.int fil), .val (.int ba), .val (.int x7), .val (.int x18), .val (.int x30), .val (.int x40), .unset, .unset, .unset, .unset, .unset, .unset, .unset, .unset, .unset, .unset, .unset, .unset, .unset, .unset, .unset, .unset] [(.int (1 : Int32)), (.int ((1 : Int32) <<< (x18 &&& 31))), (.int b1)])) (fun t k => XS.iconst X0.here hx rfl (hb hby at_47) k) ?_
  refine own_of (S' := s₁.setTop (mkF m 49 #[.val (.int b0), .val (.int b1), .val (.int b2), .val (.int bw), .val (.int fil), .val (.int ba), .val (.int x7), .val (.int x18), .val (.int x30), .val (.int x40), .unset, .unset, .unset, .unset, .unset, .unset, .unset, .unset, .unset, .unset, .unset, .unset, .unset, .unset, .unset, .unset] [(.int (((1 : Int32) <<< (x18 &&& 31)) - (1 : Int32))), (.int b1)])) (fun t k => XS.isub X0.here hx rfl (hb hby at_48) rfl k) ?_
  refine own_of (S' := s₁.setTop (mkF m 50 #[.val (.int b0), .val (.int b1), .val (.int b2), .val (.int bw), .val (.int fil), .val (.int ba), .val (.int x7), .val (.int x18), .val (.int x30), .val (.int x40), .unset, .unset, .unset, .unset, .unset, .unset, .unset, .unset, .unset, .unset, .unset, .unset, .unset, .unset, .unset, .unset] [(.int (b1 &&& (((1 : Int32) <<< (x18 &&& 31)) - (1 : Int32))))])) (fun t k => XS.iand X0.here hx rfl (hb hby at_49) rfl k) ?_
  generalize q50 : (b1 &&& (((1 : Int32) <<< (x18 &&& 31)) - (1 : Int32))) = x50
  refine own_of (S' := s₁.setTop (mkF m 52 #[.val (.int b0), .val (.int b1), .val (.int b2), .val (.int bw), .val (.int fil), .val (.int ba), .val (.int x7), .val (.int x18), .val (.int x30), .val (.int x40), .val (.int x50), .unset, .unset, .unset, .unset, .unset, .unset, .unset, .unset, .unset, .unset, .unset, .unset, .unset, .unset, .unset] [])) (fun t k => XS.istore X0.here hx rfl (hb hby at_50) rfl (l' := #[.val (.int b0), .val (.int b1), .val (.int b2), .val (.int bw), .val (.int fil), .val (.int ba), .val (.int x7), .val (.int x18), .val (.int x30), .val (.int x40), .val (.int x50), .unset, .unset, .unset, .unset, .unset, .unset, .unset, .unset, .unset, .unset, .unset, .unset, .unset, .unset, .unset]) rfl k) ?_
  refine own_of (S' := s₁.setTop (mkF m 53 #[.val (.int b0), .val (.int b1), .val (.int b2), .val (.int bw), .val (.int fil), .val (.int ba), .val (.int x7), .val (.int x18), .val (.int x30), .val (.int x40), .val (.int x50), .unset, .unset, .unset, .unset, .unset, .unset, .unset, .unset, .unset, .unset, .unset, .unset, .unset, .unset, .unset] [(.int b2)])) (fun t k => XS.iloadN X0.here hx rfl (hb hby at_52) rfl k) ?_
  refine own_of (S' := s₁.setTop (mkF m 54 #[.val (.int b0), .val (.int b1), .val (.int b2), .val (.int bw), .val (.int fil), .val (.int ba), .val (.int x7), .val (.int x18), .val (.int x30), .val (.int x40), .val (.int x50), .unset, .unset, .unset, .unset, .unset, .unset, .unset, .unset, .unset, .unset, .unset, .unset, .unset, .unset, .unset] [(.int (1 : Int32)), (.int b2)])) (fun t k => XS.iconst X0.here hx rfl (hb hby at_53) k) ?_
  refine own_of (S' := s₁.setTop (mkF m 56 #[.val (.int b0), .val (.int b1), .val (.int b2), .val (.int bw), .val (.int fil), .val (.int ba), .val (.int x7), .val (.int x18), .val (.int x30), .val (.int x40), .val (.int x50), .unset, .unset, .unset, .unset, .unset, .unset, .unset, .unset, .unset, .unset, .unset, .unset, .unset, .unset, .unset] [(.int x30), (.int (1 : Int32)), (.int b2)])) (fun t k => XS.iload X0.here hx rfl (hb hby at_54) rfl k) ?_
  refine own_of (S' := s₁.setTop (mkF m 57 #[.val (.int b0), .val (.int b1), .val (.int b2), .val (.int bw), .val (.int fil), .val (.int ba), .val (.int x7), .val (.int x18), .val (.int x30), .val (.int x40), .val (.int x50), .unset, .unset, .unset, .unset, .unset, .unset, .unset, .unset, .unset, .unset, .unset, .unset, .unset, .unset, .unset] [(.int ((1 : Int32) <<< (x30 &&& 31))), (.int b2)])) (fun t k => XS.ishl X0.here hx rfl (hb hby at_56) rfl k) ?_
  refine own_of (S' := s₁.setTop (mkF m 58 #[.val (.int b0), .val (.int b1), .val (.int b2), .val (.int bw), .val (.int fil), .val (.int ba), .val (.int x7), .val (.int x18), .val (.int x30), .val (.int x40), .val (.int x50), .unset, .unset, .unset, .unset, .unset, .unset, .unset, .unset, .unset, .unset, .unset, .unset, .unset, .unset, .unset] [(.int (1 : Int32)), (.int ((1 : Int32) <<< (x30 &&& 31))), (.int b2)])) (fun t k => XS.iconst X0.here hx rfl (hb hby at_57) k) ?_
  refine own_of (S' := s₁.setTop (mkF m 59 #[.val (.int b0), .val (.int b1), .val (.int b2), .val (.int bw), .val (.int fil), .val (.int ba), .val (.int x7), .val (.int x18), .val (.int x30), .val (.int x40), .val (.int x50), .unset, .unset, .unset, .unset, .unset, .unset, .unset, .unset, .unset, .unset, .unset, .unset, .unset, .unset, .unset] [(.int (((1 : Int32) <<< (x30 &&& 31)) - (1 : Int32))), (.int b2)])) (fun t k => XS.isub X0.here hx rfl (hb hby at_58) rfl k) ?_
  refine own_of (S' := s₁.setTop (mkF m 60 #[.val (.int b0), .val (.int b1), .val (.int b2), .val (.int bw), .val (.int fil), .val (.int ba), .val (.int x7), .val (.int x18), .val (.int x30), .val (.int x40), .val (.int x50), .unset, .unset, .unset, .unset, .unset, .unset, .unset, .unset, .unset, .unset, .unset, .unset, .unset, .unset, .unset] [(.int (b2 &&& (((1 : Int32) <<< (x30 &&& 31)) - (1 : Int32))))])) (fun t k => XS.iand X0.here hx rfl (hb hby at_59) rfl k) ?_
  generalize q60 : (b2 &&& (((1 : Int32) <<< (x30 &&& 31)) - (1 : Int32))) = x60
  refine own_of (S' := s₁.setTop (mkF m 62 #[.val (.int b0), .val (.int b1), .val (.int b2), .val (.int bw), .val (.int fil), .val (.int ba), .val (.int x7), .val (.int x18), .val (.int x30), .val (.int x40), .val (.int x50), .val (.int x60), .unset, .unset, .unset, .unset, .unset, .unset, .unset, .unset, .unset, .unset, .unset, .unset, .unset, .unset] [])) (fun t k => XS.istore X0.here hx rfl (hb hby at_60) rfl (l' := #[.val (.int b0), .val (.int b1), .val (.int b2), .val (.int bw), .val (.int fil), .val (.int ba), .val (.int x7), .val (.int x18), .val (.int x30), .val (.int x40), .val (.int x50), .val (.int x60), .unset, .unset, .unset, .unset, .unset, .unset, .unset, .unset, .unset, .unset, .unset, .unset, .unset, .unset]) rfl k) ?_
  refine own_of (S' := s₁.setTop (mkF m 64 #[.val (.int b0), .val (.int b1), .val (.int b2), .val (.int bw), .val (.int fil), .val (.int ba), .val (.int x7), .val (.int x18), .val (.int x30), .val (.int x40), .val (.int x50), .val (.int x60), .unset, .unset, .unset, .unset, .unset, .unset, .unset, .unset, .unset, .unset, .unset, .unset, .unset, .unset] [(.int ba)])) (fun t k => XS.iload X0.here hx rfl (hb hby at_62) rfl k) ?_
  refine own_of (S' := s₁.setTop (mkF m 65 #[.val (.int b0), .val (.int b1), .val (.int b2), .val (.int bw), .val (.int fil), .val (.int ba), .val (.int x7), .val (.int x18), .val (.int x30), .val (.int x40), .val (.int x50), .val (.int x60), .unset, .unset, .unset, .unset, .unset, .unset, .unset, .unset, .unset, .unset, .unset, .unset, .unset, .unset] [(.int (1 : Int32)), (.int ba)])) (fun t k => XS.iconst X0.here hx rfl (hb hby at_64) k) ?_
  refine own_of (S' := s₁.setTop (mkF m 66 #[.val (.int b0), .val (.int b1), .val (.int b2), .val (.int bw), .val (.int fil), .val (.int ba), .val (.int x7), .val (.int x18), .val (.int x30), .val (.int x40), .val (.int x50), .val (.int x60), .unset, .unset, .unset, .unset, .unset, .unset, .unset, .unset, .unset, .unset, .unset, .unset, .unset, .unset] [(.int (ba &&& (1 : Int32)))])) (fun t k => XS.iand X0.here hx rfl (hb hby at_65) rfl k) ?_
  generalize q66 : (ba &&& (1 : Int32)) = x66
  refine own_of (S' := s₁.setTop (mkF m 68 #[.val (.int b0), .val (.int b1), .val (.int b2), .val (.int bw), .val (.int fil), .val (.int ba), .val (.int x7), .val (.int x18), .val (.int x30), .val (.int x40), .val (.int x50), .val (.int x60), .val (.int x66), .unset, .unset, .unset, .unset, .unset, .unset, .unset, .unset, .unset, .unset, .unset, .unset, .unset] [])) (fun t k => XS.istore X0.here hx rfl (hb hby at_66) rfl (l' := #[.val (.int b0), .val (.int b1), .val (.int b2), .val (.int bw), .val (.int fil), .val (.int ba), .val (.int x7), .val (.int x18), .val (.int x30), .val (.int x40), .val (.int x50), .val (.int x60), .val (.int x66), .unset, .unset, .unset, .unset, .unset, .unset, .unset, .unset, .unset, .unset, .unset, .unset, .unset]) rfl k) ?_
  refine own_of (S' := s₁.setTop (mkF m 69 #[.val (.int b0), .val (.int b1), .val (.int b2), .val (.int bw), .val (.int fil), .val (.int ba), .val (.int x7), .val (.int x18), .val (.int x30), .val (.int x40), .val (.int x50), .val (.int x60), .val (.int x66), .unset, .unset, .unset, .unset, .unset, .unset, .unset, .unset, .unset, .unset, .unset, .unset, .unset] [(.int (5 : Int32))])) (fun t k => XS.iconst X0.here hx rfl (hb hby at_68) k) ?_
  obtain ⟨T159, h159, k159, X159, e159, E159, A159, st159⟩ := newP X0 hx hZ (hw _ (List.mem_of_getElem? (i := 0) rfl)) e0 (g := (mkF m 69 #[.val (.int b0), .val (.int b1), .val (.int b2), .val (.int bw), .val (.int fil), .val (.int ba), .val (.int x7), .val (.int x18), .val (.int x30), .val (.int x40), .val (.int x50), .val (.int x60), .val (.int x66), .unset, .unset, .unset, .unset, .unset, .unset, .unset, .unset, .unset, .unset, .unset, .unset, .unset] [(.int (5 : Int32))])) rfl (hb hby at_69) rfl (by decide) (cap := 5) (by decide) (by decide) (by decide) (by decide)
  obtain ⟨b159, g159⟩ : ∃ z, z = h0.size := ⟨_, rfl⟩
  have g_b159 : n0 ≤ b159 := Nat.le_trans Z0 (Nat.le_of_eq g159.symm)
  rw [← g159] at A159 st159
  have f160 : own_AI Z h159 b159 k159 .int (5 : Int32) [0, 0, 0, 0, 0] := own_newI A159 (by decide) 5 (by decide) rfl
  have z161 : n0 ≤ h159.size := Nat.le_trans Z0 E159.1
  refine own_of (S' := T159.setTop (mkF m 71 #[.val (.int b0), .val (.int b1), .val (.int b2), .val (.int bw), .val (.int fil), .val (.int ba), .val (.int x7), .val (.int x18), .val (.int x30), .val (.int x40), .val (.int x50), .val (.int x60), .val (.int x66), .unset, .unset, .unset, .unset, .unset, .unset, .unset, .unset, .unset, .unset, .unset, .unset, .unset] [(.ref b159)])) st159 ?_
  refine own_of (S' := T159.setTop (mkF m 73 #[.val (.int b0), .val (.int b1), .val (.int b2), .val (.int bw), .val (.int fil), .val (.int ba), .val (.int x7), .val (.int x18), .val (.int x30), .val (.int x40), .val (.int x50), .val (.int x60), .val (.int x66), .val (.ref b159), .unset, .unset, .unset, .unset, .unset, .unset, .unset, .unset, .unset, .unset, .unset, .unset] [])) (fun t k => XS.astore X159.here hx rfl (hb hby at_71) rfl rfl (l' := #[.val (.int b0), .val (.int b1), .val (.int b2), .val (.int bw), .val (.int fil), .val (.int ba), .val (.int x7), .val (.int x18), .val (.int x30), .val (.int x40), .val (.int x50), .val (.int x60), .val (.int x66), .val (.ref b159), .unset, .unset, .unset, .unset, .unset, .unset, .unset, .unset, .unset, .unset, .unset, .unset]) rfl k) ?_
  refine own_of (S' := T159.setTop (mkF m 75 #[.val (.int b0), .val (.int b1), .val (.int b2), .val (.int bw), .val (.int fil), .val (.int ba), .val (.int x7), .val (.int x18), .val (.int x30), .val (.int x40), .val (.int x50), .val (.int x60), .val (.int x66), .val (.ref b159), .unset, .unset, .unset, .unset, .unset, .unset, .unset, .unset, .unset, .unset, .unset, .unset] [(.ref b159)])) (fun t k => XS.aload X159.here hx rfl (hb hby at_73) rfl rfl k) ?_
  refine own_of (S' := T159.setTop (mkF m 76 #[.val (.int b0), .val (.int b1), .val (.int b2), .val (.int bw), .val (.int fil), .val (.int ba), .val (.int x7), .val (.int x18), .val (.int x30), .val (.int x40), .val (.int x50), .val (.int x60), .val (.int x66), .val (.ref b159), .unset, .unset, .unset, .unset, .unset, .unset, .unset, .unset, .unset, .unset, .unset, .unset] [(.int (0 : Int32)), (.ref b159)])) (fun t k => XS.iconst X159.here hx rfl (hb hby at_75) k) ?_
  refine own_of (S' := T159.setTop (mkF m 78 #[.val (.int b0), .val (.int b1), .val (.int b2), .val (.int bw), .val (.int fil), .val (.int ba), .val (.int x7), .val (.int x18), .val (.int x30), .val (.int x40), .val (.int x50), .val (.int x60), .val (.int x66), .val (.ref b159), .unset, .unset, .unset, .unset, .unset, .unset, .unset, .unset, .unset, .unset, .unset, .unset] [(.int fil), (.int (0 : Int32)), (.ref b159)])) (fun t k => XS.iload X159.here hx rfl (hb hby at_76) rfl k) ?_
  obtain ⟨T162, h162, X162, e162, W162, V162, st162⟩ := own_stI X159 hx hZ e159 f160 (j := (0 : Int32)) ⟨by decide, by decide⟩ (g := (mkF m 78 #[.val (.int b0), .val (.int b1), .val (.int b2), .val (.int bw), .val (.int fil), .val (.int ba), .val (.int x7), .val (.int x18), .val (.int x30), .val (.int x40), .val (.int x50), .val (.int x60), .val (.int x66), .val (.ref b159), .unset, .unset, .unset, .unset, .unset, .unset, .unset, .unset, .unset, .unset, .unset, .unset] [(.int fil), (.int (0 : Int32)), (.ref b159)])) rfl rfl (hb hby at_78)
  have f163 : own_AI Z h162 b159 k159 .int (5 : Int32) [fil, 0, 0, 0, 0] := V162
  have N162 := Fr.snoc X162 N0 g_b159
  have z164 : n0 ≤ h162.size := Nat.le_trans z161 (Keep.of_wr W162).1
  refine own_of (S' := T162.setTop (mkF m 79 #[.val (.int b0), .val (.int b1), .val (.int b2), .val (.int bw), .val (.int fil), .val (.int ba), .val (.int x7), .val (.int x18), .val (.int x30), .val (.int x40), .val (.int x50), .val (.int x60), .val (.int x66), .val (.ref b159), .unset, .unset, .unset, .unset, .unset, .unset, .unset, .unset, .unset, .unset, .unset, .unset] [])) st162 ?_
  refine own_of (S' := T162.setTop (mkF m 81 #[.val (.int b0), .val (.int b1), .val (.int b2), .val (.int bw), .val (.int fil), .val (.int ba), .val (.int x7), .val (.int x18), .val (.int x30), .val (.int x40), .val (.int x50), .val (.int x60), .val (.int x66), .val (.ref b159), .unset, .unset, .unset, .unset, .unset, .unset, .unset, .unset, .unset, .unset, .unset, .unset] [(.ref b159)])) (fun t k => XS.aload X162.here hx rfl (hb hby at_79) rfl rfl k) ?_
  refine own_of (S' := T162.setTop (mkF m 82 #[.val (.int b0), .val (.int b1), .val (.int b2), .val (.int bw), .val (.int fil), .val (.int ba), .val (.int x7), .val (.int x18), .val (.int x30), .val (.int x40), .val (.int x50), .val (.int x60), .val (.int x66), .val (.ref b159), .unset, .unset, .unset, .unset, .unset, .unset, .unset, .unset, .unset, .unset, .unset, .unset] [(.int (1 : Int32)), (.ref b159)])) (fun t k => XS.iconst X162.here hx rfl (hb hby at_81) k) ?_
  refine own_of (S' := T162.setTop (mkF m 84 #[.val (.int b0), .val (.int b1), .val (.int b2), .val (.int bw), .val (.int fil), .val (.int ba), .val (.int x7), .val (.int x18), .val (.int x30), .val (.int x40), .val (.int x50), .val (.int x60), .val (.int x66), .val (.ref b159), .unset, .unset, .unset, .unset, .unset, .unset, .unset, .unset, .unset, .unset, .unset, .unset] [(.int fil), (.int (1 : Int32)), (.ref b159)])) (fun t k => XS.iload X162.here hx rfl (hb hby at_82) rfl k) ?_
  obtain ⟨T165, h165, X165, e165, W165, V165, st165⟩ := own_stI X162 hx hZ e162 f163 (j := (1 : Int32)) ⟨by decide, by decide⟩ (g := (mkF m 84 #[.val (.int b0), .val (.int b1), .val (.int b2), .val (.int bw), .val (.int fil), .val (.int ba), .val (.int x7), .val (.int x18), .val (.int x30), .val (.int x40), .val (.int x50), .val (.int x60), .val (.int x66), .val (.ref b159), .unset, .unset, .unset, .unset, .unset, .unset, .unset, .unset, .unset, .unset, .unset, .unset] [(.int fil), (.int (1 : Int32)), (.ref b159)])) rfl rfl (hb hby at_84)
  have f166 : own_AI Z h165 b159 k159 .int (5 : Int32) [fil, fil, 0, 0, 0] := V165
  have N165 := Fr.snoc X165 N162 g_b159
  have z167 : n0 ≤ h165.size := Nat.le_trans z164 (Keep.of_wr W165).1
  refine own_of (S' := T165.setTop (mkF m 85 #[.val (.int b0), .val (.int b1), .val (.int b2), .val (.int bw), .val (.int fil), .val (.int ba), .val (.int x7), .val (.int x18), .val (.int x30), .val (.int x40), .val (.int x50), .val (.int x60), .val (.int x66), .val (.ref b159), .unset, .unset, .unset, .unset, .unset, .unset, .unset, .unset, .unset, .unset, .unset, .unset] [])) st165 ?_
  refine own_of (S' := T165.setTop (mkF m 87 #[.val (.int b0), .val (.int b1), .val (.int b2), .val (.int bw), .val (.int fil), .val (.int ba), .val (.int x7), .val (.int x18), .val (.int x30), .val (.int x40), .val (.int x50), .val (.int x60), .val (.int x66), .val (.ref b159), .unset, .unset, .unset, .unset, .unset, .unset, .unset, .unset, .unset, .unset, .unset, .unset] [(.ref b159)])) (fun t k => XS.aload X165.here hx rfl (hb hby at_85) rfl rfl k) ?_
  refine own_of (S' := T165.setTop (mkF m 88 #[.val (.int b0), .val (.int b1), .val (.int b2), .val (.int bw), .val (.int fil), .val (.int ba), .val (.int x7), .val (.int x18), .val (.int x30), .val (.int x40), .val (.int x50), .val (.int x60), .val (.int x66), .val (.ref b159), .unset, .unset, .unset, .unset, .unset, .unset, .unset, .unset, .unset, .unset, .unset, .unset] [(.int (2 : Int32)), (.ref b159)])) (fun t k => XS.iconst X165.here hx rfl (hb hby at_87) k) ?_
  refine own_of (S' := T165.setTop (mkF m 90 #[.val (.int b0), .val (.int b1), .val (.int b2), .val (.int bw), .val (.int fil), .val (.int ba), .val (.int x7), .val (.int x18), .val (.int x30), .val (.int x40), .val (.int x50), .val (.int x60), .val (.int x66), .val (.ref b159), .unset, .unset, .unset, .unset, .unset, .unset, .unset, .unset, .unset, .unset, .unset, .unset] [(.int fil), (.int (2 : Int32)), (.ref b159)])) (fun t k => XS.iload X165.here hx rfl (hb hby at_88) rfl k) ?_
  obtain ⟨T168, h168, X168, e168, W168, V168, st168⟩ := own_stI X165 hx hZ e165 f166 (j := (2 : Int32)) ⟨by decide, by decide⟩ (g := (mkF m 90 #[.val (.int b0), .val (.int b1), .val (.int b2), .val (.int bw), .val (.int fil), .val (.int ba), .val (.int x7), .val (.int x18), .val (.int x30), .val (.int x40), .val (.int x50), .val (.int x60), .val (.int x66), .val (.ref b159), .unset, .unset, .unset, .unset, .unset, .unset, .unset, .unset, .unset, .unset, .unset, .unset] [(.int fil), (.int (2 : Int32)), (.ref b159)])) rfl rfl (hb hby at_90)
  have f169 : own_AI Z h168 b159 k159 .int (5 : Int32) [fil, fil, fil, 0, 0] := V168
  have N168 := Fr.snoc X168 N165 g_b159
  have z170 : n0 ≤ h168.size := Nat.le_trans z167 (Keep.of_wr W168).1
  refine own_of (S' := T168.setTop (mkF m 91 #[.val (.int b0), .val (.int b1), .val (.int b2), .val (.int bw), .val (.int fil), .val (.int ba), .val (.int x7), .val (.int x18), .val (.int x30), .val (.int x40), .val (.int x50), .val (.int x60), .val (.int x66), .val (.ref b159), .unset, .unset, .unset, .unset, .unset, .unset, .unset, .unset, .unset, .unset, .unset, .unset] [])) st168 ?_
  refine own_of (S' := T168.setTop (mkF m 93 #[.val (.int b0), .val (.int b1), .val (.int b2), .val (.int bw), .val (.int fil), .val (.int ba), .val (.int x7), .val (.int x18), .val (.int x30), .val (.int x40), .val (.int x50), .val (.int x60), .val (.int x66), .val (.ref b159), .unset, .unset, .unset, .unset, .unset, .unset, .unset, .unset, .unset, .unset, .unset, .unset] [(.ref b159)])) (fun t k => XS.aload X168.here hx rfl (hb hby at_91) rfl rfl k) ?_
  refine own_of (S' := T168.setTop (mkF m 94 #[.val (.int b0), .val (.int b1), .val (.int b2), .val (.int bw), .val (.int fil), .val (.int ba), .val (.int x7), .val (.int x18), .val (.int x30), .val (.int x40), .val (.int x50), .val (.int x60), .val (.int x66), .val (.ref b159), .unset, .unset, .unset, .unset, .unset, .unset, .unset, .unset, .unset, .unset, .unset, .unset] [(.int (3 : Int32)), (.ref b159)])) (fun t k => XS.iconst X168.here hx rfl (hb hby at_93) k) ?_
  refine own_of (S' := T168.setTop (mkF m 96 #[.val (.int b0), .val (.int b1), .val (.int b2), .val (.int bw), .val (.int fil), .val (.int ba), .val (.int x7), .val (.int x18), .val (.int x30), .val (.int x40), .val (.int x50), .val (.int x60), .val (.int x66), .val (.ref b159), .unset, .unset, .unset, .unset, .unset, .unset, .unset, .unset, .unset, .unset, .unset, .unset] [(.int fil), (.int (3 : Int32)), (.ref b159)])) (fun t k => XS.iload X168.here hx rfl (hb hby at_94) rfl k) ?_
  obtain ⟨T171, h171, X171, e171, W171, V171, st171⟩ := own_stI X168 hx hZ e168 f169 (j := (3 : Int32)) ⟨by decide, by decide⟩ (g := (mkF m 96 #[.val (.int b0), .val (.int b1), .val (.int b2), .val (.int bw), .val (.int fil), .val (.int ba), .val (.int x7), .val (.int x18), .val (.int x30), .val (.int x40), .val (.int x50), .val (.int x60), .val (.int x66), .val (.ref b159), .unset, .unset, .unset, .unset, .unset, .unset, .unset, .unset, .unset, .unset, .unset, .unset] [(.int fil), (.int (3 : Int32)), (.ref b159)])) rfl rfl (hb hby at_96)
  have f172 : own_AI Z h171 b159 k159 .int (5 : Int32) [fil, fil, fil, fil, 0] := V171
  have N171 := Fr.snoc X171 N168 g_b159
  have z173 : n0 ≤ h171.size := Nat.le_trans z170 (Keep.of_wr W171).1
  refine own_of (S' := T171.setTop (mkF m 97 #[.val (.int b0), .val (.int b1), .val (.int b2), .val (.int bw), .val (.int fil), .val (.int ba), .val (.int x7), .val (.int x18), .val (.int x30), .val (.int x40), .val (.int x50), .val (.int x60), .val (.int x66), .val (.ref b159), .unset, .unset, .unset, .unset, .unset, .unset, .unset, .unset, .unset, .unset, .unset, .unset] [])) st171 ?_
  refine own_of (S' := T171.setTop (mkF m 99 #[.val (.int b0), .val (.int b1), .val (.int b2), .val (.int bw), .val (.int fil), .val (.int ba), .val (.int x7), .val (.int x18), .val (.int x30), .val (.int x40), .val (.int x50), .val (.int x60), .val (.int x66), .val (.ref b159), .unset, .unset, .unset, .unset, .unset, .unset, .unset, .unset, .unset, .unset, .unset, .unset] [(.ref b159)])) (fun t k => XS.aload X171.here hx rfl (hb hby at_97) rfl rfl k) ?_
  refine own_of (S' := T171.setTop (mkF m 100 #[.val (.int b0), .val (.int b1), .val (.int b2), .val (.int bw), .val (.int fil), .val (.int ba), .val (.int x7), .val (.int x18), .val (.int x30), .val (.int x40), .val (.int x50), .val (.int x60), .val (.int x66), .val (.ref b159), .unset, .unset, .unset, .unset, .unset, .unset, .unset, .unset, .unset, .unset, .unset, .unset] [(.int (4 : Int32)), (.ref b159)])) (fun t k => XS.iconst X171.here hx rfl (hb hby at_99) k) ?_
  refine own_of (S' := T171.setTop (mkF m 102 #[.val (.int b0), .val (.int b1), .val (.int b2), .val (.int bw), .val (.int fil), .val (.int ba), .val (.int x7), .val (.int x18), .val (.int x30), .val (.int x40), .val (.int x50), .val (.int x60), .val (.int x66), .val (.ref b159), .unset, .unset, .unset, .unset, .unset, .unset, .unset, .unset, .unset, .unset, .unset, .unset] [(.int fil), (.int (4 : Int32)), (.ref b159)])) (fun t k => XS.iload X171.here hx rfl (hb hby at_100) rfl k) ?_
  obtain ⟨T174, h174, X174, e174, W174, V174, st174⟩ := own_stI X171 hx hZ e171 f172 (j := (4 : Int32)) ⟨by decide, by decide⟩ (g := (mkF m 102 #[.val (.int b0), .val (.int b1), .val (.int b2), .val (.int bw), .val (.int fil), .val (.int ba), .val (.int x7), .val (.int x18), .val (.int x30), .val (.int x40), .val (.int x50), .val (.int x60), .val (.int x66), .val (.ref b159), .unset, .unset, .unset, .unset, .unset, .unset, .unset, .unset, .unset, .unset, .unset, .unset] [(.int fil), (.int (4 : Int32)), (.ref b159)])) rfl rfl (hb hby at_102)
  have f175 : own_AI Z h174 b159 k159 .int (5 : Int32) [fil, fil, fil, fil, fil] := V174
  have N174 := Fr.snoc X174 N171 g_b159
  have z176 : n0 ≤ h174.size := Nat.le_trans z173 (Keep.of_wr W174).1
  refine own_of (S' := T174.setTop (mkF m 103 #[.val (.int b0), .val (.int b1), .val (.int b2), .val (.int bw), .val (.int fil), .val (.int ba), .val (.int x7), .val (.int x18), .val (.int x30), .val (.int x40), .val (.int x50), .val (.int x60), .val (.int x66), .val (.ref b159), .unset, .unset, .unset, .unset, .unset, .unset, .unset, .unset, .unset, .unset, .unset, .unset] [])) st174 ?_
  obtain ⟨T177, h177, X177, e177, E177, A177, D177, -, st177⟩ := newO X174 hx hZ hown (hw _ (List.mem_of_getElem? (i := 1) rfl)) (hw _ (List.mem_of_getElem? (i := 2) rfl)) (hw _ (List.mem_of_getElem? (i := 3) rfl)) e174 (g := (mkF m 103 #[.val (.int b0), .val (.int b1), .val (.int b2), .val (.int bw), .val (.int fil), .val (.int ba), .val (.int x7), .val (.int x18), .val (.int x30), .val (.int x40), .val (.int x50), .val (.int x60), .val (.int x66), .val (.ref b159), .unset, .unset, .unset, .unset, .unset, .unset, .unset, .unset, .unset, .unset, .unset, .unset] [])) rfl (hb hby at_103) (by decide) (by decide)
  obtain ⟨b177, g177⟩ : ∃ z, z = h174.size := ⟨_, rfl⟩
  have ne178 : b159 ≠ b177 := by rw [g177]; exact Nat.ne_of_lt f175.lt
  have g_b177 : n0 ≤ b177 := Nat.le_trans z176 (Nat.le_of_eq g177.symm)
  rw [← g177] at A177 D177 st177
  have f179 : own_AI Z h177 b159 k159 .int (5 : Int32) [fil, fil, fil, fil, fil] := (f175.ext E177)
  have f180 : Fld Z h177 b177 "com/example/firstlight/firstlight/BitWriter" "data" "[I" .null := D177 (Or.inl (hw _ (List.mem_of_getElem? (i := 16) rfl))) (ty := (.array .int)) (by decide)
  have f181 : Fld Z h177 b177 "com/example/firstlight/firstlight/BitWriter" "at" "I" (.int (0 : Int32)) := D177 (Or.inl (hw _ (List.mem_of_getElem? (i := 18) rfl))) (ty := .int) (by decide)
  have f182 : Fld Z h177 b177 "com/example/firstlight/firstlight/BitWriter" "buffer" "J" (.long (0 : Int64)) := D177 (Or.inl (hw _ (List.mem_of_getElem? (i := 20) rfl))) (ty := .long) (by decide)
  have f183 : Fld Z h177 b177 "com/example/firstlight/firstlight/BitWriter" "filled" "I" (.int (0 : Int32)) := D177 (Or.inl (hw _ (List.mem_of_getElem? (i := 22) rfl))) (ty := .int) (by decide)
  have z184 : n0 ≤ h177.size := Nat.le_trans z176 E177.1
  refine own_of (S' := T177.setTop (mkF m 106 #[.val (.int b0), .val (.int b1), .val (.int b2), .val (.int bw), .val (.int fil), .val (.int ba), .val (.int x7), .val (.int x18), .val (.int x30), .val (.int x40), .val (.int x50), .val (.int x60), .val (.int x66), .val (.ref b159), .unset, .unset, .unset, .unset, .unset, .unset, .unset, .unset, .unset, .unset, .unset, .unset] [(.ref b177)])) st177 ?_
  refine own_of (S' := T177.setTop (mkF m 107 #[.val (.int b0), .val (.int b1), .val (.int b2), .val (.int bw), .val (.int fil), .val (.int ba), .val (.int x7), .val (.int x18), .val (.int x30), .val (.int x40), .val (.int x50), .val (.int x60), .val (.int x66), .val (.ref b159), .unset, .unset, .unset, .unset, .unset, .unset, .unset, .unset, .unset, .unset, .unset, .unset] [(.ref b177), (.ref b177)])) (fun t k => XS.dup X177.here hx rfl (hb hby at_106) rfl rfl k) ?_
  obtain ⟨_, _, ⟨T185, L185, k185, n185⟩, -, X185, ⟨Lc185, hQ185, l185, y185, z185⟩, st185⟩ := X177.specialBack hx (y := (⟨"com/example/firstlight/firstlight/BitWriter", "<init>", "()V"⟩ : MethodName)) rfl hown (mvT hZ (hw _ (List.mem_of_getElem? (i := 4) rfl))) (mvT hZ (hw _ (List.mem_of_getElem? (i := 5) rfl))) (mvT hZ (hw _ (List.mem_of_getElem? (i := 6) rfl))) (by decide) (backOf (W := 1) (own_rm1 l Z _ hw [] b177 h177 n0 ) hZ (hw _ (List.mem_of_getElem? (i := 6) rfl)) (hw _ (List.mem_of_getElem? (i := 3) rfl)) (by decide) (by decide)) (g := (mkF m 107 #[.val (.int b0), .val (.int b1), .val (.int b2), .val (.int bw), .val (.int fil), .val (.int ba), .val (.int x7), .val (.int x18), .val (.int x30), .val (.int x40), .val (.int x50), .val (.int x60), .val (.int x66), .val (.ref b159), .unset, .unset, .unset, .unset, .unset, .unset, .unset, .unset, .unset, .unset, .unset, .unset] [(.ref b177), (.ref b177)])) rfl (by rw [hml]; rfl) (Steps.refl _) (a := b177) (argsL := []) (rest := [(.ref b177)]) (lenOf own_pd0 rfl) rfl (by show 2 * 0 + _ ≤ _; exact Nat.le_of_eq rfl) (hb hby at_107) (fun _ _ => ⟨rfl, e177, (by decide : 2 + 0 ≤ _), (by decide : 9 + 0 ≤ _)⟩)
  dsimp only [Pt.U, Pt.locs, Pt.cells, Pt.slots] at X185 l185 y185 z185 st185 hQ185
  subst l185 y185 z185
  obtain ⟨rfl, M185, eh185⟩ := hQ185
  have N185 := Fr.app N174 M185
  refine own_of (S' := T185.setTop (mkF m 110 #[.val (.int b0), .val (.int b1), .val (.int b2), .val (.int bw), .val (.int fil), .val (.int ba), .val (.int x7), .val (.int x18), .val (.int x30), .val (.int x40), .val (.int x50), .val (.int x60), .val (.int x66), .val (.ref b159), .unset, .unset, .unset, .unset, .unset, .unset, .unset, .unset, .unset, .unset, .unset, .unset] [(.ref b177)])) (fun t k => st185.trans k) ?_
  refine own_of (S' := T185.setTop (mkF m 112 #[.val (.int b0), .val (.int b1), .val (.int b2), .val (.int bw), .val (.int fil), .val (.int ba), .val (.int x7), .val (.int x18), .val (.int x30), .val (.int x40), .val (.int x50), .val (.int x60), .val (.int x66), .val (.ref b159), .unset, .unset, .unset, .unset, .unset, .unset, .unset, .unset, .unset, .unset, .unset, .unset] [(.ref b159), (.ref b177)])) (fun t k => XS.aload X185.here hx rfl (hb hby at_110) rfl rfl k) ?_
  refine own_of (S' := T185.setTop (mkF m 114 #[.val (.int b0), .val (.int b1), .val (.int b2), .val (.int bw), .val (.int fil), .val (.int ba), .val (.int x7), .val (.int x18), .val (.int x30), .val (.int x40), .val (.int x50), .val (.int x60), .val (.int x66), .val (.ref b159), .unset, .unset, .unset, .unset, .unset, .unset, .unset, .unset, .unset, .unset, .unset, .unset] [(.int x66), (.ref b159), (.ref b177)])) (fun t k => XS.iload X185.here hx rfl (hb hby at_112) rfl k) ?_
  obtain ⟨cq186, kq186, q186a, q186b, q186c⟩ := isOf hZ eh185 A177
  obtain ⟨_, _, ⟨T186, L186, k186, n186⟩, -, X186, ⟨Lc186, hQ186, l186, y186, z186⟩, st186⟩ := X185.virtualBack hx (y := (⟨"com/example/firstlight/firstlight/BitWriter", "start", "([II)Lcom/example/firstlight/firstlight/BitWriter;"⟩ : MethodName)) (z := (⟨"com/example/firstlight/firstlight/BitWriter", "start", "([II)Lcom/example/firstlight/firstlight/BitWriter;"⟩ : MethodName)) hown (mvT hZ (hw _ (List.mem_of_getElem? (i := 10) rfl))) (mvT hZ (hw _ (List.mem_of_getElem? (i := 11) rfl))) (notFace_of_selects (args := #[]) (mvT hZ (hw _ (List.mem_of_getElem? (i := 13) rfl)))) (mvT hZ (hw _ (List.mem_of_getElem? (i := 13) rfl))) (mvT hZ (hw _ (List.mem_of_getElem? (i := 12) rfl))) (by decide) (backOf (W := 0) (own_rm2 l Z _ hw [] b177 b159 x66 h177 n0 A177 f180 f181 f182 f183 g_b177) hZ (hw _ (List.mem_of_getElem? (i := 14) rfl)) (hw _ (List.mem_of_getElem? (i := 3) rfl)) (by decide) (by decide)) q186a q186c (g := (mkF m 114 #[.val (.int b0), .val (.int b1), .val (.int b2), .val (.int bw), .val (.int fil), .val (.int ba), .val (.int x7), .val (.int x18), .val (.int x30), .val (.int x40), .val (.int x50), .val (.int x60), .val (.int x66), .val (.ref b159), .unset, .unset, .unset, .unset, .unset, .unset, .unset, .unset, .unset, .unset, .unset, .unset] [(.int x66), (.ref b159), (.ref b177)])) rfl (by rw [hml]; rfl) (Steps.refl _) (argsL := [(.ref b159), (.int x66)]) (rest := []) (lenOf own_pd1 rfl) rfl (by show 2 * 0 + _ ≤ _; exact Nat.le_of_eq rfl) (hb hby at_114) (fun _ _ => ⟨rfl, eh185, (by decide : 2 + 0 ≤ _), (by decide : 9 + 0 ≤ _)⟩)
  dsimp only [Pt.U, Pt.locs, Pt.cells, Pt.slots] at X186 l186 y186 z186 st186 hQ186
  subst l186 y186 z186
  obtain ⟨rfl, M186, K186, p186_0, p186_1, p186_2, p186_3, p186_4⟩ := hQ186
  have f187 : own_AI Z T186.heap b159 k159 .int (5 : Int32) [fil, fil, fil, fil, fil] := (f179.keep K186 (ninS ne178 nin0))
  have f188 : Exa Z T186.heap b177 "com/example/firstlight/firstlight/BitWriter" := (A177.keep K186)
  have z189 : n0 ≤ T186.heap.size := Nat.le_trans z184 K186.1
  have N186 := Fr.app N185 M186
  refine own_of (S' := T186.setTop (mkF m 117 #[.val (.int b0), .val (.int b1), .val (.int b2), .val (.int bw), .val (.int fil), .val (.int ba), .val (.int x7), .val (.int x18), .val (.int x30), .val (.int x40), .val (.int x50), .val (.int x60), .val (.int x66), .val (.ref b159), .unset, .unset, .unset, .unset, .unset, .unset, .unset, .unset, .unset, .unset, .unset, .unset] [(.ref b177)])) (fun t k => st186.trans k) ?_
  refine own_of (S' := T186.setTop (mkF m 119 #[.val (.int b0), .val (.int b1), .val (.int b2), .val (.int bw), .val (.int fil), .val (.int ba), .val (.int x7), .val (.int x18), .val (.int x30), .val (.int x40), .val (.int x50), .val (.int x60), .val (.int x66), .val (.ref b159), .val (.ref b177), .unset, .unset, .unset, .unset, .unset, .unset, .unset, .unset, .unset, .unset, .unset] [])) (fun t k => XS.astore X186.here hx rfl (hb hby at_117) rfl rfl (l' := #[.val (.int b0), .val (.int b1), .val (.int b2), .val (.int bw), .val (.int fil), .val (.int ba), .val (.int x7), .val (.int x18), .val (.int x30), .val (.int x40), .val (.int x50), .val (.int x60), .val (.int x66), .val (.ref b159), .val (.ref b177), .unset, .unset, .unset, .unset, .unset, .unset, .unset, .unset, .unset, .unset, .unset]) rfl k) ?_
  refine own_of (S' := T186.setTop (mkF m 121 #[.val (.int b0), .val (.int b1), .val (.int b2), .val (.int bw), .val (.int fil), .val (.int ba), .val (.int x7), .val (.int x18), .val (.int x30), .val (.int x40), .val (.int x50), .val (.int x60), .val (.int x66), .val (.ref b159), .val (.ref b177), .unset, .unset, .unset, .unset, .unset, .unset, .unset, .unset, .unset, .unset, .unset] [(.ref b177)])) (fun t k => XS.aload X186.here hx rfl (hb hby at_119) rfl rfl k) ?_
  obtain ⟨w0, hw0, lw0⟩ := own_wb q7
  obtain ⟨w1, hw1, lw1⟩ := own_wb q18
  obtain ⟨w2, hw2, lw2⟩ := own_wb q30
  obtain ⟨d0, hd0, ld0⟩ := own_xb q40 hw0 lw0
  obtain ⟨d1, hd1, ld1⟩ := own_xb q50 hw1 lw1
  obtain ⟨d2, hd2, ld2⟩ := own_xb q60 hw2 lw2
  obtain ⟨zz, hzz, lzz⟩ := own_zb q66
  have own_S0 := own_init (fil := fil) hzz
  refine own_of (S' := T186.setTop (mkF m 123 #[.val (.int b0), .val (.int b1), .val (.int b2), .val (.int bw), .val (.int fil), .val (.int ba), .val (.int x7), .val (.int x18), .val (.int x30), .val (.int x40), .val (.int x50), .val (.int x60), .val (.int x66), .val (.ref b159), .val (.ref b177), .unset, .unset, .unset, .unset, .unset, .unset, .unset, .unset, .unset, .unset, .unset] [(.int x40), (.ref b177)])) (fun t k => XS.iload X186.here hx rfl (hb hby at_121) rfl k) ?_
  refine own_of (S' := T186.setTop (mkF m 125 #[.val (.int b0), .val (.int b1), .val (.int b2), .val (.int bw), .val (.int fil), .val (.int ba), .val (.int x7), .val (.int x18), .val (.int x30), .val (.int x40), .val (.int x50), .val (.int x60), .val (.int x66), .val (.ref b159), .val (.ref b177), .unset, .unset, .unset, .unset, .unset, .unset, .unset, .unset, .unset, .unset, .unset] [(.int x7), (.int x40), (.ref b177)])) (fun t k => XS.iload X186.here hx rfl (hb hby at_123) rfl k) ?_
  obtain ⟨cq190, kq190, q190a, q190b, q190c⟩ := isOf hZ rfl p186_0
  obtain ⟨_, _, ⟨T190, L190, k190, n190⟩, -, X190, ⟨Lc190, hQ190, l190, y190, z190⟩, st190⟩ := X186.virtualBack hx (y := (⟨"com/example/firstlight/firstlight/BitWriter", "put", "(II)V"⟩ : MethodName)) (z := (⟨"com/example/firstlight/firstlight/BitWriter", "put", "(II)V"⟩ : MethodName)) hown (mvT hZ (hw _ (List.mem_of_getElem? (i := 23) rfl))) (mvT hZ (hw _ (List.mem_of_getElem? (i := 24) rfl))) (notFace_of_selects (args := #[]) (mvT hZ (hw _ (List.mem_of_getElem? (i := 26) rfl)))) (mvT hZ (hw _ (List.mem_of_getElem? (i := 26) rfl))) (mvT hZ (hw _ (List.mem_of_getElem? (i := 25) rfl))) (by decide) (backOf (W := 0) (own_rm3 l Z _ hw [] b177 x40 x7 b159 k159 x66 (0 : Int64) (0 : Int32) ([fil, fil, fil, fil, fil]) T186.heap n0 p186_0 p186_1 p186_2 p186_3 p186_4 f187 g_b177 g_b159 ((Ne.symm ne178) : b177 ≠ b159) (fun _ => own_in own_S0 lzz (by omega) : ¬ ((0 : Int32) + x7) < (32 : Int32) → ¬ x66 < (0 : Int32) ∧ x66 < (5 : Int32))) hZ (hw _ (List.mem_of_getElem? (i := 27) rfl)) (hw _ (List.mem_of_getElem? (i := 3) rfl)) (by decide) (by decide)) q190a q190c (g := (mkF m 125 #[.val (.int b0), .val (.int b1), .val (.int b2), .val (.int bw), .val (.int fil), .val (.int ba), .val (.int x7), .val (.int x18), .val (.int x30), .val (.int x40), .val (.int x50), .val (.int x60), .val (.int x66), .val (.ref b159), .val (.ref b177), .unset, .unset, .unset, .unset, .unset, .unset, .unset, .unset, .unset, .unset, .unset] [(.int x7), (.int x40), (.ref b177)])) rfl (by rw [hml]; rfl) (Steps.refl _) (argsL := [(.int x40), (.int x7)]) (rest := []) (lenOf own_pd2 rfl) rfl (by show 2 * 0 + _ ≤ _; exact Nat.le_of_eq rfl) (hb hby at_125) (fun _ _ => ⟨rfl, rfl, (by decide : 2 + 0 ≤ _), (by decide : 9 + 0 ≤ _)⟩)
  dsimp only [Pt.U, Pt.locs, Pt.cells, Pt.slots] at X190 l190 y190 z190 st190 hQ190
  subst l190 y190 z190
  obtain ⟨rfl, M190, K190, p190_0, p190_1, p190_2, p190_3, p190_4, p190_5⟩ := hQ190
  have f191 : Exa Z T190.heap b177 "com/example/firstlight/firstlight/BitWriter" := (p186_0.keep K190)
  obtain ⟨at1, qat1⟩ : ∃ z, z = (own_pat x66 (0 : Int32) x7) := ⟨_, rfl⟩
  rw [← qat1] at p190_2
  obtain ⟨bu1, qbu1⟩ : ∃ z, z = (own_pbu (0 : Int64) (0 : Int32) x40 x7) := ⟨_, rfl⟩
  rw [← qbu1] at p190_3
  obtain ⟨fi1, qfi1⟩ : ∃ z, z = (own_pfi (0 : Int32) x7) := ⟨_, rfl⟩
  rw [← qfi1] at p190_4
  obtain ⟨xs1, qxs1⟩ : ∃ z, z = (own_pxs [fil, fil, fil, fil, fil] x66 (0 : Int64) (0 : Int32) x40 x7) := ⟨_, rfl⟩
  rw [← qxs1] at p190_5
  have z192 : n0 ≤ T190.heap.size := Nat.le_trans z189 K190.1
  have N190 := Fr.app N186 M190
  refine own_of (S' := T190.setTop (mkF m 128 #[.val (.int b0), .val (.int b1), .val (.int b2), .val (.int bw), .val (.int fil), .val (.int ba), .val (.int x7), .val (.int x18), .val (.int x30), .val (.int x40), .val (.int x50), .val (.int x60), .val (.int x66), .val (.ref b159), .val (.ref b177), .unset, .unset, .unset, .unset, .unset, .unset, .unset, .unset, .unset, .unset, .unset] [])) (fun t k => st190.trans k) ?_
  have own_S1 := own_step own_S0 lzz (by omega) hd0 ld0 lw0 hw0
  rw [← qat1, ← qbu1, ← qfi1, ← qxs1] at own_S1
  refine own_of (S' := T190.setTop (mkF m 130 #[.val (.int b0), .val (.int b1), .val (.int b2), .val (.int bw), .val (.int fil), .val (.int ba), .val (.int x7), .val (.int x18), .val (.int x30), .val (.int x40), .val (.int x50), .val (.int x60), .val (.int x66), .val (.ref b159), .val (.ref b177), .unset, .unset, .unset, .unset, .unset, .unset, .unset, .unset, .unset, .unset, .unset] [(.ref b177)])) (fun t k => XS.aload X190.here hx rfl (hb hby at_128) rfl rfl k) ?_
  refine own_of (S' := T190.setTop (mkF m 132 #[.val (.int b0), .val (.int b1), .val (.int b2), .val (.int bw), .val (.int fil), .val (.int ba), .val (.int x7), .val (.int x18), .val (.int x30), .val (.int x40), .val (.int x50), .val (.int x60), .val (.int x66), .val (.ref b159), .val (.ref b177), .unset, .unset, .unset, .unset, .unset, .unset, .unset, .unset, .unset, .unset, .unset] [(.int x50), (.ref b177)])) (fun t k => XS.iload X190.here hx rfl (hb hby at_130) rfl k) ?_
  refine own_of (S' := T190.setTop (mkF m 134 #[.val (.int b0), .val (.int b1), .val (.int b2), .val (.int bw), .val (.int fil), .val (.int ba), .val (.int x7), .val (.int x18), .val (.int x30), .val (.int x40), .val (.int x50), .val (.int x60), .val (.int x66), .val (.ref b159), .val (.ref b177), .unset, .unset, .unset, .unset, .unset, .unset, .unset, .unset, .unset, .unset, .unset] [(.int x18), (.int x50), (.ref b177)])) (fun t k => XS.iload X190.here hx rfl (hb hby at_132) rfl k) ?_
  obtain ⟨cq193, kq193, q193a, q193b, q193c⟩ := isOf hZ rfl p190_0
  obtain ⟨_, _, ⟨T193, L193, k193, n193⟩, -, X193, ⟨Lc193, hQ193, l193, y193, z193⟩, st193⟩ := X190.virtualBack hx (y := (⟨"com/example/firstlight/firstlight/BitWriter", "put", "(II)V"⟩ : MethodName)) (z := (⟨"com/example/firstlight/firstlight/BitWriter", "put", "(II)V"⟩ : MethodName)) hown (mvT hZ (hw _ (List.mem_of_getElem? (i := 23) rfl))) (mvT hZ (hw _ (List.mem_of_getElem? (i := 24) rfl))) (notFace_of_selects (args := #[]) (mvT hZ (hw _ (List.mem_of_getElem? (i := 26) rfl)))) (mvT hZ (hw _ (List.mem_of_getElem? (i := 26) rfl))) (mvT hZ (hw _ (List.mem_of_getElem? (i := 25) rfl))) (by decide) (backOf (W := 0) (own_rm3 l Z _ hw [] b177 x50 x18 b159 k159 at1 bu1 fi1 xs1 T190.heap n0 p190_0 p190_1 p190_2 p190_3 p190_4 p190_5 g_b177 g_b159 ((Ne.symm ne178) : b177 ≠ b159) (fun _ => own_in own_S1 lzz (by omega) : ¬ (fi1 + x18) < (32 : Int32) → ¬ at1 < (0 : Int32) ∧ at1 < (5 : Int32))) hZ (hw _ (List.mem_of_getElem? (i := 27) rfl)) (hw _ (List.mem_of_getElem? (i := 3) rfl)) (by decide) (by decide)) q193a q193c (g := (mkF m 134 #[.val (.int b0), .val (.int b1), .val (.int b2), .val (.int bw), .val (.int fil), .val (.int ba), .val (.int x7), .val (.int x18), .val (.int x30), .val (.int x40), .val (.int x50), .val (.int x60), .val (.int x66), .val (.ref b159), .val (.ref b177), .unset, .unset, .unset, .unset, .unset, .unset, .unset, .unset, .unset, .unset, .unset] [(.int x18), (.int x50), (.ref b177)])) rfl (by rw [hml]; rfl) (Steps.refl _) (argsL := [(.int x50), (.int x18)]) (rest := []) (lenOf own_pd2 rfl) rfl (by show 2 * 0 + _ ≤ _; exact Nat.le_of_eq rfl) (hb hby at_134) (fun _ _ => ⟨rfl, rfl, (by decide : 2 + 0 ≤ _), (by decide : 9 + 0 ≤ _)⟩)
  dsimp only [Pt.U, Pt.locs, Pt.cells, Pt.slots] at X193 l193 y193 z193 st193 hQ193
  subst l193 y193 z193
  obtain ⟨rfl, M193, K193, p193_0, p193_1, p193_2, p193_3, p193_4, p193_5⟩ := hQ193
  have f194 : Exa Z T193.heap b177 "com/example/firstlight/firstlight/BitWriter" := (p190_0.keep K193)
  obtain ⟨at2, qat2⟩ : ∃ z, z = (own_pat at1 fi1 x18) := ⟨_, rfl⟩
  rw [← qat2] at p193_2
  obtain ⟨bu2, qbu2⟩ : ∃ z, z = (own_pbu bu1 fi1 x50 x18) := ⟨_, rfl⟩
  rw [← qbu2] at p193_3
  obtain ⟨fi2, qfi2⟩ : ∃ z, z = (own_pfi fi1 x18) := ⟨_, rfl⟩
  rw [← qfi2] at p193_4
  obtain ⟨xs2, qxs2⟩ : ∃ z, z = (own_pxs xs1 at1 bu1 fi1 x50 x18) := ⟨_, rfl⟩
  rw [← qxs2] at p193_5
  have z195 : n0 ≤ T193.heap.size := Nat.le_trans z192 K193.1
  have N193 := Fr.app N190 M193
  refine own_of (S' := T193.setTop (mkF m 137 #[.val (.int b0), .val (.int b1), .val (.int b2), .val (.int bw), .val (.int fil), .val (.int ba), .val (.int x7), .val (.int x18), .val (.int x30), .val (.int x40), .val (.int x50), .val (.int x60), .val (.int x66), .val (.ref b159), .val (.ref b177), .unset, .unset, .unset, .unset, .unset, .unset, .unset, .unset, .unset, .unset, .unset] [])) (fun t k => st193.trans k) ?_
  have own_S2 := own_step own_S1 lzz (by omega) hd1 ld1 lw1 hw1
  rw [← qat2, ← qbu2, ← qfi2, ← qxs2] at own_S2
  refine own_of (S' := T193.setTop (mkF m 139 #[.val (.int b0), .val (.int b1), .val (.int b2), .val (.int bw), .val (.int fil), .val (.int ba), .val (.int x7), .val (.int x18), .val (.int x30), .val (.int x40), .val (.int x50), .val (.int x60), .val (.int x66), .val (.ref b159), .val (.ref b177), .unset, .unset, .unset, .unset, .unset, .unset, .unset, .unset, .unset, .unset, .unset] [(.ref b177)])) (fun t k => XS.aload X193.here hx rfl (hb hby at_137) rfl rfl k) ?_
  refine own_of (S' := T193.setTop (mkF m 141 #[.val (.int b0), .val (.int b1), .val (.int b2), .val (.int bw), .val (.int fil), .val (.int ba), .val (.int x7), .val (.int x18), .val (.int x30), .val (.int x40), .val (.int x50), .val (.int x60), .val (.int x66), .val (.ref b159), .val (.ref b177), .unset, .unset, .unset, .unset, .unset, .unset, .unset, .unset, .unset, .unset, .unset] [(.int x60), (.ref b177)])) (fun t k => XS.iload X193.here hx rfl (hb hby at_139) rfl k) ?_
  refine own_of (S' := T193.setTop (mkF m 143 #[.val (.int b0), .val (.int b1), .val (.int b2), .val (.int bw), .val (.int fil), .val (.int ba), .val (.int x7), .val (.int x18), .val (.int x30), .val (.int x40), .val (.int x50), .val (.int x60), .val (.int x66), .val (.ref b159), .val (.ref b177), .unset, .unset, .unset, .unset, .unset, .unset, .unset, .unset, .unset, .unset, .unset] [(.int x30), (.int x60), (.ref b177)])) (fun t k => XS.iload X193.here hx rfl (hb hby at_141) rfl k) ?_
  obtain ⟨cq196, kq196, q196a, q196b, q196c⟩ := isOf hZ rfl p193_0
  obtain ⟨_, _, ⟨T196, L196, k196, n196⟩, -, X196, ⟨Lc196, hQ196, l196, y196, z196⟩, st196⟩ := X193.virtualBack hx (y := (⟨"com/example/firstlight/firstlight/BitWriter", "put", "(II)V"⟩ : MethodName)) (z := (⟨"com/example/firstlight/firstlight/BitWriter", "put", "(II)V"⟩ : MethodName)) hown (mvT hZ (hw _ (List.mem_of_getElem? (i := 23) rfl))) (mvT hZ (hw _ (List.mem_of_getElem? (i := 24) rfl))) (notFace_of_selects (args := #[]) (mvT hZ (hw _ (List.mem_of_getElem? (i := 26) rfl)))) (mvT hZ (hw _ (List.mem_of_getElem? (i := 26) rfl))) (mvT hZ (hw _ (List.mem_of_getElem? (i := 25) rfl))) (by decide) (backOf (W := 0) (own_rm3 l Z _ hw [] b177 x60 x30 b159 k159 at2 bu2 fi2 xs2 T193.heap n0 p193_0 p193_1 p193_2 p193_3 p193_4 p193_5 g_b177 g_b159 ((Ne.symm ne178) : b177 ≠ b159) (fun _ => own_in own_S2 lzz (by omega) : ¬ (fi2 + x30) < (32 : Int32) → ¬ at2 < (0 : Int32) ∧ at2 < (5 : Int32))) hZ (hw _ (List.mem_of_getElem? (i := 27) rfl)) (hw _ (List.mem_of_getElem? (i := 3) rfl)) (by decide) (by decide)) q196a q196c (g := (mkF m 143 #[.val (.int b0), .val (.int b1), .val (.int b2), .val (.int bw), .val (.int fil), .val (.int ba), .val (.int x7), .val (.int x18), .val (.int x30), .val (.int x40), .val (.int x50), .val (.int x60), .val (.int x66), .val (.ref b159), .val (.ref b177), .unset, .unset, .unset, .unset, .unset, .unset, .unset, .unset, .unset, .unset, .unset] [(.int x30), (.int x60), (.ref b177)])) rfl (by rw [hml]; rfl) (Steps.refl _) (argsL := [(.int x60), (.int x30)]) (rest := []) (lenOf own_pd2 rfl) rfl (by show 2 * 0 + _ ≤ _; exact Nat.le_of_eq rfl) (hb hby at_143) (fun _ _ => ⟨rfl, rfl, (by decide : 2 + 0 ≤ _), (by decide : 9 + 0 ≤ _)⟩)
  dsimp only [Pt.U, Pt.locs, Pt.cells, Pt.slots] at X196 l196 y196 z196 st196 hQ196
  subst l196 y196 z196
  obtain ⟨rfl, M196, K196, p196_0, p196_1, p196_2, p196_3, p196_4, p196_5⟩ := hQ196
  have f197 : Exa Z T196.heap b177 "com/example/firstlight/firstlight/BitWriter" := (p193_0.keep K196)
  obtain ⟨at3, qat3⟩ : ∃ z, z = (own_pat at2 fi2 x30) := ⟨_, rfl⟩
  rw [← qat3] at p196_2
  obtain ⟨bu3, qbu3⟩ : ∃ z, z = (own_pbu bu2 fi2 x60 x30) := ⟨_, rfl⟩
  rw [← qbu3] at p196_3
  obtain ⟨fi3, qfi3⟩ : ∃ z, z = (own_pfi fi2 x30) := ⟨_, rfl⟩
  rw [← qfi3] at p196_4
  obtain ⟨xs3, qxs3⟩ : ∃ z, z = (own_pxs xs2 at2 bu2 fi2 x60 x30) := ⟨_, rfl⟩
  rw [← qxs3] at p196_5
  have z198 : n0 ≤ T196.heap.size := Nat.le_trans z195 K196.1
  have N196 := Fr.app N193 M196
  refine own_of (S' := T196.setTop (mkF m 146 #[.val (.int b0), .val (.int b1), .val (.int b2), .val (.int bw), .val (.int fil), .val (.int ba), .val (.int x7), .val (.int x18), .val (.int x30), .val (.int x40), .val (.int x50), .val (.int x60), .val (.int x66), .val (.ref b159), .val (.ref b177), .unset, .unset, .unset, .unset, .unset, .unset, .unset, .unset, .unset, .unset, .unset] [])) (fun t k => st196.trans k) ?_
  have own_S3 := own_step own_S2 lzz (by omega) hd2 ld2 lw2 hw2
  rw [← qat3, ← qbu3, ← qfi3, ← qxs3] at own_S3
  refine own_of (S' := T196.setTop (mkF m 148 #[.val (.int b0), .val (.int b1), .val (.int b2), .val (.int bw), .val (.int fil), .val (.int ba), .val (.int x7), .val (.int x18), .val (.int x30), .val (.int x40), .val (.int x50), .val (.int x60), .val (.int x66), .val (.ref b159), .val (.ref b177), .unset, .unset, .unset, .unset, .unset, .unset, .unset, .unset, .unset, .unset, .unset] [(.ref b177)])) (fun t k => XS.aload X196.here hx rfl (hb hby at_146) rfl rfl k) ?_
  obtain ⟨cq199, kq199, q199a, q199b, q199c⟩ := isOf hZ rfl p196_0
  obtain ⟨_, _, ⟨T199, L199, k199, n199⟩, -, X199, ⟨Lc199, hQ199, l199, y199, z199⟩, st199⟩ := X196.virtualBack hx (y := (⟨"com/example/firstlight/firstlight/BitWriter", "end", "()I"⟩ : MethodName)) (z := (⟨"com/example/firstlight/firstlight/BitWriter", "end", "()I"⟩ : MethodName)) hown (mvT hZ (hw _ (List.mem_of_getElem? (i := 28) rfl))) (mvT hZ (hw _ (List.mem_of_getElem? (i := 29) rfl))) (notFace_of_selects (args := #[]) (mvT hZ (hw _ (List.mem_of_getElem? (i := 31) rfl)))) (mvT hZ (hw _ (List.mem_of_getElem? (i := 31) rfl))) (mvT hZ (hw _ (List.mem_of_getElem? (i := 30) rfl))) (by decide) (backOf (W := 0) (own_rm4 l Z _ hw [] b177 b159 k159 at3 bu3 fi3 xs3 T196.heap n0 p196_0 p196_1 p196_2 p196_3 p196_4 p196_5 g_b177 g_b159 ((Ne.symm ne178) : b177 ≠ b159) (fun _ => own_in own_S3 lzz (by omega) : (0 : Int32) < fi3 → ¬ at3 < (0 : Int32) ∧ at3 < (5 : Int32))) hZ (hw _ (List.mem_of_getElem? (i := 32) rfl)) (hw _ (List.mem_of_getElem? (i := 3) rfl)) (by decide) (by decide)) q199a q199c (g := (mkF m 148 #[.val (.int b0), .val (.int b1), .val (.int b2), .val (.int bw), .val (.int fil), .val (.int ba), .val (.int x7), .val (.int x18), .val (.int x30), .val (.int x40), .val (.int x50), .val (.int x60), .val (.int x66), .val (.ref b159), .val (.ref b177), .unset, .unset, .unset, .unset, .unset, .unset, .unset, .unset, .unset, .unset, .unset] [(.ref b177)])) rfl (by rw [hml]; rfl) (Steps.refl _) (argsL := []) (rest := []) (lenOf own_pd3 rfl) rfl (by show 2 * 0 + _ ≤ _; exact Nat.le_of_eq rfl) (hb hby at_148) (fun _ _ => ⟨rfl, rfl, (by decide : 2 + 0 ≤ _), (by decide : 9 + 0 ≤ _)⟩)
  dsimp only [Pt.U, Pt.locs, Pt.cells, Pt.slots] at X199 l199 y199 z199 st199 hQ199
  subst l199 y199 z199
  obtain ⟨rfl, M199, K199, p199_0⟩ := hQ199
  have f200 : Exa Z T199.heap b177 "com/example/firstlight/firstlight/BitWriter" := (p196_0.keep K199)
  obtain ⟨xs4, qxs4⟩ : ∃ z, z = (own_exs xs3 at3 bu3 fi3) := ⟨_, rfl⟩
  rw [← qxs4] at p199_0
  have z201 : n0 ≤ T199.heap.size := Nat.le_trans z198 K199.1
  have N199 := Fr.app N196 M199
  refine own_of (S' := T199.setTop (mkF m 151 #[.val (.int b0), .val (.int b1), .val (.int b2), .val (.int bw), .val (.int fil), .val (.int ba), .val (.int x7), .val (.int x18), .val (.int x30), .val (.int x40), .val (.int x50), .val (.int x60), .val (.int x66), .val (.ref b159), .val (.ref b177), .unset, .unset, .unset, .unset, .unset, .unset, .unset, .unset, .unset, .unset, .unset] [(.int (own_eat at3 fi3))])) (fun t k => st199.trans k) ?_
  generalize q148 : (own_eat at3 fi3) = r148
  refine own_of (S' := T199.setTop (mkF m 153 #[.val (.int b0), .val (.int b1), .val (.int b2), .val (.int bw), .val (.int fil), .val (.int ba), .val (.int x7), .val (.int x18), .val (.int x30), .val (.int x40), .val (.int x50), .val (.int x60), .val (.int x66), .val (.ref b159), .val (.ref b177), .val (.int r148), .unset, .unset, .unset, .unset, .unset, .unset, .unset, .unset, .unset, .unset] [])) (fun t k => XS.istore X199.here hx rfl (hb hby at_151) rfl (l' := #[.val (.int b0), .val (.int b1), .val (.int b2), .val (.int bw), .val (.int fil), .val (.int ba), .val (.int x7), .val (.int x18), .val (.int x30), .val (.int x40), .val (.int x50), .val (.int x60), .val (.int x66), .val (.ref b159), .val (.ref b177), .val (.int r148), .unset, .unset, .unset, .unset, .unset, .unset, .unset, .unset, .unset, .unset]) rfl k) ?_
  refine own_of (S' := T199.setTop (mkF m 155 #[.val (.int b0), .val (.int b1), .val (.int b2), .val (.int bw), .val (.int fil), .val (.int ba), .val (.int x7), .val (.int x18), .val (.int x30), .val (.int x40), .val (.int x50), .val (.int x60), .val (.int x66), .val (.ref b159), .val (.ref b177), .val (.int r148), .unset, .unset, .unset, .unset, .unset, .unset, .unset, .unset, .unset, .unset] [(.int x7)])) (fun t k => XS.iload X199.here hx rfl (hb hby at_153) rfl k) ?_
  refine own_of (S' := T199.setTop (mkF m 157 #[.val (.int b0), .val (.int b1), .val (.int b2), .val (.int bw), .val (.int fil), .val (.int ba), .val (.int x7), .val (.int x18), .val (.int x30), .val (.int x40), .val (.int x50), .val (.int x60), .val (.int x66), .val (.ref b159), .val (.ref b177), .val (.int r148), .unset, .unset, .unset, .unset, .unset, .unset, .unset, .unset, .unset, .unset] [(.int x18), (.int x7)])) (fun t k => XS.iload X199.here hx rfl (hb hby at_155) rfl k) ?_
  refine own_of (S' := T199.setTop (mkF m 158 #[.val (.int b0), .val (.int b1), .val (.int b2), .val (.int bw), .val (.int fil), .val (.int ba), .val (.int x7), .val (.int x18), .val (.int x30), .val (.int x40), .val (.int x50), .val (.int x60), .val (.int x66), .val (.ref b159), .val (.ref b177), .val (.int r148), .unset, .unset, .unset, .unset, .unset, .unset, .unset, .unset, .unset, .unset] [(.int (x7 + x18))])) (fun t k => XS.iadd X199.here hx rfl (hb hby at_157) rfl k) ?_
  refine own_of (S' := T199.setTop (mkF m 160 #[.val (.int b0), .val (.int b1), .val (.int b2), .val (.int bw), .val (.int fil), .val (.int ba), .val (.int x7), .val (.int x18), .val (.int x30), .val (.int x40), .val (.int x50), .val (.int x60), .val (.int x66), .val (.ref b159), .val (.ref b177), .val (.int r148), .unset, .unset, .unset, .unset, .unset, .unset, .unset, .unset, .unset, .unset] [(.int x30), (.int (x7 + x18))])) (fun t k => XS.iload X199.here hx rfl (hb hby at_158) rfl k) ?_
  refine own_of (S' := T199.setTop (mkF m 161 #[.val (.int b0), .val (.int b1), .val (.int b2), .val (.int bw), .val (.int fil), .val (.int ba), .val (.int x7), .val (.int x18), .val (.int x30), .val (.int x40), .val (.int x50), .val (.int x60), .val (.int x66), .val (.ref b159), .val (.ref b177), .val (.int r148), .unset, .unset, .unset, .unset, .unset, .unset, .unset, .unset, .unset, .unset] [(.int ((x7 + x18) + x30))])) (fun t k => XS.iadd X199.here hx rfl (hb hby at_160) rfl k) ?_
  generalize q161 : ((x7 + x18) + x30) = x161
  refine own_of (S' := T199.setTop (mkF m 163 #[.val (.int b0), .val (.int b1), .val (.int b2), .val (.int bw), .val (.int fil), .val (.int ba), .val (.int x7), .val (.int x18), .val (.int x30), .val (.int x40), .val (.int x50), .val (.int x60), .val (.int x66), .val (.ref b159), .val (.ref b177), .val (.int r148), .val (.int x161), .unset, .unset, .unset, .unset, .unset, .unset, .unset, .unset, .unset] [])) (fun t k => XS.istore X199.here hx rfl (hb hby at_161) rfl (l' := #[.val (.int b0), .val (.int b1), .val (.int b2), .val (.int bw), .val (.int fil), .val (.int ba), .val (.int x7), .val (.int x18), .val (.int x30), .val (.int x40), .val (.int x50), .val (.int x60), .val (.int x66), .val (.ref b159), .val (.ref b177), .val (.int r148), .val (.int x161), .unset, .unset, .unset, .unset, .unset, .unset, .unset, .unset, .unset]) rfl k) ?_
  refine own_of (S' := T199.setTop (mkF m 165 #[.val (.int b0), .val (.int b1), .val (.int b2), .val (.int bw), .val (.int fil), .val (.int ba), .val (.int x7), .val (.int x18), .val (.int x30), .val (.int x40), .val (.int x50), .val (.int x60), .val (.int x66), .val (.ref b159), .val (.ref b177), .val (.int r148), .val (.int x161), .unset, .unset, .unset, .unset, .unset, .unset, .unset, .unset, .unset] [(.int x161)])) (fun t k => XS.iload X199.here hx rfl (hb hby at_163) rfl k) ?_
  refine own_of (S' := T199.setTop (mkF m 167 #[.val (.int b0), .val (.int b1), .val (.int b2), .val (.int bw), .val (.int fil), .val (.int ba), .val (.int x7), .val (.int x18), .val (.int x30), .val (.int x40), .val (.int x50), .val (.int x60), .val (.int x66), .val (.ref b159), .val (.ref b177), .val (.int r148), .val (.int x161), .unset, .unset, .unset, .unset, .unset, .unset, .unset, .unset, .unset] [(.int (31 : Int32)), (.int x161)])) (fun t k => XS.bipush X199.here hx rfl (hb hby at_165) k) ?_
  refine own_of (S' := T199.setTop (mkF m 168 #[.val (.int b0), .val (.int b1), .val (.int b2), .val (.int bw), .val (.int fil), .val (.int ba), .val (.int x7), .val (.int x18), .val (.int x30), .val (.int x40), .val (.int x50), .val (.int x60), .val (.int x66), .val (.ref b159), .val (.ref b177), .val (.int r148), .val (.int x161), .unset, .unset, .unset, .unset, .unset, .unset, .unset, .unset, .unset] [(.int (x161 + (31 : Int32)))])) (fun t k => XS.iadd X199.here hx rfl (hb hby at_167) rfl k) ?_
  refine own_of (S' := T199.setTop (mkF m 170 #[.val (.int b0), .val (.int b1), .val (.int b2), .val (.int bw), .val (.int fil), .val (.int ba), .val (.int x7), .val (.int x18), .val (.int x30), .val (.int x40), .val (.int x50), .val (.int x60), .val (.int x66), .val (.ref b159), .val (.ref b177), .val (.int r148), .val (.int x161), .unset, .unset, .unset, .unset, .unset, .unset, .unset, .unset, .unset] [(.int (32 : Int32)), (.int (x161 + (31 : Int32)))])) (fun t k => XS.bipush X199.here hx rfl (hb hby at_168) k) ?_
  have hz202 : (32 : Int32) ≠ (0 : Int32) := by decide
  refine own_of (S' := T199.setTop (mkF m 171 #[.val (.int b0), .val (.int b1), .val (.int b2), .val (.int bw), .val (.int fil), .val (.int ba), .val (.int x7), .val (.int x18), .val (.int x30), .val (.int x40), .val (.int x50), .val (.int x60), .val (.int x66), .val (.ref b159), .val (.ref b177), .val (.int r148), .val (.int x161), .unset, .unset, .unset, .unset, .unset, .unset, .unset, .unset, .unset] [(.int ((x161 + (31 : Int32)) / (32 : Int32)))])) (fun t k => XS.idiv X199.here hx rfl (hb hby at_170) rfl hz202 k) ?_
  generalize q171 : ((x161 + (31 : Int32)) / (32 : Int32)) = x171
  refine own_of (S' := T199.setTop (mkF m 173 #[.val (.int b0), .val (.int b1), .val (.int b2), .val (.int bw), .val (.int fil), .val (.int ba), .val (.int x7), .val (.int x18), .val (.int x30), .val (.int x40), .val (.int x50), .val (.int x60), .val (.int x66), .val (.ref b159), .val (.ref b177), .val (.int r148), .val (.int x161), .val (.int x171), .unset, .unset, .unset, .unset, .unset, .unset, .unset, .unset] [])) (fun t k => XS.istore X199.here hx rfl (hb hby at_171) rfl (l' := #[.val (.int b0), .val (.int b1), .val (.int b2), .val (.int bw), .val (.int fil), .val (.int ba), .val (.int x7), .val (.int x18), .val (.int x30), .val (.int x40), .val (.int x50), .val (.int x60), .val (.int x66), .val (.ref b159), .val (.ref b177), .val (.int r148), .val (.int x161), .val (.int x171), .unset, .unset, .unset, .unset, .unset, .unset, .unset, .unset]) rfl k) ?_
  refine own_of (S' := T199.setTop (mkF m 175 #[.val (.int b0), .val (.int b1), .val (.int b2), .val (.int bw), .val (.int fil), .val (.int ba), .val (.int x7), .val (.int x18), .val (.int x30), .val (.int x40), .val (.int x50), .val (.int x60), .val (.int x66), .val (.ref b159), .val (.ref b177), .val (.int r148), .val (.int x161), .val (.int x171), .unset, .unset, .unset, .unset, .unset, .unset, .unset, .unset] [(.int x7)])) (fun t k => XS.iload X199.here hx rfl (hb hby at_173) rfl k) ?_
  refine own_of (S' := T199.setTop (mkF m 177 #[.val (.int b0), .val (.int b1), .val (.int b2), .val (.int bw), .val (.int fil), .val (.int ba), .val (.int x7), .val (.int x18), .val (.int x30), .val (.int x40), .val (.int x50), .val (.int x60), .val (.int x66), .val (.ref b159), .val (.ref b177), .val (.int r148), .val (.int x161), .val (.int x171), .unset, .unset, .unset, .unset, .unset, .unset, .unset, .unset] [(.int x18), (.int x7)])) (fun t k => XS.iload X199.here hx rfl (hb hby at_175) rfl k) ?_
  refine own_of (S' := T199.setTop (mkF m 178 #[.val (.int b0), .val (.int b1), .val (.int b2), .val (.int bw), .val (.int fil), .val (.int ba), .val (.int x7), .val (.int x18), .val (.int x30), .val (.int x40), .val (.int x50), .val (.int x60), .val (.int x66), .val (.ref b159), .val (.ref b177), .val (.int r148), .val (.int x161), .val (.int x171), .unset, .unset, .unset, .unset, .unset, .unset, .unset, .unset] [(.int (x7 + x18))])) (fun t k => XS.iadd X199.here hx rfl (hb hby at_177) rfl k) ?_
  generalize q178 : (x7 + x18) = x178
  refine own_of (S' := T199.setTop (mkF m 180 #[.val (.int b0), .val (.int b1), .val (.int b2), .val (.int bw), .val (.int fil), .val (.int ba), .val (.int x7), .val (.int x18), .val (.int x30), .val (.int x40), .val (.int x50), .val (.int x60), .val (.int x66), .val (.ref b159), .val (.ref b177), .val (.int r148), .val (.int x161), .val (.int x171), .val (.int x178), .unset, .unset, .unset, .unset, .unset, .unset, .unset] [])) (fun t k => XS.istore X199.here hx rfl (hb hby at_178) rfl (l' := #[.val (.int b0), .val (.int b1), .val (.int b2), .val (.int bw), .val (.int fil), .val (.int ba), .val (.int x7), .val (.int x18), .val (.int x30), .val (.int x40), .val (.int x50), .val (.int x60), .val (.int x66), .val (.ref b159), .val (.ref b177), .val (.int r148), .val (.int x161), .val (.int x171), .val (.int x178), .unset, .unset, .unset, .unset, .unset, .unset, .unset]) rfl k) ?_
  refine own_of (S' := T199.setTop (mkF m 182 #[.val (.int b0), .val (.int b1), .val (.int b2), .val (.int bw), .val (.int fil), .val (.int ba), .val (.int x7), .val (.int x18), .val (.int x30), .val (.int x40), .val (.int x50), .val (.int x60), .val (.int x66), .val (.ref b159), .val (.ref b177), .val (.int r148), .val (.int x161), .val (.int x171), .val (.int x178), .unset, .unset, .unset, .unset, .unset, .unset, .unset] [(.int x40)])) (fun t k => XS.iload X199.here hx rfl (hb hby at_180) rfl k) ?_
  refine own_of (S' := T199.setTop (mkF m 183 #[.val (.int b0), .val (.int b1), .val (.int b2), .val (.int bw), .val (.int fil), .val (.int ba), .val (.int x7), .val (.int x18), .val (.int x30), .val (.int x40), .val (.int x50), .val (.int x60), .val (.int x66), .val (.ref b159), .val (.ref b177), .val (.int r148), .val (.int x161), .val (.int x171), .val (.int x178), .unset, .unset, .unset, .unset, .unset, .unset, .unset] [(.long (x40.toInt64))])) (fun t k => XS.i2l X199.here hx rfl (hb hby at_182) rfl k) ?_
  refine own_of (S' := T199.setTop (mkF m 185 #[.val (.int b0), .val (.int b1), .val (.int b2), .val (.int bw), .val (.int fil), .val (.int ba), .val (.int x7), .val (.int x18), .val (.int x30), .val (.int x40), .val (.int x50), .val (.int x60), .val (.int x66), .val (.ref b159), .val (.ref b177), .val (.int r148), .val (.int x161), .val (.int x171), .val (.int x178), .unset, .unset, .unset, .unset, .unset, .unset, .unset] [(.int x50), (.long (x40.toInt64))])) (fun t k => XS.iload X199.here hx rfl (hb hby at_183) rfl k) ?_
  refine own_of (S' := T199.setTop (mkF m 186 #[.val (.int b0), .val (.int b1), .val (.int b2), .val (.int bw), .val (.int fil), .val (.int ba), .val (.int x7), .val (.int x18), .val (.int x30), .val (.int x40), .val (.int x50), .val (.int x60), .val (.int x66), .val (.ref b159), .val (.ref b177), .val (.int r148), .val (.int x161), .val (.int x171), .val (.int x178), .unset, .unset, .unset, .unset, .unset, .unset, .unset] [(.long (x50.toInt64)), (.long (x40.toInt64))])) (fun t k => XS.i2l X199.here hx rfl (hb hby at_185) rfl k) ?_
  refine own_of (S' := T199.setTop (mkF m 188 #[.val (.int b0), .val (.int b1), .val (.int b2), .val (.int bw), .val (.int fil), .val (.int ba), .val (.int x7), .val (.int x18), .val (.int x30), .val (.int x40), .val (.int x50), .val (.int x60), .val (.int x66), .val (.ref b159), .val (.ref b177), .val (.int r148), .val (.int x161), .val (.int x171), .val (.int x178), .unset, .unset, .unset, .unset, .unset, .unset, .unset] [(.int x7), (.long (x50.toInt64)), (.long (x40.toInt64))])) (fun t k => XS.iload X199.here hx rfl (hb hby at_186) rfl k) ?_
  refine own_of (S' := T199.setTop (mkF m 189 #[.val (.int b0), .val (.int b1), .val (.int b2), .val (.int bw), .val (.int fil), .val (.int ba), .val (.int x7), .val (.int x18), .val (.int x30), .val (.int x40), .val (.int x50), .val (.int x60), .val (.int x66), .val (.ref b159), .val (.ref b177), .val (.int r148), .val (.int x161), .val (.int x171), .val (.int x178), .unset, .unset, .unset, .unset, .unset, .unset, .unset] [(.long ((x50.toInt64) <<< (x7 &&& 0x3f).toInt64)), (.long (x40.toInt64))])) (fun t k => XS.lshl X199.here hx rfl (hb hby at_188) rfl k) ?_
  refine own_of (S' := T199.setTop (mkF m 190 #[.val (.int b0), .val (.int b1), .val (.int b2), .val (.int bw), .val (.int fil), .val (.int ba), .val (.int x7), .val (.int x18), .val (.int x30), .val (.int x40), .val (.int x50), .val (.int x60), .val (.int x66), .val (.ref b159), .val (.ref b177), .val (.int r148), .val (.int x161), .val (.int x171), .val (.int x178), .unset, .unset, .unset, .unset, .unset, .unset, .unset] [(.long ((x40.toInt64) ||| ((x50.toInt64) <<< (x7 &&& 0x3f).toInt64)))])) (fun t k => XS.lor X199.here hx rfl (hb hby at_189) rfl k) ?_
  generalize q190 : ((x40.toInt64) ||| ((x50.toInt64) <<< (x7 &&& 0x3f).toInt64)) = x190
  refine own_of (S' := T199.setTop (mkF m 192 #[.val (.int b0), .val (.int b1), .val (.int b2), .val (.int bw), .val (.int fil), .val (.int ba), .val (.int x7), .val (.int x18), .val (.int x30), .val (.int x40), .val (.int x50), .val (.int x60), .val (.int x66), .val (.ref b159), .val (.ref b177), .val (.int r148), .val (.int x161), .val (.int x171), .val (.int x178), .val (.long x190), .second, .unset, .unset, .unset, .unset, .unset] [])) (fun t k => XS.lstore X199.here hx rfl (hb hby at_190) rfl (l' := #[.val (.int b0), .val (.int b1), .val (.int b2), .val (.int bw), .val (.int fil), .val (.int ba), .val (.int x7), .val (.int x18), .val (.int x30), .val (.int x40), .val (.int x50), .val (.int x60), .val (.int x66), .val (.ref b159), .val (.ref b177), .val (.int r148), .val (.int x161), .val (.int x171), .val (.int x178), .val (.long x190), .second, .unset, .unset, .unset, .unset, .unset]) rfl k) ?_
  refine own_of (S' := T199.setTop (mkF m 194 #[.val (.int b0), .val (.int b1), .val (.int b2), .val (.int bw), .val (.int fil), .val (.int ba), .val (.int x7), .val (.int x18), .val (.int x30), .val (.int x40), .val (.int x50), .val (.int x60), .val (.int x66), .val (.ref b159), .val (.ref b177), .val (.int r148), .val (.int x161), .val (.int x171), .val (.int x178), .val (.long x190), .second, .unset, .unset, .unset, .unset, .unset] [(.long x190)])) (fun t k => XS.lload X199.here hx rfl (hb hby at_192) rfl k) ?_
  refine own_of (S' := T199.setTop (mkF m 196 #[.val (.int b0), .val (.int b1), .val (.int b2), .val (.int bw), .val (.int fil), .val (.int ba), .val (.int x7), .val (.int x18), .val (.int x30), .val (.int x40), .val (.int x50), .val (.int x60), .val (.int x66), .val (.ref b159), .val (.ref b177), .val (.int r148), .val (.int x161), .val (.int x171), .val (.int x178), .val (.long x190), .second, .unset, .unset, .unset, .unset, .unset] [(.int x60), (.long x190)])) (fun t k => XS.iload X199.here hx rfl (hb hby at_194) rfl k) ?_
  refine own_of (S' := T199.setTop (mkF m 197 #[.val (.int b0), .val (.int b1), .val (.int b2), .val (.int bw), .val (.int fil), .val (.int ba), .val (.int x7), .val (.int x18), .val (.int x30), .val (.int x40), .val (.int x50), .val (.int x60), .val (.int x66), .val (.ref b159), .val (.ref b177), .val (.int r148), .val (.int x161), .val (.int x171), .val (.int x178), .val (.long x190), .second, .unset, .unset, .unset, .unset, .unset] [(.long (x60.toInt64)), (.long x190)])) (fun t k => XS.i2l X199.here hx rfl (hb hby at_196) rfl k) ?_
  refine own_of (S' := T199.setTop (mkF m 199 #[.val (.int b0), .val (.int b1), .val (.int b2), .val (.int bw), .val (.int fil), .val (.int ba), .val (.int x7), .val (.int x18), .val (.int x30), .val (.int x40), .val (.int x50), .val (.int x60), .val (.int x66), .val (.ref b159), .val (.ref b177), .val (.int r148), .val (.int x161), .val (.int x171), .val (.int x178), .val (.long x190), .second, .unset, .unset, .unset, .unset, .unset] [(.int x178), (.long (x60.toInt64)), (.long x190)])) (fun t k => XS.iload X199.here hx rfl (hb hby at_197) rfl k) ?_
  refine own_of (S' := T199.setTop (mkF m 200 #[.val (.int b0), .val (.int b1), .val (.int b2), .val (.int bw), .val (.int fil), .val (.int ba), .val (.int x7), .val (.int x18), .val (.int x30), .val (.int x40), .val (.int x50), .val (.int x60), .val (.int x66), .val (.ref b159), .val (.ref b177), .val (.int r148), .val (.int x161), .val (.int x171), .val (.int x178), .val (.long x190), .second, .unset, .unset, .unset, .unset, .unset] [(.long ((x60.toInt64) <<< (x178 &&& 0x3f).toInt64)), (.long x190)])) (fun t k => XS.lshl X199.here hx rfl (hb hby at_199) rfl k) ?_
  refine own_of (S' := T199.setTop (mkF m 201 #[.val (.int b0), .val (.int b1), .val (.int b2), .val (.int bw), .val (.int fil), .val (.int ba), .val (.int x7), .val (.int x18), .val (.int x30), .val (.int x40), .val (.int x50), .val (.int x60), .val (.int x66), .val (.ref b159), .val (.ref b177), .val (.int r148), .val (.int x161), .val (.int x171), .val (.int x178), .val (.long x190), .second, .unset, .unset, .unset, .unset, .unset] [(.long (x190 ||| ((x60.toInt64) <<< (x178 &&& 0x3f).toInt64)))])) (fun t k => XS.lor X199.here hx rfl (hb hby at_200) rfl k) ?_
  generalize q201 : (x190 ||| ((x60.toInt64) <<< (x178 &&& 0x3f).toInt64)) = x201
  refine own_of (S' := T199.setTop (mkF m 203 #[.val (.int b0), .val (.int b1), .val (.int b2), .val (.int bw), .val (.int fil), .val (.int ba), .val (.int x7), .val (.int x18), .val (.int x30), .val (.int x40), .val (.int x50), .val (.int x60), .val (.int x66), .val (.ref b159), .val (.ref b177), .val (.int r148), .val (.int x161), .val (.int x171), .val (.int x178), .val (.long x190), .second, .val (.long x201), .second, .unset, .unset, .unset] [])) (fun t k => XS.lstore X199.here hx rfl (hb hby at_201) rfl (l' := #[.val (.int b0), .val (.int b1), .val (.int b2), .val (.int bw), .val (.int fil), .val (.int ba), .val (.int x7), .val (.int x18), .val (.int x30), .val (.int x40), .val (.int x50), .val (.int x60), .val (.int x66), .val (.ref b159), .val (.ref b177), .val (.int r148), .val (.int x161), .val (.int x171), .val (.int x178), .val (.long x190), .second, .val (.long x201), .second, .unset, .unset, .unset]) rfl k) ?_
  refine own_of (S' := T199.setTop (mkF m 205 #[.val (.int b0), .val (.int b1), .val (.int b2), .val (.int bw), .val (.int fil), .val (.int ba), .val (.int x7), .val (.int x18), .val (.int x30), .val (.int x40), .val (.int x50), .val (.int x60), .val (.int x66), .val (.ref b159), .val (.ref b177), .val (.int r148), .val (.int x161), .val (.int x171), .val (.int x178), .val (.long x190), .second, .val (.long x201), .second, .unset, .unset, .unset] [(.long x201)])) (fun t k => XS.lload X199.here hx rfl (hb hby at_203) rfl k) ?_
  refine own_of (S' := T199.setTop (mkF m 206 #[.val (.int b0), .val (.int b1), .val (.int b2), .val (.int bw), .val (.int fil), .val (.int ba), .val (.int x7), .val (.int x18), .val (.int x30), .val (.int x40), .val (.int x50), .val (.int x60), .val (.int x66), .val (.ref b159), .val (.ref b177), .val (.int r148), .val (.int x161), .val (.int x171), .val (.int x178), .val (.long x190), .second, .val (.long x201), .second, .unset, .unset, .unset] [(.int (x201.toInt32))])) (fun t k => XS.l2i X199.here hx rfl (hb hby at_205) rfl k) ?_
  generalize q206 : (x201.toInt32) = x206
  refine own_of (S' := T199.setTop (mkF m 208 #[.val (.int b0), .val (.int b1), .val (.int b2), .val (.int bw), .val (.int fil), .val (.int ba), .val (.int x7), .val (.int x18), .val (.int x30), .val (.int x40), .val (.int x50), .val (.int x60), .val (.int x66), .val (.ref b159), .val (.ref b177), .val (.int r148), .val (.int x161), .val (.int x171), .val (.int x178), .val (.long x190), .second, .val (.long x201), .second, .val (.int x206), .unset, .unset] [])) (fun t k => XS.istore X199.here hx rfl (hb hby at_206) rfl (l' := #[.val (.int b0), .val (.int b1), .val (.int b2), .val (.int bw), .val (.int fil), .val (.int ba), .val (.int x7), .val (.int x18), .val (.int x30), .val (.int x40), .val (.int x50), .val (.int x60), .val (.int x66), .val (.ref b159), .val (.ref b177), .val (.int r148), .val (.int x161), .val (.int x171), .val (.int x178), .val (.long x190), .second, .val (.long x201), .second, .val (.int x206), .unset, .unset]) rfl k) ?_
  refine own_of (S' := T199.setTop (mkF m 210 #[.val (.int b0), .val (.int b1), .val (.int b2), .val (.int bw), .val (.int fil), .val (.int ba), .val (.int x7), .val (.int x18), .val (.int x30), .val (.int x40), .val (.int x50), .val (.int x60), .val (.int x66), .val (.ref b159), .val (.ref b177), .val (.int r148), .val (.int x161), .val (.int x171), .val (.int x178), .val (.long x190), .second, .val (.long x201), .second, .val (.int x206), .unset, .unset] [(.long x201)])) (fun t k => XS.lload X199.here hx rfl (hb hby at_208) rfl k) ?_
  refine own_of (S' := T199.setTop (mkF m 212 #[.val (.int b0), .val (.int b1), .val (.int b2), .val (.int bw), .val (.int fil), .val (.int ba), .val (.int x7), .val (.int x18), .val (.int x30), .val (.int x40), .val (.int x50), .val (.int x60), .val (.int x66), .val (.ref b159), .val (.ref b177), .val (.int r148), .val (.int x161), .val (.int x171), .val (.int x178), .val (.long x190), .second, .val (.long x201), .second, .val (.int x206), .unset, .unset] [(.int (32 : Int32)), (.long x201)])) (fun t k => XS.bipush X199.here hx rfl (hb hby at_210) k) ?_
  refine own_of (S' := T199.setTop (mkF m 213 #[.val (.int b0), .val (.int b1), .val (.int b2), .val (.int bw), .val (.int fil), .val (.int ba), .val (.int x7), .val (.int x18), .val (.int x30), .val (.int x40), .val (.int x50), .val (.int x60), .val (.int x66), .val (.ref b159), .val (.ref b177), .val (.int r148), .val (.int x161), .val (.int x171), .val (.int x178), .val (.long x190), .second, .val (.long x201), .second, .val (.int x206), .unset, .unset] [(.long ((x201.toUInt64 >>> ((32 : Int32) &&& 0x3f).toInt64.toUInt64).toInt64))])) (fun t k => XS.lushr X199.here hx rfl (hb hby at_212) rfl k) ?_
  refine own_of (S' := T199.setTop (mkF m 214 #[.val (.int b0), .val (.int b1), .val (.int b2), .val (.int bw), .val (.int fil), .val (.int ba), .val (.int x7), .val (.int x18), .val (.int x30), .val (.int x40), .val (.int x50), .val (.int x60), .val (.int x66), .val (.ref b159), .val (.ref b177), .val (.int r148), .val (.int x161), .val (.int x171), .val (.int x178), .val (.long x190), .second, .val (.long x201), .second, .val (.int x206), .unset, .unset] [(.int (((x201.toUInt64 >>> ((32 : Int32) &&& 0x3f).toInt64.toUInt64).toInt64).toInt32))])) (fun t k => XS.l2i X199.here hx rfl (hb hby at_213) rfl k) ?_
  generalize q214 : (((x201.toUInt64 >>> ((32 : Int32) &&& 0x3f).toInt64.toUInt64).toInt64).toInt32) = x214
  refine own_of (S' := T199.setTop (mkF m 216 #[.val (.int b0), .val (.int b1), .val (.int b2), .val (.int bw), .val (.int fil), .val (.int ba), .val (.int x7), .val (.int x18), .val (.int x30), .val (.int x40), .val (.int x50), .val (.int x60), .val (.int x66), .val (.ref b159), .val (.ref b177), .val (.int r148), .val (.int x161), .val (.int x171), .val (.int x178), .val (.long x190), .second, .val (.long x201), .second, .val (.int x206), .val (.int x214), .unset] [])) (fun t k => XS.istore X199.here hx rfl (hb hby at_214) rfl (l' := #[.val (.int b0), .val (.int b1), .val (.int b2), .val (.int bw), .val (.int fil), .val (.int ba), .val (.int x7), .val (.int x18), .val (.int x30), .val (.int x40), .val (.int x50), .val (.int x60), .val (.int x66), .val (.ref b159), .val (.ref b177), .val (.int r148), .val (.int x161), .val (.int x171), .val (.int x178), .val (.long x190), .second, .val (.long x201), .second, .val (.int x206), .val (.int x214), .unset]) rfl k) ?_
  refine own_of (S' := T199.setTop (mkF m 218 #[.val (.int b0), .val (.int b1), .val (.int b2), .val (.int bw), .val (.int fil), .val (.int ba), .val (.int x7), .val (.int x18), .val (.int x30), .val (.int x40), .val (.int x50), .val (.int x60), .val (.int x66), .val (.ref b159), .val (.ref b177), .val (.int r148), .val (.int x161), .val (.int x171), .val (.int x178), .val (.long x190), .second, .val (.long x201), .second, .val (.int x206), .val (.int x214), .unset] [(.int x178)])) (fun t k => XS.iload X199.here hx rfl (hb hby at_216) rfl k) ?_
  refine own_of (S' := T199.setTop (mkF m 220 #[.val (.int b0), .val (.int b1), .val (.int b2), .val (.int bw), .val (.int fil), .val (.int ba), .val (.int x7), .val (.int x18), .val (.int x30), .val (.int x40), .val (.int x50), .val (.int x60), .val (.int x66), .val (.ref b159), .val (.ref b177), .val (.int r148), .val (.int x161), .val (.int x171), .val (.int x178), .val (.long x190), .second, .val (.long x201), .second, .val (.int x206), .val (.int x214), .unset] [(.int (40 : Int32)), (.int x178)])) (fun t k => XS.bipush X199.here hx rfl (hb hby at_218) k) ?_
  obtain ⟨j237_s0, qj237_s0⟩ : ∃ z : Int32, z = (if (40 : Int32) < x178 then ((((x60.toInt64).toUInt64 >>> (((64 : Int32) - x178) &&& 0x3f).toInt64.toUInt64).toInt64).toInt32) else (0 : Int32)) := ⟨_, rfl⟩
  suffices k204 : ∀ (T' : State) (locs' : List Loc), Stand p l e room_1 s m #[(.int b0), (.int b1), (.int b2), (.int bw), (.int fil), (.int ba)] below meth c T' locs' 2 9 → Fr n0 locs' → T'.heap = T199.heap → own_Go p.tables e below G (T'.setTop (mkF m 237 #[.val (.int b0), .val (.int b1), .val (.int b2), .val (.int bw), .val (.int fil), .val (.int ba), .val (.int x7), .val (.int x18), .val (.int x30), .val (.int x40), .val (.int x50), .val (.int x60), .val (.int x66), .val (.ref b159), .val (.ref b177), .val (.int r148), .val (.int x161), .val (.int x171), .val (.int x178), .val (.long x190), .second, .val (.long x201), .second, .val (.int x206), .val (.int x214), .unset] [(.int j237_s0)])) by
    by_cases hc220 : (40 : Int32) < x178
    · refine own_of (S' := T199.setTop (mkF m 223 #[.val (.int b0), .val (.int b1), .val (.int b2), .val (.int bw), .val (.int fil), .val (.int ba), .val (.int x7), .val (.int x18), .val (.int x30), .val (.int x40), .val (.int x50), .val (.int x60), .val (.int x66), .val (.ref b159), .val (.ref b177), .val (.int r148), .val (.int x161), .val (.int x171), .val (.int x178), .val (.long x190), .second, .val (.long x201), .second, .val (.int x206), .val (.int x214), .unset] [])) (fun t k => XS.icmpNo X199.here hx rfl (hb hby at_220) rfl (tlt hc220).2.2.2 k) ?_
      refine own_of (S' := T199.setTop (mkF m 225 #[.val (.int b0), .val (.int b1), .val (.int b2), .val (.int bw), .val (.int fil), .val (.int ba), .val (.int x7), .val (.int x18), .val (.int x30), .val (.int x40), .val (.int x50), .val (.int x60), .val (.int x66), .val (.ref b159), .val (.ref b177), .val (.int r148), .val (.int x161), .val (.int x171), .val (.int x178), .val (.long x190), .second, .val (.long x201), .second, .val (.int x206), .val (.int x214), .unset] [(.int x60)])) (fun t k => XS.iload X199.here hx rfl (hb hby at_223) rfl k) ?_
      refine own_of (S' := T199.setTop (mkF m 226 #[.val (.int b0), .val (.int b1), .val (.int b2), .val (.int bw), .val (.int fil), .val (.int ba), .val (.int x7), .val (.int x18), .val (.int x30), .val (.int x40), .val (.int x50), .val (.int x60), .val (.int x66), .val (.ref b159), .val (.ref b177), .val (.int r148), .val (.int x161), .val (.int x171), .val (.int x178), .val (.long x190), .second, .val (.long x201), .second, .val (.int x206), .val (.int x214), .unset] [(.long (x60.toInt64))])) (fun t k => XS.i2l X199.here hx rfl (hb hby at_225) rfl k) ?_
      refine own_of (S' := T199.setTop (mkF m 228 #[.val (.int b0), .val (.int b1), .val (.int b2), .val (.int bw), .val (.int fil), .val (.int ba), .val (.int x7), .val (.int x18), .val (.int x30), .val (.int x40), .val (.int x50), .val (.int x60), .val (.int x66), .val (.ref b159), .val (.ref b177), .val (.int r148), .val (.int x161), .val (.int x171), .val (.int x178), .val (.long x190), .second, .val (.long x201), .second, .val (.int x206), .val (.int x214), .unset] [(.int (64 : Int32)), (.long (x60.toInt64))])) (fun t k => XS.bipush X199.here hx rfl (hb hby at_226) k) ?_
      refine own_of (S' := T199.setTop (mkF m 230 #[.val (.int b0), .val (.int b1), .val (.int b2), .val (.int bw), .val (.int fil), .val (.int ba), .val (.int x7), .val (.int x18), .val (.int x30), .val (.int x40), .val (.int x50), .val (.int x60), .val (.int x66), .val (.ref b159), .val (.ref b177), .val (.int r148), .val (.int x161), .val (.int x171), .val (.int x178), .val (.long x190), .second, .val (.long x201), .second, .val (.int x206), .val (.int x214), .unset] [(.int x178), (.int (64 : Int32)), (.long (x60.toInt64))])) (fun t k => XS.iload X199.here hx rfl (hb hby at_228) rfl k) ?_
      refine own_of (S' := T199.setTop (mkF m 231 #[.val (.int b0), .val (.int b1), .val (.int b2), .val (.int bw), .val (.int fil), .val (.int ba), .val (.int x7), .val (.int x18), .val (.int x30), .val (.int x40), .val (.int x50), .val (.int x60), .val (.int x66), .val (.ref b159), .val (.ref b177), .val (.int r148), .val (.int x161), .val (.int x171), .val (.int x178), .val (.long x190), .second, .val (.long x201), .second, .val (.int x206), .val (.int x214), .unset] [(.int ((64 : Int32) - x178)), (.long (x60.toInt64))])) (fun t k => XS.isub X199.here hx rfl (hb hby at_230) rfl k) ?_
      refine own_of (S' := T199.setTop (mkF m 232 #[.val (.int b0), .val (.int b1), .val (.int b2), .val (.int bw), .val (.int fil), .val (.int ba), .val (.int x7), .val (.int x18), .val (.int x30), .val (.int x40), .val (.int x50), .val (.int x60), .val (.int x66), .val (.ref b159), .val (.ref b177), .val (.int r148), .val (.int x161), .val (.int x171), .val (.int x178), .val (.long x190), .second, .val (.long x201), .second, .val (.int x206), .val (.int x214), .unset] [(.long (((x60.toInt64).toUInt64 >>> (((64 : Int32) - x178) &&& 0x3f).toInt64.toUInt64).toInt64))])) (fun t k => XS.lushr X199.here hx rfl (hb hby at_231) rfl k) ?_
      refine own_of (S' := T199.setTop (mkF m 233 #[.val (.int b0), .val (.int b1), .val (.int b2), .val (.int bw), .val (.int fil), .val (.int ba), .val (.int x7), .val (.int x18), .val (.int x30), .val (.int x40), .val (.int x50), .val (.int x60), .val (.int x66), .val (.ref b159), .val (.ref b177), .val (.int r148), .val (.int x161), .val (.int x171), .val (.int x178), .val (.long x190), .second, .val (.long x201), .second, .val (.int x206), .val (.int x214), .unset] [(.int ((((x60.toInt64).toUInt64 >>> (((64 : Int32) - x178) &&& 0x3f).toInt64.toUInt64).toInt64).toInt32))])) (fun t k => XS.l2i X199.here hx rfl (hb hby at_232) rfl k) ?_
      refine own_of (S' := T199.setTop (mkF m 237 #[.val (.int b0), .val (.int b1), .val (.int b2), .val (.int bw), .val (.int fil), .val (.int ba), .val (.int x7), .val (.int x18), .val (.int x30), .val (.int x40), .val (.int x50), .val (.int x60), .val (.int x66), .val (.ref b159), .val (.ref b177), .val (.int r148), .val (.int x161), .val (.int x171), .val (.int x178), .val (.long x190), .second, .val (.long x201), .second, .val (.int x206), .val (.int x214), .unset] [(.int ((((x60.toInt64).toUInt64 >>> (((64 : Int32) - x178) &&& 0x3f).toInt64.toUInt64).toInt64).toInt32))])) (fun t k => XS.goto X199.here hx rfl (pc0 := 233) (pc' := 237) rfl (hb hby at_233) (by decide) (by decide) k) ?_
      have jw205 : j237_s0 = (((((x60.toInt64).toUInt64 >>> (((64 : Int32) - x178) &&& 0x3f).toInt64.toUInt64).toInt64).toInt32) : Int32) := qj237_s0.trans (if_pos hc220)
      rw [jw205] at k204
      exact k204 T199 _ X199 N199 rfl
    · refine own_of (S' := T199.setTop (mkF m 236 #[.val (.int b0), .val (.int b1), .val (.int b2), .val (.int bw), .val (.int fil), .val (.int ba), .val (.int x7), .val (.int x18), .val (.int x30), .val (.int x40), .val (.int x50), .val (.int x60), .val (.int x66), .val (.ref b159), .val (.ref b177), .val (.int r148), .val (.int x161), .val (.int x171), .val (.int x178), .val (.long x190), .second, .val (.long x201), .second, .val (.int x206), .val (.int x214), .unset] [])) (fun t k => XS.icmpYes X199.here hx rfl (pc0 := 220) (pc' := 236) rfl (hb hby at_220) rfl (flt hc220).2.2.2 (by decide) (by decide) k) ?_
      refine own_of (S' := T199.setTop (mkF m 237 #[.val (.int b0), .val (.int b1), .val (.int b2), .val (.int bw), .val (.int fil), .val (.int ba), .val (.int x7), .val (.int x18), .val (.int x30), .val (.int x40), .val (.int x50), .val (.int x60), .val (.int x66), .val (.ref b159), .val (.ref b177), .val (.int r148), .val (.int x161), .val (.int x171), .val (.int x178), .val (.long x190), .second, .val (.long x201), .second, .val (.int x206), .val (.int x214), .unset] [(.int (0 : Int32))])) (fun t k => XS.iconst X199.here hx rfl (hb hby at_236) k) ?_
      have jw206 : j237_s0 = ((0 : Int32) : Int32) := qj237_s0.trans (if_neg hc220)
      rw [jw206] at k204
      exact k204 T199 _ X199 N199 rfl
  intro T204 locs204 X204 N204 e204
  refine own_of (S' := T204.setTop (mkF m 239 #[.val (.int b0), .val (.int b1), .val (.int b2), .val (.int bw), .val (.int fil), .val (.int ba), .val (.int x7), .val (.int x18), .val (.int x30), .val (.int x40), .val (.int x50), .val (.int x60), .val (.int x66), .val (.ref b159), .val (.ref b177), .val (.int r148), .val (.int x161), .val (.int x171), .val (.int x178), .val (.long x190), .second, .val (.long x201), .second, .val (.int x206), .val (.int x214), .val (.int j237_s0)] [])) (fun t k => XS.istore X204.here hx rfl (hb hby at_237) rfl (l' := #[.val (.int b0), .val (.int b1), .val (.int b2), .val (.int bw), .val (.int fil), .val (.int ba), .val (.int x7), .val (.int x18), .val (.int x30), .val (.int x40), .val (.int x50), .val (.int x60), .val (.int x66), .val (.ref b159), .val (.ref b177), .val (.int r148), .val (.int x161), .val (.int x171), .val (.int x178), .val (.long x190), .second, .val (.long x201), .second, .val (.int x206), .val (.int x214), .val (.int j237_s0)]) rfl k) ?_
  have own_K := own_key hzz lzz hw0 lw0 hw1 lw1 hw2 lw2 hd0 ld0 hd1 ld1 hd2 ld2 own_S3 q148 qxs4 q161 q171 q178 q190 q201 q206 q214 qj237_s0
  refine own_of (S' := T204.setTop (mkF m 241 #[.val (.int b0), .val (.int b1), .val (.int b2), .val (.int bw), .val (.int fil), .val (.int ba), .val (.int x7), .val (.int x18), .val (.int x30), .val (.int x40), .val (.int x50), .val (.int x60), .val (.int x66), .val (.ref b159), .val (.ref b177), .val (.int r148), .val (.int x161), .val (.int x171), .val (.int x178), .val (.long x190), .second, .val (.long x201), .second, .val (.int x206), .val (.int x214), .val (.int j237_s0)] [(.int r148)])) (fun t k => XS.iload X204.here hx rfl (hb hby at_239) rfl k) ?_
  refine own_of (S' := T204.setTop (mkF m 243 #[.val (.int b0), .val (.int b1), .val (.int b2), .val (.int bw), .val (.int fil), .val (.int ba), .val (.int x7), .val (.int x18), .val (.int x30), .val (.int x40), .val (.int x50), .val (.int x60), .val (.int x66), .val (.ref b159), .val (.ref b177), .val (.int r148), .val (.int x161), .val (.int x171), .val (.int x178), .val (.long x190), .second, .val (.long x201), .second, .val (.int x206), .val (.int x214), .val (.int j237_s0)] [(.int x66), (.int r148)])) (fun t k => XS.iload X204.here hx rfl (hb hby at_241) rfl k) ?_
  refine own_of (S' := T204.setTop (mkF m 245 #[.val (.int b0), .val (.int b1), .val (.int b2), .val (.int bw), .val (.int fil), .val (.int ba), .val (.int x7), .val (.int x18), .val (.int x30), .val (.int x40), .val (.int x50), .val (.int x60), .val (.int x66), .val (.ref b159), .val (.ref b177), .val (.int r148), .val (.int x161), .val (.int x171), .val (.int x178), .val (.long x190), .second, .val (.long x201), .second, .val (.int x206), .val (.int x214), .val (.int j237_s0)] [(.int x171), (.int x66), (.int r148)])) (fun t k => XS.iload X204.here hx rfl (hb hby at_243) rfl k) ?_
  refine own_of (S' := T204.setTop (mkF m 246 #[.val (.int b0), .val (.int b1), .val (.int b2), .val (.int bw), .val (.int fil), .val (.int ba), .val (.int x7), .val (.int x18), .val (.int x30), .val (.int x40), .val (.int x50), .val (.int x60), .val (.int x66), .val (.ref b159), .val (.ref b177), .val (.int r148), .val (.int x161), .val (.int x171), .val (.int x178), .val (.long x190), .second, .val (.long x201), .second, .val (.int x206), .val (.int x214), .val (.int j237_s0)] [(.int (x66 + x171)), (.int r148)])) (fun t k => XS.iadd X204.here hx rfl (hb hby at_245) rfl k) ?_
  have hc246 : r148 = (x66 + x171) := by exact own_K.1
  refine own_of (S' := T204.setTop (mkF m 249 #[.val (.int b0), .val (.int b1), .val (.int b2), .val (.int bw), .val (.int fil), .val (.int ba), .val (.int x7), .val (.int x18), .val (.int x30), .val (.int x40), .val (.int x50), .val (.int x60), .val (.int x66), .val (.ref b159), .val (.ref b177), .val (.int r148), .val (.int x161), .val (.int x171), .val (.int x178), .val (.long x190), .second, .val (.long x201), .second, .val (.int x206), .val (.int x214), .val (.int j237_s0)] [])) (fun t k => XS.icmpNo X204.here hx rfl (hb hby at_246) rfl (teq hc246).2 k) ?_
  refine own_of (S' := T204.setTop (mkF m 251 #[.val (.int b0), .val (.int b1), .val (.int b2), .val (.int bw), .val (.int fil), .val (.int ba), .val (.int x7), .val (.int x18), .val (.int x30), .val (.int x40), .val (.int x50), .val (.int x60), .val (.int x66), .val (.ref b159), .val (.ref b177), .val (.int r148), .val (.int x161), .val (.int x171), .val (.int x178), .val (.long x190), .second, .val (.long x201), .second, .val (.int x206), .val (.int x214), .val (.int j237_s0)] [(.ref b159)])) (fun t k => XS.aload X204.here hx rfl (hb hby at_249) rfl rfl k) ?_
  refine own_of (S' := T204.setTop (mkF m 252 #[.val (.int b0), .val (.int b1), .val (.int b2), .val (.int bw), .val (.int fil), .val (.int ba), .val (.int x7), .val (.int x18), .val (.int x30), .val (.int x40), .val (.int x50), .val (.int x60), .val (.int x66), .val (.ref b159), .val (.ref b177), .val (.int r148), .val (.int x161), .val (.int x171), .val (.int x178), .val (.long x190), .second, .val (.long x201), .second, .val (.int x206), .val (.int x214), .val (.int j237_s0)] [(.int (0 : Int32)), (.ref b159)])) (fun t k => XS.iconst X204.here hx rfl (hb hby at_251) k) ?_
  refine own_of (S' := T204.setTop (mkF m 253 #[.val (.int b0), .val (.int b1), .val (.int b2), .val (.int bw), .val (.int fil), .val (.int ba), .val (.int x7), .val (.int x18), .val (.int x30), .val (.int x40), .val (.int x50), .val (.int x60), .val (.int x66), .val (.ref b159), .val (.ref b177), .val (.int r148), .val (.int x161), .val (.int x171), .val (.int x178), .val (.long x190), .second, .val (.long x201), .second, .val (.int x206), .val (.int x214), .val (.int j237_s0)] [(.int (List.getD xs4 ((0 : Int32)).toNatClampNeg 0))])) (own_ldI X204 hx hZ e204 p199_0 (j := (0 : Int32)) ⟨by decide, by decide⟩ (g := (mkF m 252 #[.val (.int b0), .val (.int b1), .val (.int b2), .val (.int bw), .val (.int fil), .val (.int ba), .val (.int x7), .val (.int x18), .val (.int x30), .val (.int x40), .val (.int x50), .val (.int x60), .val (.int x66), .val (.ref b159), .val (.ref b177), .val (.int r148), .val (.int x161), .val (.int x171), .val (.int x178), .val (.long x190), .second, .val (.long x201), .second, .val (.int x206), .val (.int x214), .val (.int j237_s0)] [(.int (0 : Int32)), (.ref b159)])) rfl rfl (hb hby at_252)) ?_
  refine own_of (S' := T204.setTop (mkF m 254 #[.val (.int b0), .val (.int b1), .val (.int b2), .val (.int bw), .val (.int fil), .val (.int ba), .val (.int x7), .val (.int x18), .val (.int x30), .val (.int x40), .val (.int x50), .val (.int x60), .val (.int x66), .val (.ref b159), .val (.ref b177), .val (.int r148), .val (.int x161), .val (.int x171), .val (.int x178), .val (.long x190), .second, .val (.long x201), .second, .val (.int x206), .val (.int x214), .val (.int j237_s0)] [(.int (0 : Int32)), (.int (List.getD xs4 ((0 : Int32)).toNatClampNeg 0))])) (fun t k => XS.iconst X204.here hx rfl (hb hby at_253) k) ?_
  refine own_of (S' := T204.setTop (mkF m 256 #[.val (.int b0), .val (.int b1), .val (.int b2), .val (.int bw), .val (.int fil), .val (.int ba), .val (.int x7), .val (.int x18), .val (.int x30), .val (.int x40), .val (.int x50), .val (.int x60), .val (.int x66), .val (.ref b159), .val (.ref b177), .val (.int r148), .val (.int x161), .val (.int x171), .val (.int x178), .val (.long x190), .second, .val (.long x201), .second, .val (.int x206), .val (.int x214), .val (.int j237_s0)] [(.int x66), (.int (0 : Int32)), (.int (List.getD xs4 ((0 : Int32)).toNatClampNeg 0))])) (fun t k => XS.iload X204.here hx rfl (hb hby at_254) rfl k) ?_
  refine own_of (S' := T204.setTop (mkF m 258 #[.val (.int b0), .val (.int b1), .val (.int b2), .val (.int bw), .val (.int fil), .val (.int ba), .val (.int x7), .val (.int x18), .val (.int x30), .val (.int x40), .val (.int x50), .val (.int x60), .val (.int x66), .val (.ref b159), .val (.ref b177), .val (.int r148), .val (.int x161), .val (.int x171), .val (.int x178), .val (.long x190), .second, .val (.long x201), .second, .val (.int x206), .val (.int x214), .val (.int j237_s0)] [(.int x171), (.int x66), (.int (0 : Int32)), (.int (List.getD xs4 ((0 : Int32)).toNatClampNeg 0))])) (fun t k => XS.iload X204.here hx rfl (hb hby at_256) rfl k) ?_
  refine own_of (S' := T204.setTop (mkF m 260 #[.val (.int b0), .val (.int b1), .val (.int b2), .val (.int bw), .val (.int fil), .val (.int ba), .val (.int x7), .val (.int x18), .val (.int x30), .val (.int x40), .val (.int x50), .val (.int x60), .val (.int x66), .val (.ref b159), .val (.ref b177), .val (.int r148), .val (.int x161), .val (.int x171), .val (.int x178), .val (.long x190), .second, .val (.long x201), .second, .val (.int x206), .val (.int x214), .val (.int j237_s0)] [(.int x206), (.int x171), (.int x66), (.int (0 : Int32)), (.int (List.getD xs4 ((0 : Int32)).toNatClampNeg 0))])) (fun t k => XS.iload X204.here hx rfl (hb hby at_258) rfl k) ?_
  refine own_of (S' := T204.setTop (mkF m 262 #[.val (.int b0), .val (.int b1), .val (.int b2), .val (.int bw), .val (.int fil), .val (.int ba), .val (.int x7), .val (.int x18), .val (.int x30), .val (.int x40), .val (.int x50), .val (.int x60), .val (.int x66), .val (.ref b159), .val (.ref b177), .val (.int r148), .val (.int x161), .val (.int x171), .val (.int x178), .val (.long x190), .second, .val (.long x201), .second, .val (.int x206), .val (.int x214), .val (.int j237_s0)] [(.int x214), (.int x206), (.int x171), (.int x66), (.int (0 : Int32)), (.int (List.getD xs4 ((0 : Int32)).toNatClampNeg 0))])) (fun t k => XS.iload X204.here hx rfl (hb hby at_260) rfl k) ?_
  refine own_of (S' := T204.setTop (mkF m 264 #[.val (.int b0), .val (.int b1), .val (.int b2), .val (.int bw), .val (.int fil), .val (.int ba), .val (.int x7), .val (.int x18), .val (.int x30), .val (.int x40), .val (.int x50), .val (.int x60), .val (.int x66), .val (.ref b159), .val (.ref b177), .val (.int r148), .val (.int x161), .val (.int x171), .val (.int x178), .val (.long x190), .second, .val (.long x201), .second, .val (.int x206), .val (.int x214), .val (.int j237_s0)] [(.int j237_s0), (.int x214), (.int x206), (.int x171), (.int x66), (.int (0 : Int32)), (.int (List.getD xs4 ((0 : Int32)).toNatClampNeg 0))])) (fun t k => XS.iload X204.here hx rfl (hb hby at_262) rfl k) ?_
  refine own_of (S' := T204.setTop (mkF m 266 #[.val (.int b0), .val (.int b1), .val (.int b2), .val (.int bw), .val (.int fil), .val (.int ba), .val (.int x7), .val (.int x18), .val (.int x30), .val (.int x40), .val (.int x50), .val (.int x60), .val (.int x66), .val (.ref b159), .val (.ref b177), .val (.int r148), .val (.int x161), .val (.int x171), .val (.int x178), .val (.long x190), .second, .val (.long x201), .second, .val (.int x206), .val (.int x214), .val (.int j237_s0)] [(.int fil), (.int j237_s0), (.int x214), (.int x206), (.int x171), (.int x66), (.int (0 : Int32)), (.int (List.getD xs4 ((0 : Int32)).toNatClampNeg 0))])) (fun t k => XS.iload X204.here hx rfl (hb hby at_264) rfl k) ?_
  obtain ⟨_, _, ⟨T208, L208, k208, n208⟩, -, X208, ⟨Lc208, hQ208, l208, y208, z208⟩, st208⟩ := Jvm.LawKit.callS X204 hx (y := (⟨"com/example/firstlight/firstlight/BitWriterPutPinLaw", "slot", "(IIIIIIII)Z"⟩ : MethodName)) hown (mvT hZ (hw _ (List.mem_of_getElem? (i := 33) rfl))) (mvT hZ (hw _ (List.mem_of_getElem? (i := 34) rfl))) (mvT hZ (hw _ (List.mem_of_getElem? (i := 35) rfl))) (mvT hZ (hw _ (List.mem_of_getElem? (i := 36) rfl))) (by decide) (backOf (W := 0) (own_rm5 l Z _ hw [] (List.getD xs4 ((0 : Int32)).toNatClampNeg 0) (0 : Int32) x66 x171 x206 x214 j237_s0 fil T199.heap n0 ) hZ (hw _ (List.mem_of_getElem? (i := 36) rfl)) (hw _ (List.mem_of_getElem? (i := 35) rfl)) (by decide) (by decide)) (g := (mkF m 266 #[.val (.int b0), .val (.int b1), .val (.int b2), .val (.int bw), .val (.int fil), .val (.int ba), .val (.int x7), .val (.int x18), .val (.int x30), .val (.int x40), .val (.int x50), .val (.int x60), .val (.int x66), .val (.ref b159), .val (.ref b177), .val (.int r148), .val (.int x161), .val (.int x171), .val (.int x178), .val (.long x190), .second, .val (.long x201), .second, .val (.int x206), .val (.int x214), .val (.int j237_s0)] [(.int fil), (.int j237_s0), (.int x214), (.int x206), (.int x171), (.int x66), (.int (0 : Int32)), (.int (List.getD xs4 ((0 : Int32)).toNatClampNeg 0))])) rfl (by rw [hml]; rfl) (argsL := [(.int (List.getD xs4 ((0 : Int32)).toNatClampNeg 0)), (.int (0 : Int32)), (.int x66), (.int x171), (.int x206), (.int x214), (.int j237_s0), (.int fil)]) (rest := []) (lenOf own_pd4 rfl) rfl (by show 2 * 0 + _ ≤ _; exact Nat.le_of_eq rfl) (hb hby at_266) (fun _ _ => ⟨rfl, e204, (by decide : 2 + 0 ≤ _), (by decide : 9 + 0 ≤ _)⟩)
  dsimp only [Pt.U, Pt.locs, Pt.cells, Pt.slots] at X208 l208 y208 z208 st208 hQ208
  subst l208 y208 z208
  obtain ⟨rfl, M208, eh208⟩ := hQ208
  have N208 := Fr.app N204 M208
  refine own_of (S' := T208.setTop (mkF m 269 #[.val (.int b0), .val (.int b1), .val (.int b2), .val (.int bw), .val (.int fil), .val (.int ba), .val (.int x7), .val (.int x18), .val (.int x30), .val (.int x40), .val (.int x50), .val (.int x60), .val (.int x66), .val (.ref b159), .val (.ref b177), .val (.int r148), .val (.int x161), .val (.int x171), .val (.int x178), .val (.long x190), .second, .val (.long x201), .second, .val (.int x206), .val (.int x214), .val (.int j237_s0)] [(.int (own_slot (List.getD xs4 ((0 : Int32)).toNatClampNeg 0) (0 : Int32) x66 x171 x206 x214 j237_s0 fil))])) (fun t k => st208 _ k) ?_
  generalize q266 : (own_slot (List.getD xs4 ((0 : Int32)).toNatClampNeg 0) (0 : Int32) x66 x171 x206 x214 j237_s0 fil) = r266
  have hc269 : ¬ (r266 = (0 : Int32)) := by rw [← q266]; exact own_K.2 0 (by decide) (by decide)
  refine own_of (S' := T208.setTop (mkF m 272 #[.val (.int b0), .val (.int b1), .val (.int b2), .val (.int bw), .val (.int fil), .val (.int ba), .val (.int x7), .val (.int x18), .val (.int x30), .val (.int x40), .val (.int x50), .val (.int x60), .val (.int x66), .val (.ref b159), .val (.ref b177), .val (.int r148), .val (.int x161), .val (.int x171), .val (.int x178), .val (.long x190), .second, .val (.long x201), .second, .val (.int x206), .val (.int x214), .val (.int j237_s0)] [])) (fun t k => XS.ifNo X208.here hx rfl (hb hby at_269) rfl ((if0 _ _).trans (feq hc269).1) k) ?_
  refine own_of (S' := T208.setTop (mkF m 274 #[.val (.int b0), .val (.int b1), .val (.int b2), .val (.int bw), .val (.int fil), .val (.int ba), .val (.int x7), .val (.int x18), .val (.int x30), .val (.int x40), .val (.int x50), .val (.int x60), .val (.int x66), .val (.ref b159), .val (.ref b177), .val (.int r148), .val (.int x161), .val (.int x171), .val (.int x178), .val (.long x190), .second, .val (.long x201), .second, .val (.int x206), .val (.int x214), .val (.int j237_s0)] [(.ref b159)])) (fun t k => XS.aload X208.here hx rfl (hb hby at_272) rfl rfl k) ?_
  refine own_of (S' := T208.setTop (mkF m 275 #[.val (.int b0), .val (.int b1), .val (.int b2), .val (.int bw), .val (.int fil), .val (.int ba), .val (.int x7), .val (.int x18), .val (.int x30), .val (.int x40), .val (.int x50), .val (.int x60), .val (.int x66), .val (.ref b159), .val (.ref b177), .val (.int r148), .val (.int x161), .val (.int x171), .val (.int x178), .val (.long x190), .second, .val (.long x201), .second, .val (.int x206), .val (.int x214), .val (.int j237_s0)] [(.int (1 : Int32)), (.ref b159)])) (fun t k => XS.iconst X208.here hx rfl (hb hby at_274) k) ?_
  refine own_of (S' := T208.setTop (mkF m 276 #[.val (.int b0), .val (.int b1), .val (.int b2), .val (.int bw), .val (.int fil), .val (.int ba), .val (.int x7), .val (.int x18), .val (.int x30), .val (.int x40), .val (.int x50), .val (.int x60), .val (.int x66), .val (.ref b159), .val (.ref b177), .val (.int r148), .val (.int x161), .val (.int x171), .val (.int x178), .val (.long x190), .second, .val (.long x201), .second, .val (.int x206), .val (.int x214), .val (.int j237_s0)] [(.int (List.getD xs4 ((1 : Int32)).toNatClampNeg 0))])) (own_ldI X208 hx hZ eh208 p199_0 (j := (1 : Int32)) ⟨by decide, by decide⟩ (g := (mkF m 275 #[.val (.int b0), .val (.int b1), .val (.int b2), .val (.int bw), .val (.int fil), .val (.int ba), .val (.int x7), .val (.int x18), .val (.int x30), .val (.int x40), .val (.int x50), .val (.int x60), .val (.int x66), .val (.ref b159), .val (.ref b177), .val (.int r148), .val (.int x161), .val (.int x171), .val (.int x178), .val (.long x190), .second, .val (.long x201), .second, .val (.int x206), .val (.int x214), .val (.int j237_s0)] [(.int (1 : Int32)), (.ref b159)])) rfl rfl (hb hby at_275)) ?_
  refine own_of (S' := T208.setTop (mkF m 277 #[.val (.int b0), .val (.int b1), .val (.int b2), .val (.int bw), .val (.int fil), .val (.int ba), .val (.int x7), .val (.int x18), .val (.int x30), .val (.int x40), .val (.int x50), .val (.int x60), .val (.int x66), .val (.ref b159), .val (.ref b177), .val (.int r148), .val (.int x161), .val (.int x171), .val (.int x178), .val (.long x190), .second, .val (.long x201), .second, .val (.int x206), .val (.int x214), .val (.int j237_s0)] [(.int (1 : Int32)), (.int (List.getD xs4 ((1 : Int32)).toNatClampNeg 0))])) (fun t k => XS.iconst X208.here hx rfl (hb hby at_276) k) ?_
  refine own_of (S' := T208.setTop (mkF m 279 #[.val (.int b0), .val (.int b1), .val (.int b2), .val (.int bw), .val (.int fil), .val (.int ba), .val (.int x7), .val (.int x18), .val (.int x30), .val (.int x40), .val (.int x50), .val (.int x60), .val (.int x66), .val (.ref b159), .val (.ref b177), .val (.int r148), .val (.int x161), .val (.int x171), .val (.int x178), .val (.long x190), .second, .val (.long x201), .second, .val (.int x206), .val (.int x214), .val (.int j237_s0)] [(.int x66), (.int (1 : Int32)), (.int (List.getD xs4 ((1 : Int32)).toNatClampNeg 0))])) (fun t k => XS.iload X208.here hx rfl (hb hby at_277) rfl k) ?_
  refine own_of (S' := T208.setTop (mkF m 281 #[.val (.int b0), .val (.int b1), .val (.int b2), .val (.int bw), .val (.int fil), .val (.int ba), .val (.int x7), .val (.int x18), .val (.int x30), .val (.int x40), .val (.int x50), .val (.int x60), .val (.int x66), .val (.ref b159), .val (.ref b177), .val (.int r148), .val (.int x161), .val (.int x171), .val (.int x178), .val (.long x190), .second, .val (.long x201), .second, .val (.int x206), .val (.int x214), .val (.int j237_s0)] [(.int x171), (.int x66), (.int (1 : Int32)), (.int (List.getD xs4 ((1 : Int32)).toNatClampNeg 0))])) (fun t k => XS.iload X208.here hx rfl (hb hby at_279) rfl k) ?_
  refine own_of (S' := T208.setTop (mkF m 283 #[.val (.int b0), .val (.int b1), .val (.int b2), .val (.int bw), .val (.int fil), .val (.int ba), .val (.int x7), .val (.int x18), .val (.int x30), .val (.int x40), .val (.int x50), .val (.int x60), .val (.int x66), .val (.ref b159), .val (.ref b177), .val (.int r148), .val (.int x161), .val (.int x171), .val (.int x178), .val (.long x190), .second, .val (.long x201), .second, .val (.int x206), .val (.int x214), .val (.int j237_s0)] [(.int x206), (.int x171), (.int x66), (.int (1 : Int32)), (.int (List.getD xs4 ((1 : Int32)).toNatClampNeg 0))])) (fun t k => XS.iload X208.here hx rfl (hb hby at_281) rfl k) ?_
  refine own_of (S' := T208.setTop (mkF m 285 #[.val (.int b0), .val (.int b1), .val (.int b2), .val (.int bw), .val (.int fil), .val (.int ba), .val (.int x7), .val (.int x18), .val (.int x30), .val (.int x40), .val (.int x50), .val (.int x60), .val (.int x66), .val (.ref b159), .val (.ref b177), .val (.int r148), .val (.int x161), .val (.int x171), .val (.int x178), .val (.long x190), .second, .val (.long x201), .second, .val (.int x206), .val (.int x214), .val (.int j237_s0)] [(.int x214), (.int x206), (.int x171), (.int x66), (.int (1 : Int32)), (.int (List.getD xs4 ((1 : Int32)).toNatClampNeg 0))])) (fun t k => XS.iload X208.here hx rfl (hb hby at_283) rfl k) ?_
  refine own_of (S' := T208.setTop (mkF m 287 #[.val (.int b0), .val (.int b1), .val (.int b2), .val (.int bw), .val (.int fil), .val (.int ba), .val (.int x7), .val (.int x18), .val (.int x30), .val (.int x40), .val (.int x50), .val (.int x60), .val (.int x66), .val (.ref b159), .val (.ref b177), .val (.int r148), .val (.int x161), .val (.int x171), .val (.int x178), .val (.long x190), .second, .val (.long x201), .second, .val (.int x206), .val (.int x214), .val (.int j237_s0)] [(.int j237_s0), (.int x214), (.int x206), (.int x171), (.int x66), (.int (1 : Int32)), (.int (List.getD xs4 ((1 : Int32)).toNatClampNeg 0))])) (fun t k => XS.iload X208.here hx rfl (hb hby at_285) rfl k) ?_
  refine own_of (S' := T208.setTop (mkF m 289 #[.val (.int b0), .val (.int b1), .val (.int b2), .val (.int bw), .val (.int fil), .val (.int ba), .val (.int x7), .val (.int x18), .val (.int x30), .val (.int x40), .val (.int x50), .val (.int x60), .val (.int x66), .val (.ref b159), .val (.ref b177), .val (.int r148), .val (.int x161), .val (.int x171), .val (.int x178), .val (.long x190), .second, .val (.long x201), .second, .val (.int x206), .val (.int x214), .val (.int j237_s0)] [(.int fil), (.int j237_s0), (.int x214), (.int x206), (.int x171), (.int x66), (.int (1 : Int32)), (.int (List.getD xs4 ((1 : Int32)).toNatClampNeg 0))])) (fun t k => XS.iload X208.here hx rfl (hb hby at_287) rfl k) ?_
  obtain ⟨_, _, ⟨T210, L210, k210, n210⟩, -, X210, ⟨Lc210, hQ210, l210, y210, z210⟩, st210⟩ := Jvm.LawKit.callS X208 hx (y := (⟨"com/example/firstlight/firstlight/BitWriterPutPinLaw", "slot", "(IIIIIIII)Z"⟩ : MethodName)) hown (mvT hZ (hw _ (List.mem_of_getElem? (i := 33) rfl))) (mvT hZ (hw _ (List.mem_of_getElem? (i := 34) rfl))) (mvT hZ (hw _ (List.mem_of_getElem? (i := 35) rfl))) (mvT hZ (hw _ (List.mem_of_getElem? (i := 36) rfl))) (by decide) (backOf (W := 0) (own_rm5 l Z _ hw [] (List.getD xs4 ((1 : Int32)).toNatClampNeg 0) (1 : Int32) x66 x171 x206 x214 j237_s0 fil T199.heap n0 ) hZ (hw _ (List.mem_of_getElem? (i := 36) rfl)) (hw _ (List.mem_of_getElem? (i := 35) rfl)) (by decide) (by decide)) (g := (mkF m 289 #[.val (.int b0), .val (.int b1), .val (.int b2), .val (.int bw), .val (.int fil), .val (.int ba), .val (.int x7), .val (.int x18), .val (.int x30), .val (.int x40), .val (.int x50), .val (.int x60), .val (.int x66), .val (.ref b159), .val (.ref b177), .val (.int r148), .val (.int x161), .val (.int x171), .val (.int x178), .val (.long x190), .second, .val (.long x201), .second, .val (.int x206), .val (.int x214), .val (.int j237_s0)] [(.int fil), (.int j237_s0), (.int x214), (.int x206), (.int x171), (.int x66), (.int (1 : Int32)), (.int (List.getD xs4 ((1 : Int32)).toNatClampNeg 0))])) rfl (by rw [hml]; rfl) (argsL := [(.int (List.getD xs4 ((1 : Int32)).toNatClampNeg 0)), (.int (1 : Int32)), (.int x66), (.int x171), (.int x206), (.int x214), (.int j237_s0), (.int fil)]) (rest := []) (lenOf own_pd4 rfl) rfl (by show 2 * 0 + _ ≤ _; exact Nat.le_of_eq rfl) (hb hby at_289) (fun _ _ => ⟨rfl, eh208, (by decide : 2 + 0 ≤ _), (by decide : 9 + 0 ≤ _)⟩)
  dsimp only [Pt.U, Pt.locs, Pt.cells, Pt.slots] at X210 l210 y210 z210 st210 hQ210
  subst l210 y210 z210
  obtain ⟨rfl, M210, eh210⟩ := hQ210
  have N210 := Fr.app N208 M210
  refine own_of (S' := T210.setTop (mkF m 292 #[.val (.int b0), .val (.int b1), .val (.int b2), .val (.int bw), .val (.int fil), .val (.int ba), .val (.int x7), .val (.int x18), .val (.int x30), .val (.int x40), .val (.int x50), .val (.int x60), .val (.int x66), .val (.ref b159), .val (.ref b177), .val (.int r148), .val (.int x161), .val (.int x171), .val (.int x178), .val (.long x190), .second, .val (.long x201), .second, .val (.int x206), .val (.int x214), .val (.int j237_s0)] [(.int (own_slot (List.getD xs4 ((1 : Int32)).toNatClampNeg 0) (1 : Int32) x66 x171 x206 x214 j237_s0 fil))])) (fun t k => st210 _ k) ?_
  generalize q289 : (own_slot (List.getD xs4 ((1 : Int32)).toNatClampNeg 0) (1 : Int32) x66 x171 x206 x214 j237_s0 fil) = r289
  have hc292 : ¬ (r289 = (0 : Int32)) := by rw [← q289]; exact own_K.2 1 (by decide) (by decide)
  refine own_of (S' := T210.setTop (mkF m 295 #[.val (.int b0), .val (.int b1), .val (.int b2), .val (.int bw), .val (.int fil), .val (.int ba), .val (.int x7), .val (.int x18), .val (.int x30), .val (.int x40), .val (.int x50), .val (.int x60), .val (.int x66), .val (.ref b159), .val (.ref b177), .val (.int r148), .val (.int x161), .val (.int x171), .val (.int x178), .val (.long x190), .second, .val (.long x201), .second, .val (.int x206), .val (.int x214), .val (.int j237_s0)] [])) (fun t k => XS.ifNo X210.here hx rfl (hb hby at_292) rfl ((if0 _ _).trans (feq hc292).1) k) ?_
  refine own_of (S' := T210.setTop (mkF m 297 #[.val (.int b0), .val (.int b1), .val (.int b2), .val (.int bw), .val (.int fil), .val (.int ba), .val (.int x7), .val (.int x18), .val (.int x30), .val (.int x40), .val (.int x50), .val (.int x60), .val (.int x66), .val (.ref b159), .val (.ref b177), .val (.int r148), .val (.int x161), .val (.int x171), .val (.int x178), .val (.long x190), .second, .val (.long x201), .second, .val (.int x206), .val (.int x214), .val (.int j237_s0)] [(.ref b159)])) (fun t k => XS.aload X210.here hx rfl (hb hby at_295) rfl rfl k) ?_
  refine own_of (S' := T210.setTop (mkF m 298 #[.val (.int b0), .val (.int b1), .val (.int b2), .val (.int bw), .val (.int fil), .val (.int ba), .val (.int x7), .val (.int x18), .val (.int x30), .val (.int x40), .val (.int x50), .val (.int x60), .val (.int x66), .val (.ref b159), .val (.ref b177), .val (.int r148), .val (.int x161), .val (.int x171), .val (.int x178), .val (.long x190), .second, .val (.long x201), .second, .val (.int x206), .val (.int x214), .val (.int j237_s0)] [(.int (2 : Int32)), (.ref b159)])) (fun t k => XS.iconst X210.here hx rfl (hb hby at_297) k) ?_
  refine own_of (S' := T210.setTop (mkF m 299 #[.val (.int b0), .val (.int b1), .val (.int b2), .val (.int bw), .val (.int fil), .val (.int ba), .val (.int x7), .val (.int x18), .val (.int x30), .val (.int x40), .val (.int x50), .val (.int x60), .val (.int x66), .val (.ref b159), .val (.ref b177), .val (.int r148), .val (.int x161), .val (.int x171), .val (.int x178), .val (.long x190), .second, .val (.long x201), .second, .val (.int x206), .val (.int x214), .val (.int j237_s0)] [(.int (List.getD xs4 ((2 : Int32)).toNatClampNeg 0))])) (own_ldI X210 hx hZ eh210 p199_0 (j := (2 : Int32)) ⟨by decide, by decide⟩ (g := (mkF m 298 #[.val (.int b0), .val (.int b1), .val (.int b2), .val (.int bw), .val (.int fil), .val (.int ba), .val (.int x7), .val (.int x18), .val (.int x30), .val (.int x40), .val (.int x50), .val (.int x60), .val (.int x66), .val (.ref b159), .val (.ref b177), .val (.int r148), .val (.int x161), .val (.int x171), .val (.int x178), .val (.long x190), .second, .val (.long x201), .second, .val (.int x206), .val (.int x214), .val (.int j237_s0)] [(.int (2 : Int32)), (.ref b159)])) rfl rfl (hb hby at_298)) ?_
  refine own_of (S' := T210.setTop (mkF m 300 #[.val (.int b0), .val (.int b1), .val (.int b2), .val (.int bw), .val (.int fil), .val (.int ba), .val (.int x7), .val (.int x18), .val (.int x30), .val (.int x40), .val (.int x50), .val (.int x60), .val (.int x66), .val (.ref b159), .val (.ref b177), .val (.int r148), .val (.int x161), .val (.int x171), .val (.int x178), .val (.long x190), .second, .val (.long x201), .second, .val (.int x206), .val (.int x214), .val (.int j237_s0)] [(.int (2 : Int32)), (.int (List.getD xs4 ((2 : Int32)).toNatClampNeg 0))])) (fun t k => XS.iconst X210.here hx rfl (hb hby at_299) k) ?_
  refine own_of (S' := T210.setTop (mkF m 302 #[.val (.int b0), .val (.int b1), .val (.int b2), .val (.int bw), .val (.int fil), .val (.int ba), .val (.int x7), .val (.int x18), .val (.int x30), .val (.int x40), .val (.int x50), .val (.int x60), .val (.int x66), .val (.ref b159), .val (.ref b177), .val (.int r148), .val (.int x161), .val (.int x171), .val (.int x178), .val (.long x190), .second, .val (.long x201), .second, .val (.int x206), .val (.int x214), .val (.int j237_s0)] [(.int x66), (.int (2 : Int32)), (.int (List.getD xs4 ((2 : Int32)).toNatClampNeg 0))])) (fun t k => XS.iload X210.here hx rfl (hb hby at_300) rfl k) ?_
  refine own_of (S' := T210.setTop (mkF m 304 #[.val (.int b0), .val (.int b1), .val (.int b2), .val (.int bw), .val (.int fil), .val (.int ba), .val (.int x7), .val (.int x18), .val (.int x30), .val (.int x40), .val (.int x50), .val (.int x60), .val (.int x66), .val (.ref b159), .val (.ref b177), .val (.int r148), .val (.int x161), .val (.int x171), .val (.int x178), .val (.long x190), .second, .val (.long x201), .second, .val (.int x206), .val (.int x214), .val (.int j237_s0)] [(.int x171), (.int x66), (.int (2 : Int32)), (.int (List.getD xs4 ((2 : Int32)).toNatClampNeg 0))])) (fun t k => XS.iload X210.here hx rfl (hb hby at_302) rfl k) ?_
  refine own_of (S' := T210.setTop (mkF m 306 #[.val (.int b0), .val (.int b1), .val (.int b2), .val (.int bw), .val (.int fil), .val (.int ba), .val (.int x7), .val (.int x18), .val (.int x30), .val (.int x40), .val (.int x50), .val (.int x60), .val (.int x66), .val (.ref b159), .val (.ref b177), .val (.int r148), .val (.int x161), .val (.int x171), .val (.int x178), .val (.long x190), .second, .val (.long x201), .second, .val (.int x206), .val (.int x214), .val (.int j237_s0)] [(.int x206), (.int x171), (.int x66), (.int (2 : Int32)), (.int (List.getD xs4 ((2 : Int32)).toNatClampNeg 0))])) (fun t k => XS.iload X210.here hx rfl (hb hby at_304) rfl k) ?_
  refine own_of (S' := T210.setTop (mkF m 308 #[.val (.int b0), .val (.int b1), .val (.int b2), .val (.int bw), .val (.int fil), .val (.int ba), .val (.int x7), .val (.int x18), .val (.int x30), .val (.int x40), .val (.int x50), .val (.int x60), .val (.int x66), .val (.ref b159), .val (.ref b177), .val (.int r148), .val (.int x161), .val (.int x171), .val (.int x178), .val (.long x190), .second, .val (.long x201), .second, .val (.int x206), .val (.int x214), .val (.int j237_s0)] [(.int x214), (.int x206), (.int x171), (.int x66), (.int (2 : Int32)), (.int (List.getD xs4 ((2 : Int32)).toNatClampNeg 0))])) (fun t k => XS.iload X210.here hx rfl (hb hby at_306) rfl k) ?_
  refine own_of (S' := T210.setTop (mkF m 310 #[.val (.int b0), .val (.int b1), .val (.int b2), .val (.int bw), .val (.int fil), .val (.int ba), .val (.int x7), .val (.int x18), .val (.int x30), .val (.int x40), .val (.int x50), .val (.int x60), .val (.int x66), .val (.ref b159), .val (.ref b177), .val (.int r148), .val (.int x161), .val (.int x171), .val (.int x178), .val (.long x190), .second, .val (.long x201), .second, .val (.int x206), .val (.int x214), .val (.int j237_s0)] [(.int j237_s0), (.int x214), (.int x206), (.int x171), (.int x66), (.int (2 : Int32)), (.int (List.getD xs4 ((2 : Int32)).toNatClampNeg 0))])) (fun t k => XS.iload X210.here hx rfl (hb hby at_308) rfl k) ?_
  refine own_of (S' := T210.setTop (mkF m 312 #[.val (.int b0), .val (.int b1), .val (.int b2), .val (.int bw), .val (.int fil), .val (.int ba), .val (.int x7), .val (.int x18), .val (.int x30), .val (.int x40), .val (.int x50), .val (.int x60), .val (.int x66), .val (.ref b159), .val (.ref b177), .val (.int r148), .val (.int x161), .val (.int x171), .val (.int x178), .val (.long x190), .second, .val (.long x201), .second, .val (.int x206), .val (.int x214), .val (.int j237_s0)] [(.int fil), (.int j237_s0), (.int x214), (.int x206), (.int x171), (.int x66), (.int (2 : Int32)), (.int (List.getD xs4 ((2 : Int32)).toNatClampNeg 0))])) (fun t k => XS.iload X210.here hx rfl (hb hby at_310) rfl k) ?_
  obtain ⟨_, _, ⟨T212, L212, k212, n212⟩, -, X212, ⟨Lc212, hQ212, l212, y212, z212⟩, st212⟩ := Jvm.LawKit.callS X210 hx (y := (⟨"com/example/firstlight/firstlight/BitWriterPutPinLaw", "slot", "(IIIIIIII)Z"⟩ : MethodName)) hown (mvT hZ (hw _ (List.mem_of_getElem? (i := 33) rfl))) (mvT hZ (hw _ (List.mem_of_getElem? (i := 34) rfl))) (mvT hZ (hw _ (List.mem_of_getElem? (i := 35) rfl))) (mvT hZ (hw _ (List.mem_of_getElem? (i := 36) rfl))) (by decide) (backOf (W := 0) (own_rm5 l Z _ hw [] (List.getD xs4 ((2 : Int32)).toNatClampNeg 0) (2 : Int32) x66 x171 x206 x214 j237_s0 fil T199.heap n0 ) hZ (hw _ (List.mem_of_getElem? (i := 36) rfl)) (hw _ (List.mem_of_getElem? (i := 35) rfl)) (by decide) (by decide)) (g := (mkF m 312 #[.val (.int b0), .val (.int b1), .val (.int b2), .val (.int bw), .val (.int fil), .val (.int ba), .val (.int x7), .val (.int x18), .val (.int x30), .val (.int x40), .val (.int x50), .val (.int x60), .val (.int x66), .val (.ref b159), .val (.ref b177), .val (.int r148), .val (.int x161), .val (.int x171), .val (.int x178), .val (.long x190), .second, .val (.long x201), .second, .val (.int x206), .val (.int x214), .val (.int j237_s0)] [(.int fil), (.int j237_s0), (.int x214), (.int x206), (.int x171), (.int x66), (.int (2 : Int32)), (.int (List.getD xs4 ((2 : Int32)).toNatClampNeg 0))])) rfl (by rw [hml]; rfl) (argsL := [(.int (List.getD xs4 ((2 : Int32)).toNatClampNeg 0)), (.int (2 : Int32)), (.int x66), (.int x171), (.int x206), (.int x214), (.int j237_s0), (.int fil)]) (rest := []) (lenOf own_pd4 rfl) rfl (by show 2 * 0 + _ ≤ _; exact Nat.le_of_eq rfl) (hb hby at_312) (fun _ _ => ⟨rfl, eh210, (by decide : 2 + 0 ≤ _), (by decide : 9 + 0 ≤ _)⟩)
  dsimp only [Pt.U, Pt.locs, Pt.cells, Pt.slots] at X212 l212 y212 z212 st212 hQ212
  subst l212 y212 z212
  obtain ⟨rfl, M212, eh212⟩ := hQ212
  have N212 := Fr.app N210 M212
  refine own_of (S' := T212.setTop (mkF m 315 #[.val (.int b0), .val (.int b1), .val (.int b2), .val (.int bw), .val (.int fil), .val (.int ba), .val (.int x7), .val (.int x18), .val (.int x30), .val (.int x40), .val (.int x50), .val (.int x60), .val (.int x66), .val (.ref b159), .val (.ref b177), .val (.int r148), .val (.int x161), .val (.int x171), .val (.int x178), .val (.long x190), .second, .val (.long x201), .second, .val (.int x206), .val (.int x214), .val (.int j237_s0)] [(.int (own_slot (List.getD xs4 ((2 : Int32)).toNatClampNeg 0) (2 : Int32) x66 x171 x206 x214 j237_s0 fil))])) (fun t k => st212 _ k) ?_
  generalize q312 : (own_slot (List.getD xs4 ((2 : Int32)).toNatClampNeg 0) (2 : Int32) x66 x171 x206 x214 j237_s0 fil) = r312
  have hc315 : ¬ (r312 = (0 : Int32)) := by rw [← q312]; exact own_K.2 2 (by decide) (by decide)
  refine own_of (S' := T212.setTop (mkF m 318 #[.val (.int b0), .val (.int b1), .val (.int b2), .val (.int bw), .val (.int fil), .val (.int ba), .val (.int x7), .val (.int x18), .val (.int x30), .val (.int x40), .val (.int x50), .val (.int x60), .val (.int x66), .val (.ref b159), .val (.ref b177), .val (.int r148), .val (.int x161), .val (.int x171), .val (.int x178), .val (.long x190), .second, .val (.long x201), .second, .val (.int x206), .val (.int x214), .val (.int j237_s0)] [])) (fun t k => XS.ifNo X212.here hx rfl (hb hby at_315) rfl ((if0 _ _).trans (feq hc315).1) k) ?_
  refine own_of (S' := T212.setTop (mkF m 320 #[.val (.int b0), .val (.int b1), .val (.int b2), .val (.int bw), .val (.int fil), .val (.int ba), .val (.int x7), .val (.int x18), .val (.int x30), .val (.int x40), .val (.int x50), .val (.int x60), .val (.int x66), .val (.ref b159), .val (.ref b177), .val (.int r148), .val (.int x161), .val (.int x171), .val (.int x178), .val (.long x190), .second, .val (.long x201), .second, .val (.int x206), .val (.int x214), .val (.int j237_s0)] [(.ref b159)])) (fun t k => XS.aload X212.here hx rfl (hb hby at_318) rfl rfl k) ?_
  refine own_of (S' := T212.setTop (mkF m 321 #[.val (.int b0), .val (.int b1), .val (.int b2), .val (.int bw), .val (.int fil), .val (.int ba), .val (.int x7), .val (.int x18), .val (.int x30), .val (.int x40), .val (.int x50), .val (.int x60), .val (.int x66), .val (.ref b159), .val (.ref b177), .val (.int r148), .val (.int x161), .val (.int x171), .val (.int x178), .val (.long x190), .second, .val (.long x201), .second, .val (.int x206), .val (.int x214), .val (.int j237_s0)] [(.int (3 : Int32)), (.ref b159)])) (fun t k => XS.iconst X212.here hx rfl (hb hby at_320) k) ?_
  refine own_of (S' := T212.setTop (mkF m 322 #[.val (.int b0), .val (.int b1), .val (.int b2), .val (.int bw), .val (.int fil), .val (.int ba), .val (.int x7), .val (.int x18), .val (.int x30), .val (.int x40), .val (.int x50), .val (.int x60), .val (.int x66), .val (.ref b159), .val (.ref b177), .val (.int r148), .val (.int x161), .val (.int x171), .val (.int x178), .val (.long x190), .second, .val (.long x201), .second, .val (.int x206), .val (.int x214), .val (.int j237_s0)] [(.int (List.getD xs4 ((3 : Int32)).toNatClampNeg 0))])) (own_ldI X212 hx hZ eh212 p199_0 (j := (3 : Int32)) ⟨by decide, by decide⟩ (g := (mkF m 321 #[.val (.int b0), .val (.int b1), .val (.int b2), .val (.int bw), .val (.int fil), .val (.int ba), .val (.int x7), .val (.int x18), .val (.int x30), .val (.int x40), .val (.int x50), .val (.int x60), .val (.int x66), .val (.ref b159), .val (.ref b177), .val (.int r148), .val (.int x161), .val (.int x171), .val (.int x178), .val (.long x190), .second, .val (.long x201), .second, .val (.int x206), .val (.int x214), .val (.int j237_s0)] [(.int (3 : Int32)), (.ref b159)])) rfl rfl (hb hby at_321)) ?_
  refine own_of (S' := T212.setTop (mkF m 323 #[.val (.int b0), .val (.int b1), .val (.int b2), .val (.int bw), .val (.int fil), .val (.int ba), .val (.int x7), .val (.int x18), .val (.int x30), .val (.int x40), .val (.int x50), .val (.int x60), .val (.int x66), .val (.ref b159), .val (.ref b177), .val (.int r148), .val (.int x161), .val (.int x171), .val (.int x178), .val (.long x190), .second, .val (.long x201), .second, .val (.int x206), .val (.int x214), .val (.int j237_s0)] [(.int (3 : Int32)), (.int (List.getD xs4 ((3 : Int32)).toNatClampNeg 0))])) (fun t k => XS.iconst X212.here hx rfl (hb hby at_322) k) ?_
  refine own_of (S' := T212.setTop (mkF m 325 #[.val (.int b0), .val (.int b1), .val (.int b2), .val (.int bw), .val (.int fil), .val (.int ba), .val (.int x7), .val (.int x18), .val (.int x30), .val (.int x40), .val (.int x50), .val (.int x60), .val (.int x66), .val (.ref b159), .val (.ref b177), .val (.int r148), .val (.int x161), .val (.int x171), .val (.int x178), .val (.long x190), .second, .val (.long x201), .second, .val (.int x206), .val (.int x214), .val (.int j237_s0)] [(.int x66), (.int (3 : Int32)), (.int (List.getD xs4 ((3 : Int32)).toNatClampNeg 0))])) (fun t k => XS.iload X212.here hx rfl (hb hby at_323) rfl k) ?_
  refine own_of (S' := T212.setTop (mkF m 327 #[.val (.int b0), .val (.int b1), .val (.int b2), .val (.int bw), .val (.int fil), .val (.int ba), .val (.int x7), .val (.int x18), .val (.int x30), .val (.int x40), .val (.int x50), .val (.int x60), .val (.int x66), .val (.ref b159), .val (.ref b177), .val (.int r148), .val (.int x161), .val (.int x171), .val (.int x178), .val (.long x190), .second, .val (.long x201), .second, .val (.int x206), .val (.int x214), .val (.int j237_s0)] [(.int x171), (.int x66), (.int (3 : Int32)), (.int (List.getD xs4 ((3 : Int32)).toNatClampNeg 0))])) (fun t k => XS.iload X212.here hx rfl (hb hby at_325) rfl k) ?_
  refine own_of (S' := T212.setTop (mkF m 329 #[.val (.int b0), .val (.int b1), .val (.int b2), .val (.int bw), .val (.int fil), .val (.int ba), .val (.int x7), .val (.int x18), .val (.int x30), .val (.int x40), .val (.int x50), .val (.int x60), .val (.int x66), .val (.ref b159), .val (.ref b177), .val (.int r148), .val (.int x161), .val (.int x171), .val (.int x178), .val (.long x190), .second, .val (.long x201), .second, .val (.int x206), .val (.int x214), .val (.int j237_s0)] [(.int x206), (.int x171), (.int x66), (.int (3 : Int32)), (.int (List.getD xs4 ((3 : Int32)).toNatClampNeg 0))])) (fun t k => XS.iload X212.here hx rfl (hb hby at_327) rfl k) ?_
  refine own_of (S' := T212.setTop (mkF m 331 #[.val (.int b0), .val (.int b1), .val (.int b2), .val (.int bw), .val (.int fil), .val (.int ba), .val (.int x7), .val (.int x18), .val (.int x30), .val (.int x40), .val (.int x50), .val (.int x60), .val (.int x66), .val (.ref b159), .val (.ref b177), .val (.int r148), .val (.int x161), .val (.int x171), .val (.int x178), .val (.long x190), .second, .val (.long x201), .second, .val (.int x206), .val (.int x214), .val (.int j237_s0)] [(.int x214), (.int x206), (.int x171), (.int x66), (.int (3 : Int32)), (.int (List.getD xs4 ((3 : Int32)).toNatClampNeg 0))])) (fun t k => XS.iload X212.here hx rfl (hb hby at_329) rfl k) ?_
  refine own_of (S' := T212.setTop (mkF m 333 #[.val (.int b0), .val (.int b1), .val (.int b2), .val (.int bw), .val (.int fil), .val (.int ba), .val (.int x7), .val (.int x18), .val (.int x30), .val (.int x40), .val (.int x50), .val (.int x60), .val (.int x66), .val (.ref b159), .val (.ref b177), .val (.int r148), .val (.int x161), .val (.int x171), .val (.int x178), .val (.long x190), .second, .val (.long x201), .second, .val (.int x206), .val (.int x214), .val (.int j237_s0)] [(.int j237_s0), (.int x214), (.int x206), (.int x171), (.int x66), (.int (3 : Int32)), (.int (List.getD xs4 ((3 : Int32)).toNatClampNeg 0))])) (fun t k => XS.iload X212.here hx rfl (hb hby at_331) rfl k) ?_
  refine own_of (S' := T212.setTop (mkF m 335 #[.val (.int b0), .val (.int b1), .val (.int b2), .val (.int bw), .val (.int fil), .val (.int ba), .val (.int x7), .val (.int x18), .val (.int x30), .val (.int x40), .val (.int x50), .val (.int x60), .val (.int x66), .val (.ref b159), .val (.ref b177), .val (.int r148), .val (.int x161), .val (.int x171), .val (.int x178), .val (.long x190), .second, .val (.long x201), .second, .val (.int x206), .val (.int x214), .val (.int j237_s0)] [(.int fil), (.int j237_s0), (.int x214), (.int x206), (.int x171), (.int x66), (.int (3 : Int32)), (.int (List.getD xs4 ((3 : Int32)).toNatClampNeg 0))])) (fun t k => XS.iload X212.here hx rfl (hb hby at_333) rfl k) ?_
  obtain ⟨_, _, ⟨T214, L214, k214, n214⟩, -, X214, ⟨Lc214, hQ214, l214, y214, z214⟩, st214⟩ := Jvm.LawKit.callS X212 hx (y := (⟨"com/example/firstlight/firstlight/BitWriterPutPinLaw", "slot", "(IIIIIIII)Z"⟩ : MethodName)) hown (mvT hZ (hw _ (List.mem_of_getElem? (i := 33) rfl))) (mvT hZ (hw _ (List.mem_of_getElem? (i := 34) rfl))) (mvT hZ (hw _ (List.mem_of_getElem? (i := 35) rfl))) (mvT hZ (hw _ (List.mem_of_getElem? (i := 36) rfl))) (by decide) (backOf (W := 0) (own_rm5 l Z _ hw [] (List.getD xs4 ((3 : Int32)).toNatClampNeg 0) (3 : Int32) x66 x171 x206 x214 j237_s0 fil T199.heap n0 ) hZ (hw _ (List.mem_of_getElem? (i := 36) rfl)) (hw _ (List.mem_of_getElem? (i := 35) rfl)) (by decide) (by decide)) (g := (mkF m 335 #[.val (.int b0), .val (.int b1), .val (.int b2), .val (.int bw), .val (.int fil), .val (.int ba), .val (.int x7), .val (.int x18), .val (.int x30), .val (.int x40), .val (.int x50), .val (.int x60), .val (.int x66), .val (.ref b159), .val (.ref b177), .val (.int r148), .val (.int x161), .val (.int x171), .val (.int x178), .val (.long x190), .second, .val (.long x201), .second, .val (.int x206), .val (.int x214), .val (.int j237_s0)] [(.int fil), (.int j237_s0), (.int x214), (.int x206), (.int x171), (.int x66), (.int (3 : Int32)), (.int (List.getD xs4 ((3 : Int32)).toNatClampNeg 0))])) rfl (by rw [hml]; rfl) (argsL := [(.int (List.getD xs4 ((3 : Int32)).toNatClampNeg 0)), (.int (3 : Int32)), (.int x66), (.int x171), (.int x206), (.int x214), (.int j237_s0), (.int fil)]) (rest := []) (lenOf own_pd4 rfl) rfl (by show 2 * 0 + _ ≤ _; exact Nat.le_of_eq rfl) (hb hby at_335) (fun _ _ => ⟨rfl, eh212, (by decide : 2 + 0 ≤ _), (by decide : 9 + 0 ≤ _)⟩)
  dsimp only [Pt.U, Pt.locs, Pt.cells, Pt.slots] at X214 l214 y214 z214 st214 hQ214
  subst l214 y214 z214
  obtain ⟨rfl, M214, eh214⟩ := hQ214
  have N214 := Fr.app N212 M214
  refine own_of (S' := T214.setTop (mkF m 338 #[.val (.int b0), .val (.int b1), .val (.int b2), .val (.int bw), .val (.int fil), .val (.int ba), .val (.int x7), .val (.int x18), .val (.int x30), .val (.int x40), .val (.int x50), .val (.int x60), .val (.int x66), .val (.ref b159), .val (.ref b177), .val (.int r148), .val (.int x161), .val (.int x171), .val (.int x178), .val (.long x190), .second, .val (.long x201), .second, .val (.int x206), .val (.int x214), .val (.int j237_s0)] [(.int (own_slot (List.getD xs4 ((3 : Int32)).toNatClampNeg 0) (3 : Int32) x66 x171 x206 x214 j237_s0 fil))])) (fun t k => st214 _ k) ?_
  generalize q335 : (own_slot (List.getD xs4 ((3 : Int32)).toNatClampNeg 0) (3 : Int32) x66 x171 x206 x214 j237_s0 fil) = r335
  have hc338 : ¬ (r335 = (0 : Int32)) := by rw [← q335]; exact own_K.2 3 (by decide) (by decide)
  refine own_of (S' := T214.setTop (mkF m 341 #[.val (.int b0), .val (.int b1), .val (.int b2), .val (.int bw), .val (.int fil), .val (.int ba), .val (.int x7), .val (.int x18), .val (.int x30), .val (.int x40), .val (.int x50), .val (.int x60), .val (.int x66), .val (.ref b159), .val (.ref b177), .val (.int r148), .val (.int x161), .val (.int x171), .val (.int x178), .val (.long x190), .second, .val (.long x201), .second, .val (.int x206), .val (.int x214), .val (.int j237_s0)] [])) (fun t k => XS.ifNo X214.here hx rfl (hb hby at_338) rfl ((if0 _ _).trans (feq hc338).1) k) ?_
  refine own_of (S' := T214.setTop (mkF m 343 #[.val (.int b0), .val (.int b1), .val (.int b2), .val (.int bw), .val (.int fil), .val (.int ba), .val (.int x7), .val (.int x18), .val (.int x30), .val (.int x40), .val (.int x50), .val (.int x60), .val (.int x66), .val (.ref b159), .val (.ref b177), .val (.int r148), .val (.int x161), .val (.int x171), .val (.int x178), .val (.long x190), .second, .val (.long x201), .second, .val (.int x206), .val (.int x214), .val (.int j237_s0)] [(.ref b159)])) (fun t k => XS.aload X214.here hx rfl (hb hby at_341) rfl rfl k) ?_
  refine own_of (S' := T214.setTop (mkF m 344 #[.val (.int b0), .val (.int b1), .val (.int b2), .val (.int bw), .val (.int fil), .val (.int ba), .val (.int x7), .val (.int x18), .val (.int x30), .val (.int x40), .val (.int x50), .val (.int x60), .val (.int x66), .val (.ref b159), .val (.ref b177), .val (.int r148), .val (.int x161), .val (.int x171), .val (.int x178), .val (.long x190), .second, .val (.long x201), .second, .val (.int x206), .val (.int x214), .val (.int j237_s0)] [(.int (4 : Int32)), (.ref b159)])) (fun t k => XS.iconst X214.here hx rfl (hb hby at_343) k) ?_
  refine own_of (S' := T214.setTop (mkF m 345 #[.val (.int b0), .val (.int b1), .val (.int b2), .val (.int bw), .val (.int fil), .val (.int ba), .val (.int x7), .val (.int x18), .val (.int x30), .val (.int x40), .val (.int x50), .val (.int x60), .val (.int x66), .val (.ref b159), .val (.ref b177), .val (.int r148), .val (.int x161), .val (.int x171), .val (.int x178), .val (.long x190), .second, .val (.long x201), .second, .val (.int x206), .val (.int x214), .val (.int j237_s0)] [(.int (List.getD xs4 ((4 : Int32)).toNatClampNeg 0))])) (own_ldI X214 hx hZ eh214 p199_0 (j := (4 : Int32)) ⟨by decide, by decide⟩ (g := (mkF m 344 #[.val (.int b0), .val (.int b1), .val (.int b2), .val (.int bw), .val (.int fil), .val (.int ba), .val (.int x7), .val (.int x18), .val (.int x30), .val (.int x40), .val (.int x50), .val (.int x60), .val (.int x66), .val (.ref b159), .val (.ref b177), .val (.int r148), .val (.int x161), .val (.int x171), .val (.int x178), .val (.long x190), .second, .val (.long x201), .second, .val (.int x206), .val (.int x214), .val (.int j237_s0)] [(.int (4 : Int32)), (.ref b159)])) rfl rfl (hb hby at_344)) ?_
  refine own_of (S' := T214.setTop (mkF m 346 #[.val (.int b0), .val (.int b1), .val (.int b2), .val (.int bw), .val (.int fil), .val (.int ba), .val (.int x7), .val (.int x18), .val (.int x30), .val (.int x40), .val (.int x50), .val (.int x60), .val (.int x66), .val (.ref b159), .val (.ref b177), .val (.int r148), .val (.int x161), .val (.int x171), .val (.int x178), .val (.long x190), .second, .val (.long x201), .second, .val (.int x206), .val (.int x214), .val (.int j237_s0)] [(.int (4 : Int32)), (.int (List.getD xs4 ((4 : Int32)).toNatClampNeg 0))])) (fun t k => XS.iconst X214.here hx rfl (hb hby at_345) k) ?_
  refine own_of (S' := T214.setTop (mkF m 348 #[.val (.int b0), .val (.int b1), .val (.int b2), .val (.int bw), .val (.int fil), .val (.int ba), .val (.int x7), .val (.int x18), .val (.int x30), .val (.int x40), .val (.int x50), .val (.int x60), .val (.int x66), .val (.ref b159), .val (.ref b177), .val (.int r148), .val (.int x161), .val (.int x171), .val (.int x178), .val (.long x190), .second, .val (.long x201), .second, .val (.int x206), .val (.int x214), .val (.int j237_s0)] [(.int x66), (.int (4 : Int32)), (.int (List.getD xs4 ((4 : Int32)).toNatClampNeg 0))])) (fun t k => XS.iload X214.here hx rfl (hb hby at_346) rfl k) ?_
  refine own_of (S' := T214.setTop (mkF m 350 #[.val (.int b0), .val (.int b1), .val (.int b2), .val (.int bw), .val (.int fil), .val (.int ba), .val (.int x7), .val (.int x18), .val (.int x30), .val (.int x40), .val (.int x50), .val (.int x60), .val (.int x66), .val (.ref b159), .val (.ref b177), .val (.int r148), .val (.int x161), .val (.int x171), .val (.int x178), .val (.long x190), .second, .val (.long x201), .second, .val (.int x206), .val (.int x214), .val (.int j237_s0)] [(.int x171), (.int x66), (.int (4 : Int32)), (.int (List.getD xs4 ((4 : Int32)).toNatClampNeg 0))])) (fun t k => XS.iload X214.here hx rfl (hb hby at_348) rfl k) ?_
  refine own_of (S' := T214.setTop (mkF m 352 #[.val (.int b0), .val (.int b1), .val (.int b2), .val (.int bw), .val (.int fil), .val (.int ba), .val (.int x7), .val (.int x18), .val (.int x30), .val (.int x40), .val (.int x50), .val (.int x60), .val (.int x66), .val (.ref b159), .val (.ref b177), .val (.int r148), .val (.int x161), .val (.int x171), .val (.int x178), .val (.long x190), .second, .val (.long x201), .second, .val (.int x206), .val (.int x214), .val (.int j237_s0)] [(.int x206), (.int x171), (.int x66), (.int (4 : Int32)), (.int (List.getD xs4 ((4 : Int32)).toNatClampNeg 0))])) (fun t k => XS.iload X214.here hx rfl (hb hby at_350) rfl k) ?_
  refine own_of (S' := T214.setTop (mkF m 354 #[.val (.int b0), .val (.int b1), .val (.int b2), .val (.int bw), .val (.int fil), .val (.int ba), .val (.int x7), .val (.int x18), .val (.int x30), .val (.int x40), .val (.int x50), .val (.int x60), .val (.int x66), .val (.ref b159), .val (.ref b177), .val (.int r148), .val (.int x161), .val (.int x171), .val (.int x178), .val (.long x190), .second, .val (.long x201), .second, .val (.int x206), .val (.int x214), .val (.int j237_s0)] [(.int x214), (.int x206), (.int x171), (.int x66), (.int (4 : Int32)), (.int (List.getD xs4 ((4 : Int32)).toNatClampNeg 0))])) (fun t k => XS.iload X214.here hx rfl (hb hby at_352) rfl k) ?_
  refine own_of (S' := T214.setTop (mkF m 356 #[.val (.int b0), .val (.int b1), .val (.int b2), .val (.int bw), .val (.int fil), .val (.int ba), .val (.int x7), .val (.int x18), .val (.int x30), .val (.int x40), .val (.int x50), .val (.int x60), .val (.int x66), .val (.ref b159), .val (.ref b177), .val (.int r148), .val (.int x161), .val (.int x171), .val (.int x178), .val (.long x190), .second, .val (.long x201), .second, .val (.int x206), .val (.int x214), .val (.int j237_s0)] [(.int j237_s0), (.int x214), (.int x206), (.int x171), (.int x66), (.int (4 : Int32)), (.int (List.getD xs4 ((4 : Int32)).toNatClampNeg 0))])) (fun t k => XS.iload X214.here hx rfl (hb hby at_354) rfl k) ?_
  refine own_of (S' := T214.setTop (mkF m 358 #[.val (.int b0), .val (.int b1), .val (.int b2), .val (.int bw), .val (.int fil), .val (.int ba), .val (.int x7), .val (.int x18), .val (.int x30), .val (.int x40), .val (.int x50), .val (.int x60), .val (.int x66), .val (.ref b159), .val (.ref b177), .val (.int r148), .val (.int x161), .val (.int x171), .val (.int x178), .val (.long x190), .second, .val (.long x201), .second, .val (.int x206), .val (.int x214), .val (.int j237_s0)] [(.int fil), (.int j237_s0), (.int x214), (.int x206), (.int x171), (.int x66), (.int (4 : Int32)), (.int (List.getD xs4 ((4 : Int32)).toNatClampNeg 0))])) (fun t k => XS.iload X214.here hx rfl (hb hby at_356) rfl k) ?_
  obtain ⟨_, _, ⟨T216, L216, k216, n216⟩, -, X216, ⟨Lc216, hQ216, l216, y216, z216⟩, st216⟩ := Jvm.LawKit.callS X214 hx (y := (⟨"com/example/firstlight/firstlight/BitWriterPutPinLaw", "slot", "(IIIIIIII)Z"⟩ : MethodName)) hown (mvT hZ (hw _ (List.mem_of_getElem? (i := 33) rfl))) (mvT hZ (hw _ (List.mem_of_getElem? (i := 34) rfl))) (mvT hZ (hw _ (List.mem_of_getElem? (i := 35) rfl))) (mvT hZ (hw _ (List.mem_of_getElem? (i := 36) rfl))) (by decide) (backOf (W := 0) (own_rm5 l Z _ hw [] (List.getD xs4 ((4 : Int32)).toNatClampNeg 0) (4 : Int32) x66 x171 x206 x214 j237_s0 fil T199.heap n0 ) hZ (hw _ (List.mem_of_getElem? (i := 36) rfl)) (hw _ (List.mem_of_getElem? (i := 35) rfl)) (by decide) (by decide)) (g := (mkF m 358 #[.val (.int b0), .val (.int b1), .val (.int b2), .val (.int bw), .val (.int fil), .val (.int ba), .val (.int x7), .val (.int x18), .val (.int x30), .val (.int x40), .val (.int x50), .val (.int x60), .val (.int x66), .val (.ref b159), .val (.ref b177), .val (.int r148), .val (.int x161), .val (.int x171), .val (.int x178), .val (.long x190), .second, .val (.long x201), .second, .val (.int x206), .val (.int x214), .val (.int j237_s0)] [(.int fil), (.int j237_s0), (.int x214), (.int x206), (.int x171), (.int x66), (.int (4 : Int32)), (.int (List.getD xs4 ((4 : Int32)).toNatClampNeg 0))])) rfl (by rw [hml]; rfl) (argsL := [(.int (List.getD xs4 ((4 : Int32)).toNatClampNeg 0)), (.int (4 : Int32)), (.int x66), (.int x171), (.int x206), (.int x214), (.int j237_s0), (.int fil)]) (rest := []) (lenOf own_pd4 rfl) rfl (by show 2 * 0 + _ ≤ _; exact Nat.le_of_eq rfl) (hb hby at_358) (fun _ _ => ⟨rfl, eh214, (by decide : 2 + 0 ≤ _), (by decide : 9 + 0 ≤ _)⟩)
  dsimp only [Pt.U, Pt.locs, Pt.cells, Pt.slots] at X216 l216 y216 z216 st216 hQ216
  subst l216 y216 z216
  obtain ⟨rfl, M216, eh216⟩ := hQ216
  have N216 := Fr.app N214 M216
  refine own_of (S' := T216.setTop (mkF m 361 #[.val (.int b0), .val (.int b1), .val (.int b2), .val (.int bw), .val (.int fil), .val (.int ba), .val (.int x7), .val (.int x18), .val (.int x30), .val (.int x40), .val (.int x50), .val (.int x60), .val (.int x66), .val (.ref b159), .val (.ref b177), .val (.int r148), .val (.int x161), .val (.int x171), .val (.int x178), .val (.long x190), .second, .val (.long x201), .second, .val (.int x206), .val (.int x214), .val (.int j237_s0)] [(.int (own_slot (List.getD xs4 ((4 : Int32)).toNatClampNeg 0) (4 : Int32) x66 x171 x206 x214 j237_s0 fil))])) (fun t k => st216 _ k) ?_
  generalize q358 : (own_slot (List.getD xs4 ((4 : Int32)).toNatClampNeg 0) (4 : Int32) x66 x171 x206 x214 j237_s0 fil) = r358
  have hc361 : ¬ (r358 = (0 : Int32)) := by rw [← q358]; exact own_K.2 4 (by decide) (by decide)
  refine own_of (S' := T216.setTop (mkF m 364 #[.val (.int b0), .val (.int b1), .val (.int b2), .val (.int bw), .val (.int fil), .val (.int ba), .val (.int x7), .val (.int x18), .val (.int x30), .val (.int x40), .val (.int x50), .val (.int x60), .val (.int x66), .val (.ref b159), .val (.ref b177), .val (.int r148), .val (.int x161), .val (.int x171), .val (.int x178), .val (.long x190), .second, .val (.long x201), .second, .val (.int x206), .val (.int x214), .val (.int j237_s0)] [])) (fun t k => XS.ifNo X216.here hx rfl (hb hby at_361) rfl ((if0 _ _).trans (feq hc361).1) k) ?_
  refine own_of (S' := T216.setTop (mkF m 365 #[.val (.int b0), .val (.int b1), .val (.int b2), .val (.int bw), .val (.int fil), .val (.int ba), .val (.int x7), .val (.int x18), .val (.int x30), .val (.int x40), .val (.int x50), .val (.int x60), .val (.int x66), .val (.ref b159), .val (.ref b177), .val (.int r148), .val (.int x161), .val (.int x171), .val (.int x178), .val (.long x190), .second, .val (.long x201), .second, .val (.int x206), .val (.int x214), .val (.int j237_s0)] [(.int (1 : Int32))])) (fun t k => XS.iconst X216.here hx rfl (hb hby at_364) k) ?_
  refine own_of (S' := T216.setTop (mkF m 369 #[.val (.int b0), .val (.int b1), .val (.int b2), .val (.int bw), .val (.int fil), .val (.int ba), .val (.int x7), .val (.int x18), .val (.int x30), .val (.int x40), .val (.int x50), .val (.int x60), .val (.int x66), .val (.ref b159), .val (.ref b177), .val (.int r148), .val (.int x161), .val (.int x171), .val (.int x178), .val (.long x190), .second, .val (.long x201), .second, .val (.int x206), .val (.int x214), .val (.int j237_s0)] [(.int (1 : Int32))])) (fun t k => XS.goto X216.here hx rfl (pc0 := 365) (pc' := 369) rfl (hb hby at_365) (by decide) (by decide) k) ?_
  obtain ⟨fs, hr, hrun, hended, hW, hsame⟩ := X216.leave (v := some (.int (nar .boolean (1 : Int32)))) (fun h => by rw [Bd.returns] at h; cases h)
  refine ⟨_, _, retN X216 hx (t := .boolean) Bd.returns (by simp) (hb hby at_369) hr, hrun, hended, hG _ _ ⟨_, _, rfl, ?_, ⟨_, rfl⟩, hW, hsame.mono (by decide) (by decide)⟩⟩
  show own_Q0 Z b0 b1 b2 bw fil ba h0 n0 _ T216.heap _
  rw [eh216]
  exact ⟨rfl, N216⟩
set_option maxRecDepth 65536 in
set_option maxHeartbeats 40000000 in
theorem own_comes {Post : Tables → Env → Array Value → State → Outcome → State → Prop} (hpost : ∀ tb e args s v u, (limb_1_1.after args s (.returned v) u = true ∧ limb_1_2.after args s (.returned v) u = true ∧ True) → FrameEnd s (.returned v) u (Jvm.fieldLocs frame_1_writes args s ++ Jvm.arrayLocs frame_1_arrays args s ++ Jvm.staticLocs frame_1_statics s) 16 128 → Post tb e args s (.returned v) u) :
    ArmFor flags0 classFile x code maxLocals ret World_1 tables_1 room_1 Calls_1 rest_1 Pre_1 Post := by
  intro l hfl _ _ p e ha hc hk s m args below hf hA hF happ hP
  obtain ⟨hcalls, hrest, hpre⟩ := hP
  obtain ⟨-, -, -, hnamed, -, -, -, hat⟩ := (Spec.applies_iff hf).mp happ
  obtain ⟨hg, hn⟩ := and_e (Cond.before_iff.mp (show (Jvm.Cond.and given_1 narrow_1).before args s = true from hpre))
  obtain ⟨hcount, hg0⟩ := and_e hg
  obtain ⟨ha0, hg1⟩ := and_e hg0
  obtain ⟨ha1, hg2⟩ := and_e hg1
  obtain ⟨ha2, hg3⟩ := and_e hg2
  obtain ⟨ha3, hg4⟩ := and_e hg3
  obtain ⟨ha4, hg5⟩ := and_e hg4
  obtain ⟨w0, w1, w2, w3, w4, w5, rfl⟩ : ∃ w0 w1 w2 w3 w4 w5 : Value, args = #[w0, w1, w2, w3, w4, w5] := by
    have hs : args.size = 6 := by simpa [Cond.value, given_1] using hcount
    obtain ⟨L⟩ := args
    match L, hs with
    | [w0, w1, w2, w3, w4, w5], _ => exact ⟨w0, w1, w2, w3, w4, w5, rfl⟩
  have hw := fun d (hd : d ∈ tables_1) => atoms_spec (ws := Jvm.Cond.code x code maxLocals ret :: tables_1) hat d (List.mem_cons_of_mem _ hd)
  obtain ⟨i0, ei0⟩ := is_v ha0
  obtain rfl : w0 = (.int i0) := Option.some.inj ei0
  obtain ⟨i1, ei1⟩ := is_v ha1
  obtain rfl : w1 = (.int i1) := Option.some.inj ei1
  obtain ⟨i2, ei2⟩ := is_v ha2
  obtain rfl : w2 = (.int i2) := Option.some.inj ei2
  obtain ⟨i3, ei3⟩ := is_v ha3
  obtain rfl : w3 = (.int i3) := Option.some.inj ei3
  obtain ⟨i4, ei4⟩ := is_v ha4
  obtain rfl : w4 = (.int i4) := Option.some.inj ei4
  obtain ⟨i5, ei5⟩ := is_v hg5
  obtain rfl : w5 = (.int i5) := Option.some.inj ei5
  obtain ⟨n, o, h1, h2, h3, _, L, rfl, ⟨rfl, N⟩, hq⟩ := own_rm0 l s _ hw tables_1 i0 i1 i2 i3 i4 i5 s.heap s.heap.size (Nat.le_refl _) p e ha hc hk s m _ below hf ((Spec.applies_iff_loose hf).mp happ).1 ⟨rfl, State.Warmed39.refl s, rfl⟩ trivial
  exact ⟨n, _, h1, h2, h3, hpost _ _ _ _ _ _ ⟨Cond.after_iff.mpr rfl, Cond.after_iff.mpr (eq_i res_at (Term.int_eval (1)) rfl), trivial⟩ ⟨hq.1, hq.2.1, (hq.2.2.sift fun y hy => Or.inr (N y hy)).mono (by decide) (by decide)⟩⟩
theorem main_1_1 : Claimed_1_1 := own_comes fun _ _ _ _ _ _ h hF => ⟨h.1, hF⟩
theorem main_1_2 : Claimed_1_2 := own_comes fun _ _ _ _ _ _ h hF => ⟨h.2.1, hF⟩
end Jvm.Pilot.@@N@@
namespace Jvm.Pilot.@@N@@
open Jvm Jvm.ClassFile Sem Op Lib Jvm.Free Jvm.Stand Jvm.Pilot.@@N@@.Jvm.D
/-! MADE BY PROGRAM (witnessworld.py) out of the Statement's table words and the real class files: 9 classes; the members and pool entries that the words name. The judged class is class 1, her method 1. -/
namespace start1
open Jvm.ClassFile
def u (s : String) : CpInfo := .utf8 (stringToUtf16 s)
/-- a pool by its gaps: so many unusable entries, then the entry; so many at the end -/
def gap : Nat → List CpInfo → List CpInfo
  | 0, r => r
  | n + 1, r => .unusable :: gap n r
def poolList (es : List (Nat × CpInfo)) (last : Nat) : List CpInfo := es.foldr (fun e r => gap e.1 (e.2 :: r)) (gap last [])
def pool (es : List (Nat × CpInfo)) (last : Nat) : Array CpInfo := ⟨poolList es last⟩
def fileOf (pool : Array CpInfo) (this : Nat) (attrs : Array Attribute := #[]) (ms : Array MethodInfo := #[]) (fl : Nat := 33) (sup : Nat := 0) (ifs : Array Nat := #[]) (fds : Array FieldInfo := #[]) : ClassFile where
  minorVersion := 0
  majorVersion := 65
  constantPool := pool
  accessFlags := fl
  thisClass := this
  superClass := sup
  interfaces := ifs
  fields := fds
  methods := ms
  attributes := attrs
def plain (name : String) (sup : Option ClassId) : Class where
  name := name
  kind := .ordinary
  loader := none
  accessFlags := 33
  super := sup
  interfaces := #[]
  cf := none
  fields := #[]
  methods := #[]
  instanceTypes := #[]
  staticTypes := #[]
  resolved := #[]
  callSites := []
  init := .initialized
  statics := none
  mirror := none

def pool0 : Array CpInfo := pool [(5, u "<init>"), (0, u "()V"), (1, .class_ 10), (1, u "java/lang/Object")] 113

def k0c0 : Code := { maxStack := 0, maxLocals := 1, code := object_method_1_code, exceptionTable := #[], attributes := #[] }
def k0m0 : Method := { name := "<init>", desc := "()V", sig := { parameters := [], returnType := none }, accessFlags := 1, code := some k0c0 }
/-- java/lang/Object -/
def k0 : Class := { plain "java/lang/Object" none with
  accessFlags := 33
  interfaces := #[]
  cf := some (fileOf pool0 8 #[] #[{ accessFlags := 1, nameIndex := 5, descriptorIndex := 6, attributes := #[] }] 33 0 #[] #[])
  fields := #[]
  methods := #[k0m0]
  instanceTypes := #[]
  staticTypes := #[]
  resolved := Array.replicate 124 none
  statics := none }

def pool1 : Array CpInfo := pool [(2, .class_ 4), (0, .nameAndType 5 6), (0, u "java/lang/Object"), (0, u "<init>"), (0, u "()V"), (0, .class_ 8), (0, u "com/example/firstlight/firstlight/BitWriter"), (0, .methodref 7 3), (0, .methodref 7 11), (0, .nameAndType 12 13), (0, u "start"), (0, u "([II)Lcom/example/firstlight/firstlight/BitWriter;"), (0, .methodref 7 15), (0, .nameAndType 16 17), (0, u "put"), (0, u "(II)V"), (0, .methodref 7 19), (0, .nameAndType 20 21), (0, u "end"), (0, u "()I"), (0, .methodref 23 24), (0, .class_ 25), (0, .nameAndType 26 27), (0, u "com/example/firstlight/firstlight/BitWriterPutPinLaw"), (0, u "slot"), (0, u "(IIIIIIII)Z"), (2, u "law"), (0, u "(IIIIII)Z")] 5

def k1m0 : Method := { name := "<init>", desc := "()V", sig := { parameters := [], returnType := none }, accessFlags := 1, code := none }
def k1c1 : Code := { maxStack := 8, maxLocals := 26, code := code, exceptionTable := #[], attributes := #[] }
def k1m1 : Method := { name := "law", desc := "(IIIIII)Z", sig := { parameters := [.int, .int, .int, .int, .int, .int], returnType := some .boolean }, accessFlags := 9, code := some k1c1 }
def k1c2 : Code := { maxStack := 2, maxLocals := 10, code := method_3_code, exceptionTable := #[], attributes := #[] }
def k1m2 : Method := { name := "slot", desc := "(IIIIIIII)Z", sig := { parameters := [.int, .int, .int, .int, .int, .int, .int, .int], returnType := some .boolean }, accessFlags := 10, code := some k1c2 }
/-- com/example/firstlight/firstlight/BitWriterPutPinLaw -/
def k1 : Class := { plain "com/example/firstlight/firstlight/BitWriterPutPinLaw" (some 0) with
  accessFlags := 49
  interfaces := #[]
  cf := some (fileOf pool1 23 #[] #[{ accessFlags := 1, nameIndex := 5, descriptorIndex := 6, attributes := #[] }, { accessFlags := 9, nameIndex := 30, descriptorIndex := 31, attributes := #[] }, { accessFlags := 10, nameIndex := 26, descriptorIndex := 27, attributes := #[] }] 49 2 #[] #[])
  fields := #[]
  methods := #[k1m0, k1m1, k1m2]
  instanceTypes := #[]
  staticTypes := #[]
  resolved := Array.replicate 37 none
  statics := none }

def pool2 : Array CpInfo := pool [(1, .methodref 2 3), (0, .class_ 4), (0, .nameAndType 5 6), (0, u "java/lang/Object"), (0, u "<init>"), (0, u "()V"), (0, .fieldref 8 9), (0, .class_ 10), (0, .nameAndType 11 12), (0, u "com/example/firstlight/firstlight/BitWriter"), (0, u "data"), (0, u "[I"), (0, .fieldref 8 14), (0, .nameAndType 15 16), (0, u "at"), (0, u "I"), (0, .fieldref 8 18), (0, .nameAndType 19 20), (0, u "buffer"), (0, u "J"), (0, .fieldref 8 22), (0, .nameAndType 23 16), (0, u "filled"), (12, u "HEAP_BYTES"), (2, u "start"), (0, u "([II)Lcom/example/firstlight/firstlight/BitWriter;"), (0, u "put"), (0, u "(II)V"), (1, u "end"), (0, u "()I")] 3

def k2c0 : Code := { maxStack := 1, maxLocals := 1, code := prog_8_method_1_code, exceptionTable := #[], attributes := #[] }
def k2m0 : Method := { name := "<init>", desc := "()V", sig := { parameters := [], returnType := none }, accessFlags := 0, code := some k2c0 }
def k2c1 : Code := { maxStack := 3, maxLocals := 3, code := prog_8_method_2_code, exceptionTable := #[], attributes := #[] }
def k2m1 : Method := { name := "start", desc := "([II)Lcom/example/firstlight/firstlight/BitWriter;", sig := { parameters := [(.array .int), .int], returnType := some (.object "com/example/firstlight/firstlight/BitWriter") }, accessFlags := 0, code := some k2c1 }
def k2c2 : Code := { maxStack := 6, maxLocals := 3, code := prog_8_method_3_code, exceptionTable := #[], attributes := #[] }
def k2m2 : Method := { name := "put", desc := "(II)V", sig := { parameters := [.int, .int], returnType := none }, accessFlags := 0, code := some k2c2 }
def k2c3 : Code := { maxStack := 5, maxLocals := 1, code := prog_8_method_4_code, exceptionTable := #[], attributes := #[] }
def k2m3 : Method := { name := "end", desc := "()I", sig := { parameters := [], returnType := some .int }, accessFlags := 0, code := some k2c3 }
/-- com/example/firstlight/firstlight/BitWriter -/
def k2 : Class := { plain "com/example/firstlight/firstlight/BitWriter" (some 0) with
  accessFlags := 48
  interfaces := #[]
  cf := some (fileOf pool2 8 #[] #[{ accessFlags := 0, nameIndex := 5, descriptorIndex := 6, attributes := #[] }, { accessFlags := 0, nameIndex := 39, descriptorIndex := 40, attributes := #[] }, { accessFlags := 0, nameIndex := 41, descriptorIndex := 42, attributes := #[] }, { accessFlags := 0, nameIndex := 44, descriptorIndex := 45, attributes := #[] }] 48 2 #[] #[{ accessFlags := 24, nameIndex := 36, descriptorIndex := 20, attributes := #[] }, { accessFlags := 2, nameIndex := 11, descriptorIndex := 12, attributes := #[] }, { accessFlags := 2, nameIndex := 15, descriptorIndex := 16, attributes := #[] }, { accessFlags := 2, nameIndex := 19, descriptorIndex := 20, attributes := #[] }, { accessFlags := 2, nameIndex := 23, descriptorIndex := 16, attributes := #[] }])
  fields := #[{ name := "HEAP_BYTES", type := .long, accessFlags := 24, slot := 0, constantValue := 0 }, { name := "data", type := (.array .int), accessFlags := 2, slot := 0, constantValue := 0 }, { name := "at", type := .int, accessFlags := 2, slot := 1, constantValue := 0 }, { name := "buffer", type := .long, accessFlags := 2, slot := 2, constantValue := 0 }, { name := "filled", type := .int, accessFlags := 2, slot := 3, constantValue := 0 }]
  methods := #[k2m0, k2m1, k2m2, k2m3]
  instanceTypes := #[(.array .int), .int, .long, .int]
  staticTypes := #[.long]
  resolved := Array.replicate 49 none
  statics := none }

def pool3 : Array CpInfo := pool [(1, u "java/lang/Cloneable"), (0, .class_ 1), (0, u "java/lang/Object"), (0, .class_ 3)] 3

/-- java/lang/Cloneable -/
def k3 : Class := { plain "java/lang/Cloneable" (some 0) with
  accessFlags := 1537
  interfaces := #[]
  cf := some (fileOf pool3 2 #[] #[] 1537 4 #[] #[])
  fields := #[]
  methods := #[]
  instanceTypes := #[]
  staticTypes := #[]
  resolved := Array.replicate 8 none
  statics := none }

def pool4 : Array CpInfo := pool [(1, u "java/io/Serializable"), (0, .class_ 1), (0, u "java/lang/Object"), (0, .class_ 3)] 3

/-- java/io/Serializable -/
def k4 : Class := { plain "java/io/Serializable" (some 0) with
  accessFlags := 1537
  interfaces := #[]
  cf := some (fileOf pool4 2 #[] #[] 1537 4 #[] #[])
  fields := #[]
  methods := #[]
  instanceTypes := #[]
  staticTypes := #[]
  resolved := Array.replicate 8 none
  statics := none }

/-- the primitive byte -/
def k5 : Class := { plain "byte" none with kind := .primitive 'B', accessFlags := 0x411 }
/-- [B -/
def k6 : Class := { plain "[B" (some 0) with kind := .array 5 .byte, interfaces := #[3, 4], accessFlags := 1041 }

/-- the primitive int -/
def k7 : Class := { plain "int" none with kind := .primitive 'I', accessFlags := 0x411 }
/-- [I -/
def k8 : Class := { plain "[I" (some 0) with kind := .array 7 .int, interfaces := #[3, 4], accessFlags := 1041 }

def heap : Heap := #[]
def classes : Array Class := #[k0, k1, k2, k3, k4, k5, k6, k7, k8]
def interned : List (Array UInt16 × Addr) := []
def slotsUsed : Nat := 0
def theMethod : MethodId := ⟨1, 1⟩
def args0 : Array Value := #[.int 5, .int 7, .int 2, .int 9, .int 1, .int 3]
def aboutOver (below : List Frame) : State where
  vm := { classes := classes, interned := interned.toArray }
  heap := heap
  slotsUsed := slotsUsed
  threads := #[{ frames := .invoking theMethod args0 :: below }]
def below0 : List Frame := [.native { method := ⟨0, 0⟩, args := #[] }]
def about1 : State := aboutOver below0
def p0 : Program := .bare "" "" ""
def e0 : Env := launch0.env 0 0 0
theorem w_frames : about1.frames = Frame.invoking theMethod args0 :: below0 := rfl
set_option maxRecDepth 65536 in
theorem w_args : argsFit about1.vm theMethod args0 = true := by decide +kernel
set_option maxRecDepth 65536 in
theorem w_heap : heapFits about1 = true := by decide +kernel
set_option maxRecDepth 65536 in
theorem w_runnable : about1.curStatus? = some .runnable := by decide +kernel
set_option maxRecDepth 65536 in
theorem w_alone : about1.alone = true := by decide +kernel
set_option maxRecDepth 65536 in
theorem w_named : about1.methodNamed? x = some theMethod := by decide +kernel
set_option maxRecDepth 65536 in
theorem w_hears : about1.hears theMethod below0 = true := by decide +kernel
set_option maxRecDepth 65536 in
theorem w_ripe : about1.ripe theMethod args0 below0 = true := by decide +kernel
theorem w_running : about1.status = .running := rfl
set_option maxRecDepth 65536 in
theorem w_room : about1.hasRoom e0.platform room_1 = true :=
  launch0.hasRoom_least _ room_1 (by decide +kernel) (by decide +kernel) (by decide +kernel) (by decide +kernel) (by decide +kernel) (by decide +kernel)
theorem allAtoms_all (ts : List Jvm.Cond) (a : Array Jvm.Value) (st : Jvm.State) : (allAtoms ts).before a st = ts.all (fun c => c.before a st) := by
  induction ts with
  | nil => rfl
  | cons c t ih =>
    show (Jvm.Cond.and c (allAtoms t)).before a st = _
    rw [Jvm.Cond.before_and, ih, List.all_cons]
def words1 : List Jvm.Cond := Jvm.Cond.code x code maxLocals ret :: tables_1
/-- a 'code' word, met by the world's own term for the bytes: nothing is compared byte by byte -/
theorem code_word {y : MethodName} {bytes : ByteArray} {mx : Nat} {rt : Option FieldType} {a : Array Value} {s : State} {m : MethodId} {meth : Method} {c : Code} (h1 : s.methodNamed? y = some m) (h2 : s.vm.method? m = some meth) (h3 : meth.code = some c) (h4 : c.code = bytes)
    (h5 : (c.maxLocals == mx && c.exceptionTable.isEmpty && decide (c.maxStack ≤ mostOperands) && decide (meth.sig.returnType = rt) && !meth.locks && decide (parseMethodDescriptor y.desc = some meth.sig)) = true) : (Jvm.Cond.code y bytes mx rt).before a s = true := by
  simp only [Bool.and_eq_true, beq_iff_eq, Bool.not_eq_true', decide_eq_true_eq] at h5
  obtain ⟨⟨⟨⟨⟨g1, g2⟩, g3⟩, g4⟩, g5⟩, g6⟩ := h5
  simp [Cond.before, Cond.holds, Cond.value, h1, h2, h3, h4, g1, g2, g3, g4, g5, g6]
def isCode : Jvm.Cond → Bool
  | .code _ _ _ _ => true
  | _ => false
theorem all_split {L : List Jvm.Cond} {P : Jvm.Cond → Bool} (h1 : L.all (fun c => isCode c || P c) = true) (h2 : ∀ c ∈ L.filter isCode, P c = true) : L.all P = true := by
  refine List.all_eq_true.mpr fun c hc => ?_
  have h := List.all_eq_true.mp h1 c hc
  rcases Bool.eq_false_or_eq_true (isCode c) with hi | hi
  · exact h2 c (List.mem_filter.mpr ⟨hc, hi⟩)
  · simpa [hi] using h
set_option maxRecDepth 65536 in
theorem w_c0 : (Jvm.Cond.code x code maxLocals ret).before args0 about1 = true := code_word (m := ⟨1, 1⟩) (meth := k1m1) (c := k1c1) (by decide +kernel) rfl rfl rfl (by decide +kernel)
set_option maxRecDepth 65536 in
theorem w_c1 : (Jvm.Cond.code ({ cls := "com/example/firstlight/firstlight/BitWriter", name := "<init>", desc := "()V" } : Jvm.MethodName) prog_8_method_1_code (1 : Nat) (Option.none : Option Jvm.ClassFile.FieldType)).before args0 about1 = true := code_word (m := ⟨2, 0⟩) (meth := k2m0) (c := k2c0) (by decide +kernel) rfl rfl rfl (by decide +kernel)
set_option maxRecDepth 65536 in
theorem w_c2 : (Jvm.Cond.code ({ cls := "java/lang/Object", name := "<init>", desc := "()V" } : Jvm.MethodName) object_method_1_code (1 : Nat) (Option.none : Option Jvm.ClassFile.FieldType)).before args0 about1 = true := code_word (m := ⟨0, 0⟩) (meth := k0m0) (c := k0c0) (by decide +kernel) rfl rfl rfl (by decide +kernel)
set_option maxRecDepth 65536 in
theorem w_c3 : (Jvm.Cond.code ({ cls := "com/example/firstlight/firstlight/BitWriter", name := "start", desc := "([II)Lcom/example/firstlight/firstlight/BitWriter;" } : Jvm.MethodName) prog_8_method_2_code (3 : Nat) (Option.some (Jvm.ClassFile.FieldType.object "com/example/firstlight/firstlight/BitWriter"))).before args0 about1 = true := code_word (m := ⟨2, 1⟩) (meth := k2m1) (c := k2c1) (by decide +kernel) rfl rfl rfl (by decide +kernel)
set_option maxRecDepth 65536 in
theorem w_c4 : (Jvm.Cond.code ({ cls := "com/example/firstlight/firstlight/BitWriter", name := "put", desc := "(II)V" } : Jvm.MethodName) prog_8_method_3_code (3 : Nat) (Option.none : Option Jvm.ClassFile.FieldType)).before args0 about1 = true := code_word (m := ⟨2, 2⟩) (meth := k2m2) (c := k2c2) (by decide +kernel) rfl rfl rfl (by decide +kernel)
set_option maxRecDepth 65536 in
theorem w_c5 : (Jvm.Cond.code ({ cls := "com/example/firstlight/firstlight/BitWriter", name := "end", desc := "()I" } : Jvm.MethodName) prog_8_method_4_code (1 : Nat) (Option.some Jvm.ClassFile.FieldType.int)).before args0 about1 = true := code_word (m := ⟨2, 3⟩) (meth := k2m3) (c := k2c3) (by decide +kernel) rfl rfl rfl (by decide +kernel)
set_option maxRecDepth 65536 in
theorem w_c6 : (Jvm.Cond.code ({ cls := "com/example/firstlight/firstlight/BitWriterPutPinLaw", name := "slot", desc := "(IIIIIIII)Z" } : Jvm.MethodName) method_3_code (10 : Nat) (Option.some Jvm.ClassFile.FieldType.boolean)).before args0 about1 = true := code_word (m := ⟨1, 2⟩) (meth := k1m2) (c := k1c2) (by decide +kernel) rfl rfl rfl (by decide +kernel)
def codes1 : List Jvm.Cond := [Jvm.Cond.code x code maxLocals ret, Jvm.Cond.code ({ cls := "com/example/firstlight/firstlight/BitWriter", name := "<init>", desc := "()V" } : Jvm.MethodName) prog_8_method_1_code (1 : Nat) (Option.none : Option Jvm.ClassFile.FieldType), Jvm.Cond.code ({ cls := "java/lang/Object", name := "<init>", desc := "()V" } : Jvm.MethodName) object_method_1_code (1 : Nat) (Option.none : Option Jvm.ClassFile.FieldType), Jvm.Cond.code ({ cls := "com/example/firstlight/firstlight/BitWriter", name := "start", desc := "([II)Lcom/example/firstlight/firstlight/BitWriter;" } : Jvm.MethodName) prog_8_method_2_code (3 : Nat) (Option.some (Jvm.ClassFile.FieldType.object "com/example/firstlight/firstlight/BitWriter")), Jvm.Cond.code ({ cls := "com/example/firstlight/firstlight/BitWriter", name := "put", desc := "(II)V" } : Jvm.MethodName) prog_8_method_3_code (3 : Nat) (Option.none : Option Jvm.ClassFile.FieldType), Jvm.Cond.code ({ cls := "com/example/firstlight/firstlight/BitWriter", name := "end", desc := "()I" } : Jvm.MethodName) prog_8_method_4_code (1 : Nat) (Option.some Jvm.ClassFile.FieldType.int), Jvm.Cond.code ({ cls := "com/example/firstlight/firstlight/BitWriterPutPinLaw", name := "slot", desc := "(IIIIIIII)Z" } : Jvm.MethodName) method_3_code (10 : Nat) (Option.some Jvm.ClassFile.FieldType.boolean)]
set_option maxRecDepth 65536 in
theorem codes_eq : words1.filter isCode = codes1 := rfl
theorem w_codes : ∀ c ∈ words1.filter isCode, c.before args0 about1 = true := by
  rw [codes_eq]
  intro c hc
  simp only [codes1, List.mem_cons, List.not_mem_nil, or_false] at hc
  rcases hc with rfl | rfl | rfl | rfl | rfl | rfl | rfl
  · exact w_c0
  · exact w_c1
  · exact w_c2
  · exact w_c3
  · exact w_c4
  · exact w_c5
  · exact w_c6
set_option maxRecDepth 65536 in
theorem w_t1 : (words1.take 24).all (fun c => isCode c || c.before args0 about1) = true := by decide +kernel
set_option maxRecDepth 65536 in
theorem w_t2 : (words1.drop 24).all (fun c => isCode c || c.before args0 about1) = true := by decide +kernel
theorem w_tables : (allAtoms (Jvm.Cond.code x code maxLocals ret :: tables_1)).before args0 about1 = true := by
  rw [allAtoms_all]
  show words1.all (fun c => c.before args0 about1) = true
  refine all_split ?_ w_codes
  rw [← List.take_append_drop 24 words1, List.all_append, w_t1, w_t2]
  rfl
set_option maxRecDepth 65536 in
theorem w_case : (Jvm.Cond.and given_1 narrow_1).before args0 about1 = true := by decide +kernel
theorem w_applies : (headSpec (Jvm.Cond.code x code maxLocals ret :: tables_1) room_1).applies x e0.platform about1 = true :=
  (Spec.applies_iff w_frames).mpr ⟨w_running, w_runnable, w_alone, w_named, w_hears, w_ripe, w_room, w_tables⟩
theorem atStart : AtStart classFile x code maxLocals ret World_1 tables_1 room_1 Calls_1 rest_1 Pre_1 launch0 p0 e0 about1 theMethod args0 below0 :=
  ⟨lists_1, trivial, launch0.admits_env _ _ _, launch0.least_env, fairChoices_fair.cas, fairChoices_fair.clock, w_frames, w_args, w_heap, w_applies, trivial, trivial, w_case⟩
end start1
theorem witness_1 : WitnessClaimed_1 := ⟨start1.p0, start1.e0, start1.about1, start1.theMethod, start1.args0, start1.below0, start1.atStart⟩
end Jvm.Pilot.@@N@@
