import JvmDerived
import JvmDerived.Pilot.@@N@@Statement
import JvmDerived.Pilot.@@N@@Code
set_option linter.unusedVariables false
set_option linter.unusedSimpArgs false
namespace Jvm.Pilot.@@N@@
open Jvm Jvm.ClassFile Sem Op Lib Jvm.Free Jvm.Stand Jvm.LawKit Jvm.RoadKit Bundle Jvm.Pilot.@@N@@.Jvm.D
section Own
variable {p : Program} {l : Launch} {e : Env} {R : Room} {s : State} {m : MethodId} {args : Array Value} {below : List Frame} {meth : Method} {c : Code} {T : State} {locs : List Loc} {cells slots : Nat} {Z : State} {h h' : Heap} {a b : Addr} {k k' : ClassId} {ty : FieldType} {n : Int32}
/-- from the state S the run ends, and G holds of the end -/
def own_Go (tb : Tables) (e : Env) (below : List Frame) (G : State → Outcome → Prop) (S : State) : Prop := ∃ s₂ o, Steps tb e below S s₂ ∧ s₂.status = .running ∧ Ended s₂ below o ∧ G s₂ o
theorem own_of {tb : Tables} {G : State → Outcome → Prop} {S S' : State} (f : ∀ t, Steps tb e below S' t → Steps tb e below S t) (g : own_Go tb e below G S') : own_Go tb e below G S := by
  obtain ⟨x, y, h1, h2⟩ := g
  exact ⟨x, y, f x h1, h2⟩
theorem own_out {tb : Tables} {Q : State → Outcome → Prop} {S : State} (f : ∀ G : State → Outcome → Prop, (∀ s₂ o, Q s₂ o → G s₂ o) → own_Go tb e below G S) : ∃ s₂ o, Steps tb e below S s₂ ∧ s₂.status = .running ∧ Ended s₂ below o ∧ Q s₂ o := f Q fun _ _ q => q
theorem own_retI (X : Stand p l e R s m args below meth c T locs cells slots) (hx : p.tables.exec = Jvm.exec) {pc : Nat} {Ls : Array Slot} {z : Int32} {rest : List Value} (hret : meth.sig.returnType = some .int) (hd : decode c.code pc = .ok (.ireturn, 1)) {fs : List Frame}
    (hl : ∀ (f : JFrame) (acts : List Action), f.method = m → f.locked = none → f.entered = [] → (doReturn e (T.setTop f) acts (some (.int z))).1 = T.setFrames fs) : Steps p.tables e below (T.setTop (mkF m pc Ls (.int z :: rest))) (T.setFrames fs) :=
  retOut X hx hret rfl (Or.inl ⟨rfl, Or.inl rfl, z, rfl⟩) hd hl
theorem own_retL (X : Stand p l e R s m args below meth c T locs cells slots) (hx : p.tables.exec = Jvm.exec) {pc : Nat} {Ls : Array Slot} {z : Int64} {rest : List Value} (hret : meth.sig.returnType = some .long) (hd : decode c.code pc = .ok (.lreturn, 1)) {fs : List Frame}
    (hl : ∀ (f : JFrame) (acts : List Action), f.method = m → f.locked = none → f.entered = [] → (doReturn e (T.setTop f) acts (some (.long z))).1 = T.setFrames fs) : Steps p.tables e below (T.setTop (mkF m pc Ls (.long z :: rest))) (T.setFrames fs) :=
  retOut X hx hret rfl (Or.inr (Or.inl ⟨rfl, rfl, z, rfl⟩)) hd hl
theorem own_retA (X : Stand p l e R s m args below meth c T locs cells slots) (hx : p.tables.exec = Jvm.exec) {pc : Nat} {Ls : Array Slot} {z : Addr} {C : String} {rest : List Value} (hret : meth.sig.returnType = some (.object C)) (hd : decode c.code pc = .ok (.areturn, 1)) {fs : List Frame}
    (hl : ∀ (f : JFrame) (acts : List Action), f.method = m → f.locked = none → f.entered = [] → (doReturn e (T.setTop f) acts (some (.ref z))).1 = T.setFrames fs) : Steps p.tables e below (T.setTop (mkF m pc Ls (.ref z :: rest))) (T.setFrames fs) :=
  retOut X hx hret rfl (Or.inr (Or.inr (Or.inr (Or.inr ⟨rfl, rfl, rfl⟩)))) hd hl
/-- an array of ints (or bytes) at a, whole: its class, element type, length and values -/
def own_AI (Z : State) (h : Heap) (a : Addr) (k : ClassId) (ty : FieldType) (n : Int32) (xs : List Int32) : Prop := Arv Z h a k ty n (xs.map Value.int) (.int 0) ∧ xs.length = n.toNatClampNeg
theorem own_AI.ext {xs : List Int32} (F : own_AI Z h a k ty n xs) (E : Ext h h') : own_AI Z h' a k ty n xs := ⟨F.1.ext E, F.2⟩
theorem own_AI.other {xs : List Int32} {sl : Nat} {v : Value} (F : own_AI Z h b k ty n xs) (W : Wr h h' a sl v) (q : b ≠ a) : own_AI Z h' b k ty n xs := ⟨F.1.other W q, F.2⟩
theorem own_AI.keep {xs : List Int32} {ws : List Addr} (F : own_AI Z h a k ty n xs) (K : Keep h h' ws) (q : a ∉ ws) : own_AI Z h' a k ty n xs := ⟨F.1.keep K q, F.2⟩
theorem own_AI.lt {xs : List Int32} (F : own_AI Z h a k ty n xs) : a < h.size := F.1.lt
def own_AJ (Z : State) (h : Heap) (a : Addr) (k : ClassId) (n : Int32) (xs : List Int64) : Prop := Arv Z h a k .long n (xs.map Value.long) (.long 0) ∧ xs.length = n.toNatClampNeg
theorem own_AJ.ext {xs : List Int64} (F : own_AJ Z h a k n xs) (E : Ext h h') : own_AJ Z h' a k n xs := ⟨F.1.ext E, F.2⟩
theorem own_AJ.other {xs : List Int64} {sl : Nat} {v : Value} (F : own_AJ Z h b k n xs) (W : Wr h h' a sl v) (q : b ≠ a) : own_AJ Z h' b k n xs := ⟨F.1.other W q, F.2⟩
theorem own_AJ.keep {xs : List Int64} {ws : List Addr} (F : own_AJ Z h a k n xs) (K : Keep h h' ws) (q : a ∉ ws) : own_AJ Z h' a k n xs := ⟨F.1.keep K q, F.2⟩
theorem own_AJ.lt {xs : List Int64} (F : own_AJ Z h a k n xs) : a < h.size := F.1.lt
theorem own_ltn {j n : Int32} (q : ¬ j < 0 ∧ j < n) : j.toNatClampNeg < n.toNatClampNeg := by
  obtain ⟨q1, q2⟩ := q
  rw [Int32.lt_iff_toInt_lt] at q1 q2
  have e0 : (0 : Int32).toInt = 0 := rfl
  simp only [Int32.toNatClampNeg]; omega
theorem own_newI (A : Arr Z h a (newA k ty n) ty) (q : ¬ n < 0) (cnt : Nat) (hc : n.toNatClampNeg = cnt) (hd : defaultValue ty = .int 0) : own_AI Z h a k ty n (List.replicate cnt 0) := by
  have F := Arv.new A q
  rw [hd] at F
  exact ⟨by rw [List.map_replicate]; exact F.pad (pad_rep [] (.int 0) cnt), by rw [List.length_replicate, hc]⟩
theorem own_newJ (A : Arr Z h a (newA k .long n) .long) (q : ¬ n < 0) (cnt : Nat) (hc : n.toNatClampNeg = cnt) : own_AJ Z h a k n (List.replicate cnt 0) := by
  have F := Arv.new A q
  exact ⟨by rw [List.map_replicate]; exact F.pad (pad_rep [] (.long 0) cnt), by rw [List.length_replicate, hc]⟩
theorem own_stI (X : Stand p l e R s m args below meth c T locs cells slots) (hx : p.tables.exec = Jvm.exec) (hZ : Z.Warmed39 s.vm) (eT : T.heap = h) {xs : List Int32} (F : own_AI Z h a k .int n xs) {j x : Int32} (q : ¬ j < 0 ∧ j < n) {g : JFrame} (hg : g.method = m) {rest : List Value} (hs : g.stack = .int x :: .int j :: .ref a :: rest) (hd : decode c.code g.pc = .ok (.iastore, 1)) :
    ∃ T' h', Stand p l e R s m args below meth c T' (locs ++ [⟨a, j.toNatClampNeg⟩]) cells slots ∧ T'.heap = h' ∧ Wr h h' a j.toNatClampNeg (.int x) ∧ own_AI Z h' a k .int n (xs.set j.toNatClampNeg x) ∧ ∀ target, Steps p.tables e below (T'.setTop { g with pc := g.pc + 1, stack := rest }) target → Steps p.tables e below (T.setTop g) target := by
  obtain ⟨⟨cl, A, q1, S, q3, H, G⟩, hl⟩ := F
  obtain ⟨T', h', X', e', W, st⟩ := stI X hx hZ eT A (inb_of S q) hg hs hd
  refine ⟨T', h', X', e', W, ⟨?_, by rw [List.length_set]; exact hl⟩, st⟩
  rw [List.map_set]
  exact Arv.set A q1 S q3 H G rfl W _ rfl (by rw [List.length_map, hl]; exact own_ltn q)
theorem own_stB (X : Stand p l e R s m args below meth c T locs cells slots) (hx : p.tables.exec = Jvm.exec) (hZ : Z.Warmed39 s.vm) (eT : T.heap = h) {xs : List Int32} (F : own_AI Z h a k .byte n xs) {j x : Int32} (q : ¬ j < 0 ∧ j < n) {g : JFrame} (hg : g.method = m) {rest : List Value} (hs : g.stack = .int x :: .int j :: .ref a :: rest) (hd : decode c.code g.pc = .ok (.bastore, 1)) :
    ∃ T' h', Stand p l e R s m args below meth c T' (locs ++ [⟨a, j.toNatClampNeg⟩]) cells slots ∧ T'.heap = h' ∧ Wr h h' a j.toNatClampNeg (.int x.toInt8.toInt32) ∧ own_AI Z h' a k .byte n (xs.set j.toNatClampNeg x.toInt8.toInt32) ∧ ∀ target, Steps p.tables e below (T'.setTop { g with pc := g.pc + 1, stack := rest }) target → Steps p.tables e below (T.setTop g) target := by
  obtain ⟨⟨cl, A, q1, S, q3, H, G⟩, hl⟩ := F
  obtain ⟨T', h', X', e', W, st⟩ := stB X hx hZ eT A (inb_of S q) hg hs hd
  refine ⟨T', h', X', e', W, ⟨?_, by rw [List.length_set]; exact hl⟩, st⟩
  rw [List.map_set]
  exact Arv.set A q1 S q3 H G (fits_nar_byte _) W _ rfl (by rw [List.length_map, hl]; exact own_ltn q)
theorem own_stJ (X : Stand p l e R s m args below meth c T locs cells slots) (hx : p.tables.exec = Jvm.exec) (hZ : Z.Warmed39 s.vm) (eT : T.heap = h) {xs : List Int64} (F : own_AJ Z h a k n xs) {j : Int32} {x : Int64} (q : ¬ j < 0 ∧ j < n) {g : JFrame} (hg : g.method = m) {rest : List Value} (hs : g.stack = .long x :: .int j :: .ref a :: rest) (hd : decode c.code g.pc = .ok (.lastore, 1)) :
    ∃ T' h', Stand p l e R s m args below meth c T' (locs ++ [⟨a, j.toNatClampNeg⟩]) cells slots ∧ T'.heap = h' ∧ Wr h h' a j.toNatClampNeg (.long x) ∧ own_AJ Z h' a k n (xs.set j.toNatClampNeg x) ∧ ∀ target, Steps p.tables e below (T'.setTop { g with pc := g.pc + 1, stack := rest }) target → Steps p.tables e below (T.setTop g) target := by
  obtain ⟨⟨cl, A, q1, S, q3, H, G⟩, hl⟩ := F
  obtain ⟨T', h', X', e', W, st⟩ := stJ X hx hZ eT A (inb_of S q) hg hs hd
  refine ⟨T', h', X', e', W, ⟨?_, by rw [List.length_set]; exact hl⟩, st⟩
  rw [List.map_set]
  exact Arv.set A q1 S q3 H G rfl W _ rfl (by rw [List.length_map, hl]; exact own_ltn q)
theorem own_getI (xs : List Int32) (i : Nat) : (xs.map Value.int).getD i (.int 0) = .int (xs.getD i 0) := by
  simp only [List.getD_eq_getElem?_getD, List.getElem?_map]
  cases xs[i]? <;> rfl
theorem own_getJ (xs : List Int64) (i : Nat) : (xs.map Value.long).getD i (.long 0) = .long (xs.getD i 0) := by
  simp only [List.getD_eq_getElem?_getD, List.getElem?_map]
  cases xs[i]? <;> rfl
theorem own_ldI (X : Stand p l e R s m args below meth c T locs cells slots) (hx : p.tables.exec = Jvm.exec) (hZ : Z.Warmed39 s.vm) (eT : T.heap = h) {xs : List Int32} (F : own_AI Z h a k .int n xs) {j : Int32} (q : ¬ j < 0 ∧ j < n) {g : JFrame} (hg : g.method = m) {rest : List Value} (hs : g.stack = .int j :: .ref a :: rest) (hd : decode c.code g.pc = .ok (.iaload, 1)) :
    ∀ target, Steps p.tables e below (T.setTop { g with pc := g.pc + 1, stack := .int (xs.getD j.toNatClampNeg 0) :: rest }) target → Steps p.tables e below (T.setTop g) target := by
  obtain ⟨⟨cl, A, q1, S, q3, H, G⟩, hl⟩ := F
  intro target hr
  exact X.iaload hx (by rw [eT]; exact A.1) (State.isArrayOf_alike hZ.alike A.2.1) A.2.2 (inb_of S q) (H.at (inb_of S q) (own_getI xs _)) hg hs hd target hr
theorem own_ldB (X : Stand p l e R s m args below meth c T locs cells slots) (hx : p.tables.exec = Jvm.exec) (hZ : Z.Warmed39 s.vm) (eT : T.heap = h) {xs : List Int32} (F : own_AI Z h a k .byte n xs) {j : Int32} (q : ¬ j < 0 ∧ j < n) {g : JFrame} (hg : g.method = m) {rest : List Value} (hs : g.stack = .int j :: .ref a :: rest) (hd : decode c.code g.pc = .ok (.baload, 1)) :
    ∀ target, Steps p.tables e below (T.setTop { g with pc := g.pc + 1, stack := .int (xs.getD j.toNatClampNeg 0) :: rest }) target → Steps p.tables e below (T.setTop g) target := by
  obtain ⟨⟨cl, A, q1, S, q3, H, G⟩, hl⟩ := F
  intro target hr
  exact X.baloadBytes hx (by rw [eT]; exact A.1) (State.isArrayOf_alike hZ.alike A.2.1) A.2.2 (inb_of S q) (H.at (inb_of S q) (own_getI xs _)) hg hs hd target hr
theorem own_ldJ (X : Stand p l e R s m args below meth c T locs cells slots) (hx : p.tables.exec = Jvm.exec) (hZ : Z.Warmed39 s.vm) (eT : T.heap = h) {xs : List Int64} (F : own_AJ Z h a k n xs) {j : Int32} (q : ¬ j < 0 ∧ j < n) {g : JFrame} (hg : g.method = m) {rest : List Value} (hs : g.stack = .int j :: .ref a :: rest) (hd : decode c.code g.pc = .ok (.laload, 1)) :
    ∀ target, Steps p.tables e below (T.setTop { g with pc := g.pc + 1, stack := .long (xs.getD j.toNatClampNeg 0) :: rest }) target → Steps p.tables e below (T.setTop g) target := by
  obtain ⟨⟨cl, A, q1, S, q3, H, G⟩, hl⟩ := F
  intro target hr
  exact X.laload hx (by rw [eT]; exact A.1) (State.isArrayOf_alike hZ.alike A.2.1) A.2.2 (inb_of S q) (H.at (inb_of S q) (own_getJ xs _)) hg hs hd target hr
theorem own_lenJ (X : Stand p l e R s m args below meth c T locs cells slots) (hx : p.tables.exec = Jvm.exec) (hZ : Z.Warmed39 s.vm) (eT : T.heap = h) {xs : List Int64} (F : own_AJ Z h a k n xs) {g : JFrame} (hg : g.method = m) {rest : List Value} (hs : g.stack = .ref a :: rest) (hd : decode c.code g.pc = .ok (.arraylength, 1)) :
    ∀ target, Steps p.tables e below (T.setTop { g with pc := g.pc + 1, stack := .int n :: rest }) target → Steps p.tables e below (T.setTop g) target := by
  obtain ⟨⟨cl, A, q1, S, q3, H, G⟩, hl⟩ := F
  intro target hr
  refine X.arraylength hx (by rw [eT]; exact A.1) (State.isArrayOf_alike hZ.alike A.2.1) hg hs hd target ?_
  rw [len_of S q3]; exact hr
theorem own_rng {α : Type} (d : α) (xs : List α) (n : Nat) (hn : xs.length = n) : (List.range n).map (fun i => xs.getD (0 + i) d) = xs := by
  subst hn
  apply List.ext_getElem?
  intro i
  simp only [List.getElem?_map, List.getD_eq_getElem?_getD, Nat.zero_add]
  by_cases q : i < xs.length
  · simp [List.getElem?_range q, List.getElem?_eq_getElem q]
  · have q' : xs.length ≤ i := Nat.le_of_not_lt q
    rw [List.getElem?_eq_none (by simpa using q'), List.getElem?_eq_none q']; rfl
theorem own_cpJ (X : Stand p l e R s m args below meth c T locs cells slots) (hx : p.tables.exec = Jvm.exec) (hZ : Z.Warmed39 s.vm) {a0 : Array Value} {own : String} {index : Nat} (hown : s.vm.findClass own = some m.cls)
    (w1 : (Cond.methodLink own index Jvm.Stand.acN).before a0 Z = true) (w2 : (Cond.native Jvm.Stand.acN).before a0 Z = true) (w3 : (Cond.static Jvm.Stand.acN).before a0 Z = true) (w4 : (Cond.initialized "java/lang/System").before a0 Z = true) (eT : T.heap = h)
    {xs ys : List Int64} (A : own_AJ Z h a k n xs) (B : own_AJ Z h b k' n ys) (h3 : ¬ n < 0) (h4 : (0 : Int32).toNatClampNeg = 0) {n0 : Nat} (N : Fr n0 locs) (ge : n0 ≤ b)
    {g : JFrame} (hg : g.method = m) (hsize : g.locals.size = c.maxLocals) {rest : List Value} (hs : g.stack = .int n :: .int 0 :: .ref b :: .int 0 :: .ref a :: rest) (hd : decode c.code g.pc = .ok (.invokestatic index, 3))
    (hf : 1 ≤ R.frames) {W : Nat} (hW : 2 * g.monitorRoom + (rest.map fun v => v.category).sum ≤ W) (hlo : W + (nativeFrameWords "java/lang/System" "arraycopy" 5 + 11) ≤ R.locals) :
    ∃ T' h' L, Stand p l e R s m args below meth c T' L cells slots ∧ T'.heap = h' ∧ Fr n0 L ∧ Keep h h' [b] ∧ own_AJ Z h' b k' n xs ∧
      ∀ target, Steps p.tables e below (T'.setTop { g with pc := g.pc + 3, stack := rest }) target → Steps p.tables e below (T.setTop g) target := by
  obtain ⟨A, la⟩ := A
  obtain ⟨B, lb⟩ := B
  obtain ⟨T', h', L, X', e', N', K', V', st⟩ := cpA X hx hZ hown w1 w2 w3 w4 eT A B (Or.inl ⟨rfl, rfl⟩) (sp := 0) (dp := 0) (nn := n) (by decide) (by decide) h3 (by rw [h4]; omega) (by rw [h4]; omega) rfl (by rw [h4, List.length_map, lb]; omega) N ge hg hsize hs hd hf hW hlo
  refine ⟨T', h', L, X', e', N', K', ⟨?_, la⟩, st⟩
  rw [h4] at V'
  rw [own_rng (.long 0) (xs.map Value.long) _ (by rw [List.length_map, la])] at V'
  have q : List.drop (0 + n.toNatClampNeg) (ys.map Value.long) = [] := by rw [List.drop_eq_nil_iff, List.length_map, lb]; omega
  rw [q] at V'
  simpa using V'
end Own

def own_sig (u v : Int64) : Int32 := if u < 0 then -1 else if u = 0 then (if v = 0 then 0 else 1) else 1
theorem own_p1 (u v : Int64) : own_sig u v = (if (0 : Int64) < u then (1 : Int32) else (if u < (0 : Int64) then (-1 : Int32) else (if v = (0 : Int64) then (0 : Int32) else (1 : Int32)))) := by
  unfold own_sig
  have e0 : (0 : Int64).toInt = 0 := rfl
  by_cases h1 : u < 0
  · have h2 : ¬ (0 : Int64) < u := by rw [Int64.lt_iff_toInt_lt] at *; omega
    simp [h1, h2]
  · by_cases h3 : u = 0
    · subst h3; simp
    · have h2 : (0 : Int64) < u := by
        rw [Int64.lt_iff_toInt_lt] at *
        have h4 : u.toInt ≠ 0 := fun q => h3 (Int64.toInt_inj.mp (by rw [q]; rfl))
        omega
      simp [h1, h2, h3]
theorem own_p2 (w : Int64) : own_sig (w >>> ((63 : Int32) &&& 0x3f).toInt64) w = (if w < (0 : Int64) then (-1 : Int32) else (if w = (0 : Int64) then (0 : Int32) else (1 : Int32))) := by
  have e := c_lshr w 63 63 (by decide)
  have r := rng64 w
  have e0 : (0 : Int64).toInt = 0 := rfl
  generalize (w >>> ((63 : Int32) &&& 0x3f).toInt64) = u at e
  have e2 : ((2 ^ 63 : Nat) : Int) = 9223372036854775808 := rfl
  rw [e2] at e
  unfold own_sig
  by_cases h1 : w < 0
  · have h2 : u < 0 := by rw [Int64.lt_iff_toInt_lt] at *; omega
    simp [h1, h2]
  · have h2 : u = 0 := Int64.toInt_inj.mp (by rw [Int64.lt_iff_toInt_lt] at h1; omega)
    subst h2
    simp [h1]
theorem own_pd0 : parseMethodDescriptor "()V" = some ⟨[], none⟩ := by decide +kernel
theorem own_pd1 : parseMethodDescriptor "(JJ)Lcom/example/crisp_window/crispwindow/window/Int128;" = some ⟨[.long, .long], some (.object "com/example/crisp_window/crispwindow/window/Int128")⟩ := by decide +kernel
theorem own_pd2 : parseMethodDescriptor "()I" = some ⟨[], some .int⟩ := by decide +kernel
theorem own_pd3 : parseMethodDescriptor "()J" = some ⟨[], some .long⟩ := by decide +kernel
theorem own_d1_0 : decode prog_91_method_1_code 0 = .ok (.aload_n 0, 1) := by decide +kernel
theorem own_d1_1 : decode prog_91_method_1_code 1 = .ok (.invokespecial 1, 3) := by decide +kernel
theorem own_d1_4 : decode prog_91_method_1_code 4 = .ok (.return_, 1) := by decide +kernel
abbrev own_room1 : Room := { frames := 1, cells := 0, slots := 0, locals := 12 }
theorem own_pn1 : plainName "com/example/crisp_window/crispwindow/window/Int128" = true := by first | (simp [plainName, overriddenIn]; done) | decide +kernel
theorem own_ef1 (m : MethodId) (a0 : Addr) : entryFrame m #[(.ref a0)] 1 = mkF m 0 #[.val (.ref a0)] [] := by first | (simp [entryFrame, mkF, argsToLocals, Value.category]; done) | rfl
def own_Q1 (Z : State) (a0 : Addr) (h0 : Heap) (n0 : Nat) (v : Option Value) (h : Heap) (L : List Loc) : Prop := v = none ∧ Fr n0 L ∧ h = h0
set_option maxRecDepth 65536 in
set_option maxHeartbeats 40000000 in
theorem own_rm1 (l : Launch) (Z : State) (a0 : Array Value) (hw : ∀ d ∈ tables_1, d.before a0 Z = true) (ws : List Jvm.Cond) (a0 : Addr) (h0 : Heap) (n0 : Nat)  :
    MetFree l (⟨"com/example/crisp_window/crispwindow/window/Int128", "<init>", "()V"⟩ : MethodName) (head1 (Jvm.Cond.code (⟨"com/example/crisp_window/crispwindow/window/Int128", "<init>", "()V"⟩ : MethodName) prog_91_method_1_code 1 none :: ws) (own_room1 : Room)) (fun a U => a = #[(.ref a0)] ∧ Z.Warmed39 U.vm ∧ U.heap = h0) (fun _ _ _ _ _ => True) (fun _ U o U' => ∃ v L, o = .returned v ∧ own_Q1 Z a0 h0 n0 v U'.heap L ∧ FrameEnd U o U' L (own_room1 : Room).cells (own_room1 : Room).slots) := by
  refine MetFree.of_bodySF (plainFor_of_name own_pn1) hisR ?_
  intro p e s m args below meth c s₁ Bd hml0 hP hK
  obtain ⟨rfl, hZ, hh⟩ := hP
  have hx := Bd.exec
  have hby := Bd.bytes
  have hml : c.maxLocals = 1 := hml0
  have hown : s.vm.findClass "com/example/crisp_window/crispwindow/window/Int128" = some m.cls := findClass_of_methodNamed Bd.named
  have hnm := (name_of_methodNamed Bd.named Bd.method).1
  have X0 : Stand p l e (own_room1 : Room) s m #[(.ref a0)] below meth c s₁ [] 0 0 := Stand.of_body Bd
  have e0 : s₁.heap = h0 := by rw [← hh, Bd.state]; rfl
  have N0 := Fr.nil n0
  refine own_out fun G hG => ?_
  rw [own_ef1 m a0]
  show own_Go p.tables e below G (s₁.setTop (mkF m 0 #[.val (.ref a0)] []))
  refine own_of (S' := s₁.setTop (mkF m 1 #[.val (.ref a0)] [(.ref a0)])) (fun t k => XS.aloadN X0.here hx rfl (hb hby own_d1_0) rfl rfl k) ?_
  obtain ⟨T1, X1, e1, st1⟩ := initO X0 hx hZ hown (hw _ (List.mem_of_getElem? (i := 6) rfl)) (hw _ (List.mem_of_getElem? (i := 7) rfl)) (hw _ (List.mem_of_getElem? (i := 8) rfl)) e0 (g := (mkF m 1 #[.val (.ref a0)] [(.ref a0)])) rfl (by rw [hml]; rfl) rfl (hb hby own_d1_1) (by decide) (W := 0) (by show 2 * 0 + _ ≤ _; exact Nat.le_of_eq rfl) (by decide)
  refine own_of (S' := T1.setTop (mkF m 4 #[.val (.ref a0)] [])) st1 ?_
  obtain ⟨fs, hr, hrun, hended, hW, hsame⟩ := X1.leave (v := none) (fun _ => rfl)
  refine ⟨_, _, X1.returnOut hx Bd.returns (hb hby own_d1_4) hr, hrun, hended, hG _ _ ⟨_, _, rfl, ?_, ⟨_, rfl⟩, hW, hsame.mono (by decide) (by decide)⟩⟩
  show own_Q1 Z a0 h0 n0 _ T1.heap _
  rw [e1]
  exact ⟨rfl, N0, rfl⟩
theorem own_d2_0 : decode prog_91_method_2_code 0 = .ok (.aload_n 0, 1) := by decide +kernel
theorem own_d2_1 : decode prog_91_method_2_code 1 = .ok (.lload_n 1, 1) := by decide +kernel
theorem own_d2_2 : decode prog_91_method_2_code 2 = .ok (.putfield 7, 3) := by decide +kernel
theorem own_d2_5 : decode prog_91_method_2_code 5 = .ok (.aload_n 0, 1) := by decide +kernel
theorem own_d2_6 : decode prog_91_method_2_code 6 = .ok (.lload_n 3, 1) := by decide +kernel
theorem own_d2_7 : decode prog_91_method_2_code 7 = .ok (.putfield 13, 3) := by decide +kernel
theorem own_d2_10 : decode prog_91_method_2_code 10 = .ok (.aload_n 0, 1) := by decide +kernel
theorem own_d2_11 : decode prog_91_method_2_code 11 = .ok (.areturn, 1) := by decide +kernel
abbrev own_room2 : Room := { frames := 0, cells := 0, slots := 0, locals := 0 }
theorem own_pn2 : plainName "com/example/crisp_window/crispwindow/window/Int128" = true := by first | (simp [plainName, overriddenIn]; done) | decide +kernel
theorem own_ef2 (m : MethodId) (a0 : Addr) (hi : Int64) (lo : Int64) : entryFrame m #[(.ref a0), (.long hi), (.long lo)] 5 = mkF m 0 #[.val (.ref a0), .val (.long hi), .second, .val (.long lo), .second] [] := by first | (simp [entryFrame, mkF, argsToLocals, Value.category]; done) | rfl
def own_Q2 (Z : State) (a0 : Addr) (hi : Int64) (lo : Int64) (u1 : Int64) (u2 : Int64) (h0 : Heap) (n0 : Nat) (v : Option Value) (h : Heap) (L : List Loc) : Prop := v = some (.ref a0) ∧ Fr n0 L ∧ Keep h0 h [a0] ∧ Exa Z h a0 "com/example/crisp_window/crispwindow/window/Int128" ∧ Fld Z h a0 "com/example/crisp_window/crispwindow/window/Int128" "high" "J" (.long hi) ∧ Fld Z h a0 "com/example/crisp_window/crispwindow/window/Int128" "low" "J" (.long lo)
set_option maxRecDepth 65536 in
set_option maxHeartbeats 40000000 in
theorem own_rm2 (l : Launch) (Z : State) (a0 : Array Value) (hw : ∀ d ∈ tables_1, d.before a0 Z = true) (ws : List Jvm.Cond) (a0 : Addr) (hi : Int64) (lo : Int64) (u1 : Int64) (u2 : Int64) (h0 : Heap) (n0 : Nat) (F0 : Exa Z h0 a0 "com/example/crisp_window/crispwindow/window/Int128") (F1 : Fld Z h0 a0 "com/example/crisp_window/crispwindow/window/Int128" "high" "J" (.long u1)) (F2 : Fld Z h0 a0 "com/example/crisp_window/crispwindow/window/Int128" "low" "J" (.long u2)) (g_a0 : n0 ≤ a0) :
    MetFree l (⟨"com/example/crisp_window/crispwindow/window/Int128", "set", "(JJ)Lcom/example/crisp_window/crispwindow/window/Int128;"⟩ : MethodName) (head1 (Jvm.Cond.code (⟨"com/example/crisp_window/crispwindow/window/Int128", "set", "(JJ)Lcom/example/crisp_window/crispwindow/window/Int128;"⟩ : MethodName) prog_91_method_2_code 5 (some (.object "com/example/crisp_window/crispwindow/window/Int128")) :: ws) (own_room2 : Room)) (fun a U => a = #[(.ref a0), (.long hi), (.long lo)] ∧ Z.Warmed39 U.vm ∧ U.heap = h0) (fun _ _ _ _ _ => True) (fun _ U o U' => ∃ v L, o = .returned v ∧ own_Q2 Z a0 hi lo u1 u2 h0 n0 v U'.heap L ∧ FrameEnd U o U' L (own_room2 : Room).cells (own_room2 : Room).slots) := by
  refine MetFree.of_bodySF (plainFor_of_name own_pn2) hisR ?_
  intro p e s m args below meth c s₁ Bd hml0 hP hK
  obtain ⟨rfl, hZ, hh⟩ := hP
  have hx := Bd.exec
  have hby := Bd.bytes
  have hml : c.maxLocals = 5 := hml0
  have hown : s.vm.findClass "com/example/crisp_window/crispwindow/window/Int128" = some m.cls := findClass_of_methodNamed Bd.named
  have hnm := (name_of_methodNamed Bd.named Bd.method).1
  have X0 : Stand p l e (own_room2 : Room) s m #[(.ref a0), (.long hi), (.long lo)] below meth c s₁ [] 0 0 := Stand.of_body Bd
  have e0 : s₁.heap = h0 := by rw [← hh, Bd.state]; rfl
  have N0 := Fr.nil n0
  have K0 := Keep.refl h0 [a0]
  refine own_out fun G hG => ?_
  rw [own_ef2 m a0 hi lo]
  show own_Go p.tables e below G (s₁.setTop (mkF m 0 #[.val (.ref a0), .val (.long hi), .second, .val (.long lo), .second] []))
  refine own_of (S' := s₁.setTop (mkF m 1 #[.val (.ref a0), .val (.long hi), .second, .val (.long lo), .second] [(.ref a0)])) (fun t k => XS.aloadN X0.here hx rfl (hb hby own_d2_0) rfl rfl k) ?_
  refine own_of (S' := s₁.setTop (mkF m 2 #[.val (.ref a0), .val (.long hi), .second, .val (.long lo), .second] [(.long hi), (.ref a0)])) (fun t k => XS.lloadN X0.here hx rfl (hb hby own_d2_1) rfl k) ?_
  obtain ⟨T2, h2, X2, e2, W2, st2⟩ := putF X0 hx hZ hown (host := "") (Or.inl (hw _ (List.mem_of_getElem? (i := 14) rfl))) Via.refl e0 F1 F0 (Or.inl (hw _ (List.mem_of_getElem? (i := 15) rfl))) (hw _ (List.mem_of_getElem? (i := 1) rfl)) (ty := .long) (by decide) rfl rfl (g := (mkF m 2 #[.val (.ref a0), .val (.long hi), .second, .val (.long lo), .second] [(.long hi), (.ref a0)])) rfl rfl (hb hby own_d2_2)
  have f3 : Fld Z h2 a0 "com/example/crisp_window/crispwindow/window/Int128" "high" "J" (.long hi) := F1.same W2
  have f4 : Exa Z h2 a0 "com/example/crisp_window/crispwindow/window/Int128" := (F0.wr W2)
  have f5 : Fld Z h2 a0 "com/example/crisp_window/crispwindow/window/Int128" "low" "J" (.long u2) := (F2.other W2 (Or.inr (slot_ne (Or.inl (hw _ (List.mem_of_getElem? (i := 17) rfl))) (Or.inl (hw _ (List.mem_of_getElem? (i := 15) rfl))) (by decide) (t := .long) (t' := .long) (by decide) (by decide))))
  have N2 := Fr.snoc X2 N0 g_a0
  have kk6 : Keep h0 h2 [a0] := K0.wr W2 (Or.inl (List.mem_of_getElem? (i := 0) rfl))
  refine own_of (S' := T2.setTop (mkF m 5 #[.val (.ref a0), .val (.long hi), .second, .val (.long lo), .second] [])) st2 ?_
  refine own_of (S' := T2.setTop (mkF m 6 #[.val (.ref a0), .val (.long hi), .second, .val (.long lo), .second] [(.ref a0)])) (fun t k => XS.aloadN X2.here hx rfl (hb hby own_d2_5) rfl rfl k) ?_
  refine own_of (S' := T2.setTop (mkF m 7 #[.val (.ref a0), .val (.long hi), .second, .val (.long lo), .second] [(.long lo), (.ref a0)])) (fun t k => XS.lloadN X2.here hx rfl (hb hby own_d2_6) rfl k) ?_
  obtain ⟨T7, h7, X7, e7, W7, st7⟩ := putF X2 hx hZ hown (host := "") (Or.inl (hw _ (List.mem_of_getElem? (i := 16) rfl))) Via.refl e2 f5 f4 (Or.inl (hw _ (List.mem_of_getElem? (i := 17) rfl))) (hw _ (List.mem_of_getElem? (i := 1) rfl)) (ty := .long) (by decide) rfl rfl (g := (mkF m 7 #[.val (.ref a0), .val (.long hi), .second, .val (.long lo), .second] [(.long lo), (.ref a0)])) rfl rfl (hb hby own_d2_7)
  have f8 : Fld Z h7 a0 "com/example/crisp_window/crispwindow/window/Int128" "low" "J" (.long lo) := f5.same W7
  have f9 : Exa Z h7 a0 "com/example/crisp_window/crispwindow/window/Int128" := (f4.wr W7)
  have f10 : Fld Z h7 a0 "com/example/crisp_window/crispwindow/window/Int128" "high" "J" (.long hi) := (f3.other W7 (Or.inr (slot_ne (Or.inl (hw _ (List.mem_of_getElem? (i := 15) rfl))) (Or.inl (hw _ (List.mem_of_getElem? (i := 17) rfl))) (by decide) (t := .long) (t' := .long) (by decide) (by decide))))
  have N7 := Fr.snoc X7 N2 g_a0
  have kk11 : Keep h0 h7 [a0] := kk6.wr W7 (Or.inl (List.mem_of_getElem? (i := 0) rfl))
  refine own_of (S' := T7.setTop (mkF m 10 #[.val (.ref a0), .val (.long hi), .second, .val (.long lo), .second] [])) st7 ?_
  refine own_of (S' := T7.setTop (mkF m 11 #[.val (.ref a0), .val (.long hi), .second, .val (.long lo), .second] [(.ref a0)])) (fun t k => XS.aloadN X7.here hx rfl (hb hby own_d2_10) rfl rfl k) ?_
  obtain ⟨fs, hr, hrun, hended, hW, hsame⟩ := X7.leave (v := some (.ref a0)) (fun h => by rw [Bd.returns] at h; cases h)
  refine ⟨_, _, own_retA X7 hx Bd.returns (hb hby own_d2_11) hr, hrun, hended, hG _ _ ⟨_, _, rfl, ?_, ⟨_, rfl⟩, hW, hsame.mono (by decide) (by decide)⟩⟩
  show own_Q2 Z a0 hi lo u1 u2 h0 n0 _ T7.heap _
  rw [e7]
  exact ⟨rfl, N7, kk11, f9, f10, f8⟩
theorem own_d3_0 : decode prog_91_method_9_code 0 = .ok (.aload_n 0, 1) := by decide +kernel
theorem own_d3_1 : decode prog_91_method_9_code 1 = .ok (.getfield 7, 3) := by decide +kernel
theorem own_d3_4 : decode prog_91_method_9_code 4 = .ok (.lconst 0, 1) := by decide +kernel
theorem own_d3_5 : decode prog_91_method_9_code 5 = .ok (.lcmp, 1) := by decide +kernel
theorem own_d3_6 : decode prog_91_method_9_code 6 = .ok (.ifCond .ge 7, 3) := by decide +kernel
theorem own_d3_9 : decode prog_91_method_9_code 9 = .ok (.iconst (-1), 1) := by decide +kernel
theorem own_d3_10 : decode prog_91_method_9_code 10 = .ok (.goto 26, 3) := by decide +kernel
theorem own_d3_13 : decode prog_91_method_9_code 13 = .ok (.aload_n 0, 1) := by decide +kernel
theorem own_d3_14 : decode prog_91_method_9_code 14 = .ok (.getfield 7, 3) := by decide +kernel
theorem own_d3_17 : decode prog_91_method_9_code 17 = .ok (.lconst 0, 1) := by decide +kernel
theorem own_d3_18 : decode prog_91_method_9_code 18 = .ok (.lcmp, 1) := by decide +kernel
theorem own_d3_19 : decode prog_91_method_9_code 19 = .ok (.ifCond .ne 16, 3) := by decide +kernel
theorem own_d3_22 : decode prog_91_method_9_code 22 = .ok (.aload_n 0, 1) := by decide +kernel
theorem own_d3_23 : decode prog_91_method_9_code 23 = .ok (.getfield 13, 3) := by decide +kernel
theorem own_d3_26 : decode prog_91_method_9_code 26 = .ok (.lconst 0, 1) := by decide +kernel
theorem own_d3_27 : decode prog_91_method_9_code 27 = .ok (.lcmp, 1) := by decide +kernel
theorem own_d3_28 : decode prog_91_method_9_code 28 = .ok (.ifCond .ne 7, 3) := by decide +kernel
theorem own_d3_31 : decode prog_91_method_9_code 31 = .ok (.iconst 0, 1) := by decide +kernel
theorem own_d3_32 : decode prog_91_method_9_code 32 = .ok (.goto 4, 3) := by decide +kernel
theorem own_d3_35 : decode prog_91_method_9_code 35 = .ok (.iconst 1, 1) := by decide +kernel
theorem own_d3_36 : decode prog_91_method_9_code 36 = .ok (.ireturn, 1) := by decide +kernel
abbrev own_room3 : Room := { frames := 0, cells := 0, slots := 0, locals := 0 }
theorem own_pn3 : plainName "com/example/crisp_window/crispwindow/window/Int128" = true := by first | (simp [plainName, overriddenIn]; done) | decide +kernel
theorem own_ef3 (m : MethodId) (a0 : Addr) : entryFrame m #[(.ref a0)] 1 = mkF m 0 #[.val (.ref a0)] [] := by first | (simp [entryFrame, mkF, argsToLocals, Value.category]; done) | rfl
def own_Q3 (Z : State) (a0 : Addr) (u1 : Int64) (u2 : Int64) (h0 : Heap) (n0 : Nat) (v : Option Value) (h : Heap) (L : List Loc) : Prop := v = some (.int (own_sig u1 u2)) ∧ Fr n0 L ∧ h = h0
set_option maxRecDepth 65536 in
set_option maxHeartbeats 40000000 in
theorem own_rm3 (l : Launch) (Z : State) (a0 : Array Value) (hw : ∀ d ∈ tables_1, d.before a0 Z = true) (ws : List Jvm.Cond) (a0 : Addr) (u1 : Int64) (u2 : Int64) (h0 : Heap) (n0 : Nat) (F0 : Fld Z h0 a0 "com/example/crisp_window/crispwindow/window/Int128" "high" "J" (.long u1)) (F1 : Fld Z h0 a0 "com/example/crisp_window/crispwindow/window/Int128" "low" "J" (.long u2)) :
    MetFree l (⟨"com/example/crisp_window/crispwindow/window/Int128", "signum", "()I"⟩ : MethodName) (head1 (Jvm.Cond.code (⟨"com/example/crisp_window/crispwindow/window/Int128", "signum", "()I"⟩ : MethodName) prog_91_method_9_code 1 (some .int) :: ws) (own_room3 : Room)) (fun a U => a = #[(.ref a0)] ∧ Z.Warmed39 U.vm ∧ U.heap = h0) (fun _ _ _ _ _ => True) (fun _ U o U' => ∃ v L, o = .returned v ∧ own_Q3 Z a0 u1 u2 h0 n0 v U'.heap L ∧ FrameEnd U o U' L (own_room3 : Room).cells (own_room3 : Room).slots) := by
  refine MetFree.of_bodySF (plainFor_of_name own_pn3) hisR ?_
  intro p e s m args below meth c s₁ Bd hml0 hP hK
  obtain ⟨rfl, hZ, hh⟩ := hP
  have hx := Bd.exec
  have hby := Bd.bytes
  have hml : c.maxLocals = 1 := hml0
  have hown : s.vm.findClass "com/example/crisp_window/crispwindow/window/Int128" = some m.cls := findClass_of_methodNamed Bd.named
  have hnm := (name_of_methodNamed Bd.named Bd.method).1
  have X0 : Stand p l e (own_room3 : Room) s m #[(.ref a0)] below meth c s₁ [] 0 0 := Stand.of_body Bd
  have e0 : s₁.heap = h0 := by rw [← hh, Bd.state]; rfl
  have N0 := Fr.nil n0
  refine own_out fun G hG => ?_
  rw [own_ef3 m a0]
  show own_Go p.tables e below G (s₁.setTop (mkF m 0 #[.val (.ref a0)] []))
  refine own_of (S' := s₁.setTop (mkF m 1 #[.val (.ref a0)] [(.ref a0)])) (fun t k => XS.aloadN X0.here hx rfl (hb hby own_d3_0) rfl rfl k) ?_
  obtain ⟨T12, X12, e12, st12⟩ := getF X0 hx hZ hown (host := "") (Or.inl (hw _ (List.mem_of_getElem? (i := 14) rfl))) Via.refl e0 F0 (g := (mkF m 1 #[.val (.ref a0)] [(.ref a0)])) rfl rfl (hb hby own_d3_1)
  refine own_of (S' := T12.setTop (mkF m 4 #[.val (.ref a0)] [(.long u1)])) st12 ?_
  refine own_of (S' := T12.setTop (mkF m 5 #[.val (.ref a0)] [(.long (0 : Int64)), (.long u1)])) (fun t k => XS.lconst X12.here hx rfl (hb hby own_d3_4) k) ?_
  refine own_of (S' := T12.setTop (mkF m 6 #[.val (.ref a0)] [(.int (lcmpW u1 (0 : Int64)))])) (fun t k => XS.lcmp X12.here hx rfl (hb hby own_d3_5) rfl k) ?_
  by_cases hc6 : u1 < (0 : Int64)
  · refine own_of (S' := T12.setTop (mkF m 9 #[.val (.ref a0)] [])) (fun t k => XS.ifNo X12.here hx rfl (hb hby own_d3_6) rfl ((if0 _ _).trans (tlt ((lw_lt u1 (0 : Int64)).mpr hc6)).2.1) k) ?_
    refine own_of (S' := T12.setTop (mkF m 10 #[.val (.ref a0)] [(.int (-1 : Int32))])) (fun t k => XS.iconst X12.here hx rfl (hb hby own_d3_9) k) ?_
    refine own_of (S' := T12.setTop (mkF m 36 #[.val (.ref a0)] [(.int (-1 : Int32))])) (fun t k => XS.goto X12.here hx rfl (pc0 := 10) (pc' := 36) rfl (hb hby own_d3_10) (by decide) (by decide) k) ?_
    obtain ⟨fs, hr, hrun, hended, hW, hsame⟩ := X12.leave (v := some (.int (-1 : Int32))) (fun h => by rw [Bd.returns] at h; cases h)
    refine ⟨_, _, own_retI X12 hx Bd.returns (hb hby own_d3_36) hr, hrun, hended, hG _ _ ⟨_, _, rfl, ?_, ⟨_, rfl⟩, hW, hsame.mono (by decide) (by decide)⟩⟩
    show own_Q3 Z a0 u1 u2 h0 n0 _ T12.heap _
    rw [e12]
    have hl : (-1 : Int32) = (own_sig u1 u2) := by simp [own_sig, *]
    exact ⟨congrArg (fun w => some (Value.int w)) hl, N0, rfl⟩
  · refine own_of (S' := T12.setTop (mkF m 13 #[.val (.ref a0)] [])) (fun t k => XS.ifYes X12.here hx rfl (pc0 := 6) (pc' := 13) rfl (hb hby own_d3_6) rfl ((if0 _ _).trans (flt (fun q => hc6 ((lw_lt u1 (0 : Int64)).mp q))).2.1) (by decide) (by decide) k) ?_
    refine own_of (S' := T12.setTop (mkF m 14 #[.val (.ref a0)] [(.ref a0)])) (fun t k => XS.aloadN X12.here hx rfl (hb hby own_d3_13) rfl rfl k) ?_
    obtain ⟨T14, X14, e14, st14⟩ := getF X12 hx hZ hown (host := "") (Or.inl (hw _ (List.mem_of_getElem? (i := 14) rfl))) Via.refl e12 F0 (g := (mkF m 14 #[.val (.ref a0)] [(.ref a0)])) rfl rfl (hb hby own_d3_14)
    refine own_of (S' := T14.setTop (mkF m 17 #[.val (.ref a0)] [(.long u1)])) st14 ?_
    refine own_of (S' := T14.setTop (mkF m 18 #[.val (.ref a0)] [(.long (0 : Int64)), (.long u1)])) (fun t k => XS.lconst X14.here hx rfl (hb hby own_d3_17) k) ?_
    refine own_of (S' := T14.setTop (mkF m 19 #[.val (.ref a0)] [(.int (lcmpW u1 (0 : Int64)))])) (fun t k => XS.lcmp X14.here hx rfl (hb hby own_d3_18) rfl k) ?_
    by_cases hc19 : u1 = (0 : Int64)
    · refine own_of (S' := T14.setTop (mkF m 22 #[.val (.ref a0)] [])) (fun t k => XS.ifNo X14.here hx rfl (hb hby own_d3_19) rfl ((if0 _ _).trans (teq ((lw_eq u1 (0 : Int64)).mpr hc19)).2) k) ?_
      refine own_of (S' := T14.setTop (mkF m 23 #[.val (.ref a0)] [(.ref a0)])) (fun t k => XS.aloadN X14.here hx rfl (hb hby own_d3_22) rfl rfl k) ?_
      obtain ⟨T16, X16, e16, st16⟩ := getF X14 hx hZ hown (host := "") (Or.inl (hw _ (List.mem_of_getElem? (i := 16) rfl))) Via.refl e14 F1 (g := (mkF m 23 #[.val (.ref a0)] [(.ref a0)])) rfl rfl (hb hby own_d3_23)
      refine own_of (S' := T16.setTop (mkF m 26 #[.val (.ref a0)] [(.long u2)])) st16 ?_
      refine own_of (S' := T16.setTop (mkF m 27 #[.val (.ref a0)] [(.long (0 : Int64)), (.long u2)])) (fun t k => XS.lconst X16.here hx rfl (hb hby own_d3_26) k) ?_
      refine own_of (S' := T16.setTop (mkF m 28 #[.val (.ref a0)] [(.int (lcmpW u2 (0 : Int64)))])) (fun t k => XS.lcmp X16.here hx rfl (hb hby own_d3_27) rfl k) ?_
      by_cases hc28 : u2 = (0 : Int64)
      · refine own_of (S' := T16.setTop (mkF m 31 #[.val (.ref a0)] [])) (fun t k => XS.ifNo X16.here hx rfl (hb hby own_d3_28) rfl ((if0 _ _).trans (teq ((lw_eq u2 (0 : Int64)).mpr hc28)).2) k) ?_
        refine own_of (S' := T16.setTop (mkF m 32 #[.val (.ref a0)] [(.int (0 : Int32))])) (fun t k => XS.iconst X16.here hx rfl (hb hby own_d3_31) k) ?_
        refine own_of (S' := T16.setTop (mkF m 36 #[.val (.ref a0)] [(.int (0 : Int32))])) (fun t k => XS.goto X16.here hx rfl (pc0 := 32) (pc' := 36) rfl (hb hby own_d3_32) (by decide) (by decide) k) ?_
        obtain ⟨fs, hr, hrun, hended, hW, hsame⟩ := X16.leave (v := some (.int (0 : Int32))) (fun h => by rw [Bd.returns] at h; cases h)
        refine ⟨_, _, own_retI X16 hx Bd.returns (hb hby own_d3_36) hr, hrun, hended, hG _ _ ⟨_, _, rfl, ?_, ⟨_, rfl⟩, hW, hsame.mono (by decide) (by decide)⟩⟩
        show own_Q3 Z a0 u1 u2 h0 n0 _ T16.heap _
        rw [e16]
        have hl : (0 : Int32) = (own_sig u1 u2) := by simp [own_sig, *]
        exact ⟨congrArg (fun w => some (Value.int w)) hl, N0, rfl⟩
      · refine own_of (S' := T16.setTop (mkF m 35 #[.val (.ref a0)] [])) (fun t k => XS.ifYes X16.here hx rfl (pc0 := 28) (pc' := 35) rfl (hb hby own_d3_28) rfl ((if0 _ _).trans (feq (fun q => hc28 ((lw_eq u2 (0 : Int64)).mp q))).2) (by decide) (by decide) k) ?_
        refine own_of (S' := T16.setTop (mkF m 36 #[.val (.ref a0)] [(.int (1 : Int32))])) (fun t k => XS.iconst X16.here hx rfl (hb hby own_d3_35) k) ?_
        obtain ⟨fs, hr, hrun, hended, hW, hsame⟩ := X16.leave (v := some (.int (1 : Int32))) (fun h => by rw [Bd.returns] at h; cases h)
        refine ⟨_, _, own_retI X16 hx Bd.returns (hb hby own_d3_36) hr, hrun, hended, hG _ _ ⟨_, _, rfl, ?_, ⟨_, rfl⟩, hW, hsame.mono (by decide) (by decide)⟩⟩
        show own_Q3 Z a0 u1 u2 h0 n0 _ T16.heap _
        rw [e16]
        have hl : (1 : Int32) = (own_sig u1 u2) := by simp [own_sig, *]
        exact ⟨congrArg (fun w => some (Value.int w)) hl, N0, rfl⟩
    · refine own_of (S' := T14.setTop (mkF m 35 #[.val (.ref a0)] [])) (fun t k => XS.ifYes X14.here hx rfl (pc0 := 19) (pc' := 35) rfl (hb hby own_d3_19) rfl ((if0 _ _).trans (feq (fun q => hc19 ((lw_eq u1 (0 : Int64)).mp q))).2) (by decide) (by decide) k) ?_
      refine own_of (S' := T14.setTop (mkF m 36 #[.val (.ref a0)] [(.int (1 : Int32))])) (fun t k => XS.iconst X14.here hx rfl (hb hby own_d3_35) k) ?_
      obtain ⟨fs, hr, hrun, hended, hW, hsame⟩ := X14.leave (v := some (.int (1 : Int32))) (fun h => by rw [Bd.returns] at h; cases h)
      refine ⟨_, _, own_retI X14 hx Bd.returns (hb hby own_d3_36) hr, hrun, hended, hG _ _ ⟨_, _, rfl, ?_, ⟨_, rfl⟩, hW, hsame.mono (by decide) (by decide)⟩⟩
      show own_Q3 Z a0 u1 u2 h0 n0 _ T14.heap _
      rw [e14]
      have hl : (1 : Int32) = (own_sig u1 u2) := by simp [own_sig, *]
      exact ⟨congrArg (fun w => some (Value.int w)) hl, N0, rfl⟩
theorem own_d4_0 : decode prog_91_method_3_code 0 = .ok (.aload_n 0, 1) := by decide +kernel
theorem own_d4_1 : decode prog_91_method_3_code 1 = .ok (.getfield 7, 3) := by decide +kernel
theorem own_d4_4 : decode prog_91_method_3_code 4 = .ok (.lreturn, 1) := by decide +kernel
abbrev own_room4 : Room := { frames := 0, cells := 0, slots := 0, locals := 0 }
theorem own_pn4 : plainName "com/example/crisp_window/crispwindow/window/Int128" = true := by first | (simp [plainName, overriddenIn]; done) | decide +kernel
theorem own_ef4 (m : MethodId) (a0 : Addr) : entryFrame m #[(.ref a0)] 1 = mkF m 0 #[.val (.ref a0)] [] := by first | (simp [entryFrame, mkF, argsToLocals, Value.category]; done) | rfl
def own_Q4 (Z : State) (a0 : Addr) (u1 : Int64) (h0 : Heap) (n0 : Nat) (v : Option Value) (h : Heap) (L : List Loc) : Prop := v = some (.long u1) ∧ Fr n0 L ∧ h = h0
set_option maxRecDepth 65536 in
set_option maxHeartbeats 40000000 in
theorem own_rm4 (l : Launch) (Z : State) (a0 : Array Value) (hw : ∀ d ∈ tables_1, d.before a0 Z = true) (ws : List Jvm.Cond) (a0 : Addr) (u1 : Int64) (h0 : Heap) (n0 : Nat) (F0 : Fld Z h0 a0 "com/example/crisp_window/crispwindow/window/Int128" "high" "J" (.long u1)) :
    MetFree l (⟨"com/example/crisp_window/crispwindow/window/Int128", "high", "()J"⟩ : MethodName) (head1 (Jvm.Cond.code (⟨"com/example/crisp_window/crispwindow/window/Int128", "high", "()J"⟩ : MethodName) prog_91_method_3_code 1 (some .long) :: ws) (own_room4 : Room)) (fun a U => a = #[(.ref a0)] ∧ Z.Warmed39 U.vm ∧ U.heap = h0) (fun _ _ _ _ _ => True) (fun _ U o U' => ∃ v L, o = .returned v ∧ own_Q4 Z a0 u1 h0 n0 v U'.heap L ∧ FrameEnd U o U' L (own_room4 : Room).cells (own_room4 : Room).slots) := by
  refine MetFree.of_bodySF (plainFor_of_name own_pn4) hisR ?_
  intro p e s m args below meth c s₁ Bd hml0 hP hK
  obtain ⟨rfl, hZ, hh⟩ := hP
  have hx := Bd.exec
  have hby := Bd.bytes
  have hml : c.maxLocals = 1 := hml0
  have hown : s.vm.findClass "com/example/crisp_window/crispwindow/window/Int128" = some m.cls := findClass_of_methodNamed Bd.named
  have hnm := (name_of_methodNamed Bd.named Bd.method).1
  have X0 : Stand p l e (own_room4 : Room) s m #[(.ref a0)] below meth c s₁ [] 0 0 := Stand.of_body Bd
  have e0 : s₁.heap = h0 := by rw [← hh, Bd.state]; rfl
  have N0 := Fr.nil n0
  refine own_out fun G hG => ?_
  rw [own_ef4 m a0]
  show own_Go p.tables e below G (s₁.setTop (mkF m 0 #[.val (.ref a0)] []))
  refine own_of (S' := s₁.setTop (mkF m 1 #[.val (.ref a0)] [(.ref a0)])) (fun t k => XS.aloadN X0.here hx rfl (hb hby own_d4_0) rfl rfl k) ?_
  obtain ⟨T18, X18, e18, st18⟩ := getF X0 hx hZ hown (host := "") (Or.inl (hw _ (List.mem_of_getElem? (i := 14) rfl))) Via.refl e0 F0 (g := (mkF m 1 #[.val (.ref a0)] [(.ref a0)])) rfl rfl (hb hby own_d4_1)
  refine own_of (S' := T18.setTop (mkF m 4 #[.val (.ref a0)] [(.long u1)])) st18 ?_
  obtain ⟨fs, hr, hrun, hended, hW, hsame⟩ := X18.leave (v := some (.long u1)) (fun h => by rw [Bd.returns] at h; cases h)
  refine ⟨_, _, own_retL X18 hx Bd.returns (hb hby own_d4_4) hr, hrun, hended, hG _ _ ⟨_, _, rfl, ?_, ⟨_, rfl⟩, hW, hsame.mono (by decide) (by decide)⟩⟩
  show own_Q4 Z a0 u1 h0 n0 _ T18.heap _
  rw [e18]
  exact ⟨rfl, N0, rfl⟩
theorem own_d5_0 : decode prog_91_method_4_code 0 = .ok (.aload_n 0, 1) := by decide +kernel
theorem own_d5_1 : decode prog_91_method_4_code 1 = .ok (.getfield 13, 3) := by decide +kernel
theorem own_d5_4 : decode prog_91_method_4_code 4 = .ok (.lreturn, 1) := by decide +kernel
abbrev own_room5 : Room := { frames := 0, cells := 0, slots := 0, locals := 0 }
theorem own_pn5 : plainName "com/example/crisp_window/crispwindow/window/Int128" = true := by first | (simp [plainName, overriddenIn]; done) | decide +kernel
theorem own_ef5 (m : MethodId) (a0 : Addr) : entryFrame m #[(.ref a0)] 1 = mkF m 0 #[.val (.ref a0)] [] := by first | (simp [entryFrame, mkF, argsToLocals, Value.category]; done) | rfl
def own_Q5 (Z : State) (a0 : Addr) (u2 : Int64) (h0 : Heap) (n0 : Nat) (v : Option Value) (h : Heap) (L : List Loc) : Prop := v = some (.long u2) ∧ Fr n0 L ∧ h = h0
set_option maxRecDepth 65536 in
set_option maxHeartbeats 40000000 in
theorem own_rm5 (l : Launch) (Z : State) (a0 : Array Value) (hw : ∀ d ∈ tables_1, d.before a0 Z = true) (ws : List Jvm.Cond) (a0 : Addr) (u2 : Int64) (h0 : Heap) (n0 : Nat) (F0 : Fld Z h0 a0 "com/example/crisp_window/crispwindow/window/Int128" "low" "J" (.long u2)) :
    MetFree l (⟨"com/example/crisp_window/crispwindow/window/Int128", "low", "()J"⟩ : MethodName) (head1 (Jvm.Cond.code (⟨"com/example/crisp_window/crispwindow/window/Int128", "low", "()J"⟩ : MethodName) prog_91_method_4_code 1 (some .long) :: ws) (own_room5 : Room)) (fun a U => a = #[(.ref a0)] ∧ Z.Warmed39 U.vm ∧ U.heap = h0) (fun _ _ _ _ _ => True) (fun _ U o U' => ∃ v L, o = .returned v ∧ own_Q5 Z a0 u2 h0 n0 v U'.heap L ∧ FrameEnd U o U' L (own_room5 : Room).cells (own_room5 : Room).slots) := by
  refine MetFree.of_bodySF (plainFor_of_name own_pn5) hisR ?_
  intro p e s m args below meth c s₁ Bd hml0 hP hK
  obtain ⟨rfl, hZ, hh⟩ := hP
  have hx := Bd.exec
  have hby := Bd.bytes
  have hml : c.maxLocals = 1 := hml0
  have hown : s.vm.findClass "com/example/crisp_window/crispwindow/window/Int128" = some m.cls := findClass_of_methodNamed Bd.named
  have hnm := (name_of_methodNamed Bd.named Bd.method).1
  have X0 : Stand p l e (own_room5 : Room) s m #[(.ref a0)] below meth c s₁ [] 0 0 := Stand.of_body Bd
  have e0 : s₁.heap = h0 := by rw [← hh, Bd.state]; rfl
  have N0 := Fr.nil n0
  refine own_out fun G hG => ?_
  rw [own_ef5 m a0]
  show own_Go p.tables e below G (s₁.setTop (mkF m 0 #[.val (.ref a0)] []))
  refine own_of (S' := s₁.setTop (mkF m 1 #[.val (.ref a0)] [(.ref a0)])) (fun t k => XS.aloadN X0.here hx rfl (hb hby own_d5_0) rfl rfl k) ?_
  obtain ⟨T19, X19, e19, st19⟩ := getF X0 hx hZ hown (host := "") (Or.inl (hw _ (List.mem_of_getElem? (i := 16) rfl))) Via.refl e0 F0 (g := (mkF m 1 #[.val (.ref a0)] [(.ref a0)])) rfl rfl (hb hby own_d5_1)
  refine own_of (S' := T19.setTop (mkF m 4 #[.val (.ref a0)] [(.long u2)])) st19 ?_
  obtain ⟨fs, hr, hrun, hended, hW, hsame⟩ := X19.leave (v := some (.long u2)) (fun h => by rw [Bd.returns] at h; cases h)
  refine ⟨_, _, own_retL X19 hx Bd.returns (hb hby own_d5_4) hr, hrun, hended, hG _ _ ⟨_, _, rfl, ?_, ⟨_, rfl⟩, hW, hsame.mono (by decide) (by decide)⟩⟩
  show own_Q5 Z a0 u2 h0 n0 _ T19.heap _
  rw [e19]
  exact ⟨rfl, N0, rfl⟩
theorem own_pn0 : plainName "com/example/crisp_window/crispwindow/window/Int128SignumPinLaw" = true := by first | (simp [plainName, overriddenIn]; done) | decide +kernel
theorem own_ef0 (m : MethodId) (ah : Int64) (aw : Int64) (amd : Int32) : entryFrame m #[(.long ah), (.long aw), (.int amd)] maxLocals = mkF m 0 #[.val (.long ah), .second, .val (.long aw), .second, .val (.int amd), .unset, .unset, .unset, .unset, .unset, .unset, .unset, .unset, .unset] [] := by first | (simp [entryFrame, mkF, argsToLocals, Value.category, maxLocals]; done) | rfl
def own_Q0 (Z : State) (ah : Int64) (aw : Int64) (amd : Int32) (h0 : Heap) (n0 : Nat) (v : Option Value) (h : Heap) (L : List Loc) : Prop := v = some (.int 1) ∧ Fr n0 L
set_option maxRecDepth 65536 in
set_option maxHeartbeats 40000000 in
theorem own_rm0 (l : Launch) (Z : State) (a0 : Array Value) (hw : ∀ d ∈ tables_1, d.before a0 Z = true) (ws : List Jvm.Cond) (ah : Int64) (aw : Int64) (amd : Int32) (h0 : Heap) (n0 : Nat) (Z0 : n0 ≤ h0.size) :
    MetFree l x (head1 (Jvm.Cond.code x code maxLocals ret :: ws) room_1) (fun a U => a = #[(.long ah), (.long aw), (.int amd)] ∧ Z.Warmed39 U.vm ∧ U.heap = h0) (fun _ _ _ _ _ => True) (fun _ U o U' => ∃ v L, o = .returned v ∧ own_Q0 Z ah aw amd h0 n0 v U'.heap L ∧ FrameEnd U o U' L 1 2) := by
  refine MetFree.of_bodySF (plainFor_of_name own_pn0) hisR ?_
  intro p e s m args below meth c s₁ Bd hml0 hP hK
  obtain ⟨rfl, hZ, hh⟩ := hP
  have hx := Bd.exec
  have hby := Bd.bytes
  have hml : c.maxLocals = 14 := hml0
  have hown : s.vm.findClass "com/example/crisp_window/crispwindow/window/Int128SignumPinLaw" = some m.cls := findClass_of_methodNamed Bd.named
  have hnm := (name_of_methodNamed Bd.named Bd.method).1
  have X0 : Stand p l e room_1 s m #[(.long ah), (.long aw), (.int amd)] below meth c s₁ [] 0 0 := Stand.of_body Bd
  have e0 : s₁.heap = h0 := by rw [← hh, Bd.state]; rfl
  have N0 := Fr.nil n0
  refine own_out fun G hG => ?_
  rw [own_ef0 m ah aw amd]
  show own_Go p.tables e below G (s₁.setTop (mkF m 0 #[.val (.long ah), .second, .val (.long aw), .second, .val (.int amd), .unset, .unset, .unset, .unset, .unset, .unset, .unset, .unset, .unset] []))
  refine own_of (S' := s₁.setTop (mkF m 2 #[.val (.long ah), .second, .val (.long aw), .second, .val (.int amd), .unset, .unset, .unset, .unset, .unset, .unset, .unset, .unset, .unset] [(.int amd)])) (fun t k => XS.iload X0.here hx rfl (hb hby at_0) rfl k) ?_
  refine own_of (S' := s₁.setTop (mkF m 3 #[.val (.long ah), .second, .val (.long aw), .second, .val (.int amd), .unset, .unset, .unset, .unset, .unset, .unset, .unset, .unset, .unset] [(.int (3 : Int32)), (.int amd)])) (fun t k => XS.iconst X0.here hx rfl (hb hby at_2) k) ?_
  refine own_of (S' := s₁.setTop (mkF m 4 #[.val (.long ah), .second, .val (.long aw), .second, .val (.int amd), .unset, .unset, .unset, .unset, .unset, .unset, .unset, .unset, .unset] [(.int (amd &&& (3 : Int32)))])) (fun t k => XS.iand X0.here hx rfl (hb hby at_3) rfl k) ?_
  generalize q4 : (amd &&& (3 : Int32)) = x4
  refine own_of (S' := s₁.setTop (mkF m 6 #[.val (.long ah), .second, .val (.long aw), .second, .val (.int amd), .val (.int x4), .unset, .unset, .unset, .unset, .unset, .unset, .unset, .unset] [])) (fun t k => XS.istore X0.here hx rfl (hb hby at_4) rfl (l' := #[.val (.long ah), .second, .val (.long aw), .second, .val (.int amd), .val (.int x4), .unset, .unset, .unset, .unset, .unset, .unset, .unset, .unset]) rfl k) ?_
  refine own_of (S' := s₁.setTop (mkF m 7 #[.val (.long ah), .second, .val (.long aw), .second, .val (.int amd), .val (.int x4), .unset, .unset, .unset, .unset, .unset, .unset, .unset, .unset] [(.long ah)])) (fun t k => XS.lloadN X0.here hx rfl (hb hby at_6) rfl k) ?_
  refine own_of (S' := s₁.setTop (mkF m 9 #[.val (.long ah), .second, .val (.long aw), .second, .val (.int amd), .val (.int x4), .val (.long ah), .second, .unset, .unset, .unset, .unset, .unset, .unset] [])) (fun t k => XS.lstore X0.here hx rfl (hb hby at_7) rfl (l' := #[.val (.long ah), .second, .val (.long aw), .second, .val (.int amd), .val (.int x4), .val (.long ah), .second, .unset, .unset, .unset, .unset, .unset, .unset]) rfl k) ?_
  refine own_of (S' := s₁.setTop (mkF m 10 #[.val (.long ah), .second, .val (.long aw), .second, .val (.int amd), .val (.int x4), .val (.long ah), .second, .unset, .unset, .unset, .unset, .unset, .unset] [(.long aw)])) (fun t k => XS.lloadN X0.here hx rfl (hb hby at_9) rfl k) ?_
  refine own_of (S' := s₁.setTop (mkF m 12 #[.val (.long ah), .second, .val (.long aw), .second, .val (.int amd), .val (.int x4), .val (.long ah), .second, .val (.long aw), .second, .unset, .unset, .unset, .unset] [])) (fun t k => XS.lstore X0.here hx rfl (hb hby at_10) rfl (l' := #[.val (.long ah), .second, .val (.long aw), .second, .val (.int amd), .val (.int x4), .val (.long ah), .second, .val (.long aw), .second, .unset, .unset, .unset, .unset]) rfl k) ?_
  refine own_of (S' := s₁.setTop (mkF m 14 #[.val (.long ah), .second, .val (.long aw), .second, .val (.int amd), .val (.int x4), .val (.long ah), .second, .val (.long aw), .second, .unset, .unset, .unset, .unset] [(.int x4)])) (fun t k => XS.iload X0.here hx rfl (hb hby at_12) rfl k) ?_
  refine own_of (S' := s₁.setTop (mkF m 15 #[.val (.long ah), .second, .val (.long aw), .second, .val (.int amd), .val (.int x4), .val (.long ah), .second, .val (.long aw), .second, .unset, .unset, .unset, .unset] [(.int (1 : Int32)), (.int x4)])) (fun t k => XS.iconst X0.here hx rfl (hb hby at_14) k) ?_
  obtain ⟨j48_l6, qj48_l6⟩ : ∃ z : Int64, z = (if x4 = (1 : Int32) then (0 : Int64) else (if x4 = (2 : Int32) then (aw >>> ((63 : Int32) &&& 0x3f).toInt64) else (if x4 = (3 : Int32) then ah else ah))) := ⟨_, rfl⟩
  obtain ⟨j48_l8, qj48_l8⟩ : ∃ z : Int64, z = (if x4 = (1 : Int32) then aw else (if x4 = (2 : Int32) then aw else (if x4 = (3 : Int32) then (0 : Int64) else aw))) := ⟨_, rfl⟩
  suffices k23 : ∀ (T' : State) (locs' : List Loc), Stand p l e room_1 s m #[(.long ah), (.long aw), (.int amd)] below meth c T' locs' 0 0 → Fr n0 locs' → T'.heap = h0 → own_Go p.tables e below G (T'.setTop (mkF m 48 #[.val (.long ah), .second, .val (.long aw), .second, .val (.int amd), .val (.int x4), .val (.long j48_l6), .second, .val (.long j48_l8), .second, .unset, .unset, .unset, .unset] [])) by
    by_cases hc15 : x4 = (1 : Int32)
    · refine own_of (S' := s₁.setTop (mkF m 18 #[.val (.long ah), .second, .val (.long aw), .second, .val (.int amd), .val (.int x4), .val (.long ah), .second, .val (.long aw), .second, .unset, .unset, .unset, .unset] [])) (fun t k => XS.icmpNo X0.here hx rfl (hb hby at_15) rfl (teq hc15).2 k) ?_
      refine own_of (S' := s₁.setTop (mkF m 19 #[.val (.long ah), .second, .val (.long aw), .second, .val (.int amd), .val (.int x4), .val (.long ah), .second, .val (.long aw), .second, .unset, .unset, .unset, .unset] [(.long (0 : Int64))])) (fun t k => XS.lconst X0.here hx rfl (hb hby at_18) k) ?_
      refine own_of (S' := s₁.setTop (mkF m 21 #[.val (.long ah), .second, .val (.long aw), .second, .val (.int amd), .val (.int x4), .val (.long (0 : Int64)), .second, .val (.long aw), .second, .unset, .unset, .unset, .unset] [])) (fun t k => XS.lstore X0.here hx rfl (hb hby at_19) rfl (l' := #[.val (.long ah), .second, .val (.long aw), .second, .val (.int amd), .val (.int x4), .val (.long (0 : Int64)), .second, .val (.long aw), .second, .unset, .unset, .unset, .unset]) rfl k) ?_
      refine own_of (S' := s₁.setTop (mkF m 48 #[.val (.long ah), .second, .val (.long aw), .second, .val (.int amd), .val (.int x4), .val (.long (0 : Int64)), .second, .val (.long aw), .second, .unset, .unset, .unset, .unset] [])) (fun t k => XS.goto X0.here hx rfl (pc0 := 21) (pc' := 48) rfl (hb hby at_21) (by decide) (by decide) k) ?_
      have jw24 : j48_l6 = ((0 : Int64) : Int64) := qj48_l6.trans (if_pos hc15)
      have jw25 : j48_l8 = (aw : Int64) := qj48_l8.trans (if_pos hc15)
      rw [jw24, jw25] at k23
      exact k23 s₁ _ X0 N0 e0
    · refine own_of (S' := s₁.setTop (mkF m 24 #[.val (.long ah), .second, .val (.long aw), .second, .val (.int amd), .val (.int x4), .val (.long ah), .second, .val (.long aw), .second, .unset, .unset, .unset, .unset] [])) (fun t k => XS.icmpYes X0.here hx rfl (pc0 := 15) (pc' := 24) rfl (hb hby at_15) rfl (feq hc15).2 (by decide) (by decide) k) ?_
      refine own_of (S' := s₁.setTop (mkF m 26 #[.val (.long ah), .second, .val (.long aw), .second, .val (.int amd), .val (.int x4), .val (.long ah), .second, .val (.long aw), .second, .unset, .unset, .unset, .unset] [(.int x4)])) (fun t k => XS.iload X0.here hx rfl (hb hby at_24) rfl k) ?_
      refine own_of (S' := s₁.setTop (mkF m 27 #[.val (.long ah), .second, .val (.long aw), .second, .val (.int amd), .val (.int x4), .val (.long ah), .second, .val (.long aw), .second, .unset, .unset, .unset, .unset] [(.int (2 : Int32)), (.int x4)])) (fun t k => XS.iconst X0.here hx rfl (hb hby at_26) k) ?_
      by_cases hc27 : x4 = (2 : Int32)
      · refine own_of (S' := s₁.setTop (mkF m 30 #[.val (.long ah), .second, .val (.long aw), .second, .val (.int amd), .val (.int x4), .val (.long ah), .second, .val (.long aw), .second, .unset, .unset, .unset, .unset] [])) (fun t k => XS.icmpNo X0.here hx rfl (hb hby at_27) rfl (teq hc27).2 k) ?_
        refine own_of (S' := s₁.setTop (mkF m 31 #[.val (.long ah), .second, .val (.long aw), .second, .val (.int amd), .val (.int x4), .val (.long ah), .second, .val (.long aw), .second, .unset, .unset, .unset, .unset] [(.long aw)])) (fun t k => XS.lloadN X0.here hx rfl (hb hby at_30) rfl k) ?_
        refine own_of (S' := s₁.setTop (mkF m 33 #[.val (.long ah), .second, .val (.long aw), .second, .val (.int amd), .val (.int x4), .val (.long ah), .second, .val (.long aw), .second, .unset, .unset, .unset, .unset] [(.int (63 : Int32)), (.long aw)])) (fun t k => XS.bipush X0.here hx rfl (hb hby at_31) k) ?_
        refine own_of (S' := s₁.setTop (mkF m 34 #[.val (.long ah), .second, .val (.long aw), .second, .val (.int amd), .val (.int x4), .val (.long ah), .second, .val (.long aw), .second, .unset, .unset, .unset, .unset] [(.long (aw >>> ((63 : Int32) &&& 0x3f).toInt64))])) (fun t k => XS.lshr X0.here hx rfl (hb hby at_33) rfl k) ?_
        refine own_of (S' := s₁.setTop (mkF m 36 #[.val (.long ah), .second, .val (.long aw), .second, .val (.int amd), .val (.int x4), .val (.long (aw >>> ((63 : Int32) &&& 0x3f).toInt64)), .second, .val (.long aw), .second, .unset, .unset, .unset, .unset] [])) (fun t k => XS.lstore X0.here hx rfl (hb hby at_34) rfl (l' := #[.val (.long ah), .second, .val (.long aw), .second, .val (.int amd), .val (.int x4), .val (.long (aw >>> ((63 : Int32) &&& 0x3f).toInt64)), .second, .val (.long aw), .second, .unset, .unset, .unset, .unset]) rfl k) ?_
        refine own_of (S' := s₁.setTop (mkF m 48 #[.val (.long ah), .second, .val (.long aw), .second, .val (.int amd), .val (.int x4), .val (.long (aw >>> ((63 : Int32) &&& 0x3f).toInt64)), .second, .val (.long aw), .second, .unset, .unset, .unset, .unset] [])) (fun t k => XS.goto X0.here hx rfl (pc0 := 36) (pc' := 48) rfl (hb hby at_36) (by decide) (by decide) k) ?_
        have jw26 : j48_l6 = ((aw >>> ((63 : Int32) &&& 0x3f).toInt64) : Int64) := qj48_l6.trans ((if_neg hc15).trans (if_pos hc27))
        have jw27 : j48_l8 = (aw : Int64) := qj48_l8.trans ((if_neg hc15).trans (if_pos hc27))
        rw [jw26, jw27] at k23
        exact k23 s₁ _ X0 N0 e0
      · refine own_of (S' := s₁.setTop (mkF m 39 #[.val (.long ah), .second, .val (.long aw), .second, .val (.int amd), .val (.int x4), .val (.long ah), .second, .val (.long aw), .second, .unset, .unset, .unset, .unset] [])) (fun t k => XS.icmpYes X0.here hx rfl (pc0 := 27) (pc' := 39) rfl (hb hby at_27) rfl (feq hc27).2 (by decide) (by decide) k) ?_
        refine own_of (S' := s₁.setTop (mkF m 41 #[.val (.long ah), .second, .val (.long aw), .second, .val (.int amd), .val (.int x4), .val (.long ah), .second, .val (.long aw), .second, .unset, .unset, .unset, .unset] [(.int x4)])) (fun t k => XS.iload X0.here hx rfl (hb hby at_39) rfl k) ?_
        refine own_of (S' := s₁.setTop (mkF m 42 #[.val (.long ah), .second, .val (.long aw), .second, .val (.int amd), .val (.int x4), .val (.long ah), .second, .val (.long aw), .second, .unset, .unset, .unset, .unset] [(.int (3 : Int32)), (.int x4)])) (fun t k => XS.iconst X0.here hx rfl (hb hby at_41) k) ?_
        by_cases hc42 : x4 = (3 : Int32)
        · refine own_of (S' := s₁.setTop (mkF m 45 #[.val (.long ah), .second, .val (.long aw), .second, .val (.int amd), .val (.int x4), .val (.long ah), .second, .val (.long aw), .second, .unset, .unset, .unset, .unset] [])) (fun t k => XS.icmpNo X0.here hx rfl (hb hby at_42) rfl (teq hc42).2 k) ?_
          refine own_of (S' := s₁.setTop (mkF m 46 #[.val (.long ah), .second, .val (.long aw), .second, .val (.int amd), .val (.int x4), .val (.long ah), .second, .val (.long aw), .second, .unset, .unset, .unset, .unset] [(.long (0 : Int64))])) (fun t k => XS.lconst X0.here hx rfl (hb hby at_45) k) ?_
          refine own_of (S' := s₁.setTop (mkF m 48 #[.val (.long ah), .second, .val (.long aw), .second, .val (.int amd), .val (.int x4), .val (.long ah), .second, .val (.long (0 : Int64)), .second, .unset, .unset, .unset, .unset] [])) (fun t k => XS.lstore X0.here hx rfl (hb hby at_46) rfl (l' := #[.val (.long ah), .second, .val (.long aw), .second, .val (.int amd), .val (.int x4), .val (.long ah), .second, .val (.long (0 : Int64)), .second, .unset, .unset, .unset, .unset]) rfl k) ?_
          have jw28 : j48_l6 = (ah : Int64) := qj48_l6.trans ((if_neg hc15).trans ((if_neg hc27).trans (if_pos hc42)))
          have jw29 : j48_l8 = ((0 : Int64) : Int64) := qj48_l8.trans ((if_neg hc15).trans ((if_neg hc27).trans (if_pos hc42)))
          rw [jw28, jw29] at k23
          exact k23 s₁ _ X0 N0 e0
        · refine own_of (S' := s₁.setTop (mkF m 48 #[.val (.long ah), .second, .val (.long aw), .second, .val (.int amd), .val (.int x4), .val (.long ah), .second, .val (.long aw), .second, .unset, .unset, .unset, .unset] [])) (fun t k => XS.icmpYes X0.here hx rfl (pc0 := 42) (pc' := 48) rfl (hb hby at_42) rfl (feq hc42).2 (by decide) (by decide) k) ?_
          have jw30 : j48_l6 = (ah : Int64) := qj48_l6.trans ((if_neg hc15).trans ((if_neg hc27).trans (if_neg hc42)))
          have jw31 : j48_l8 = (aw : Int64) := qj48_l8.trans ((if_neg hc15).trans ((if_neg hc27).trans (if_neg hc42)))
          rw [jw30, jw31] at k23
          exact k23 s₁ _ X0 N0 e0
  intro T23 locs23 X23 N23 e23
  obtain ⟨T32, h32, X32, e32, E32, A32, D32, -, st32⟩ := newO X23 hx hZ hown (hw _ (List.mem_of_getElem? (i := 0) rfl)) (hw _ (List.mem_of_getElem? (i := 1) rfl)) (hw _ (List.mem_of_getElem? (i := 2) rfl)) e23 (g := (mkF m 48 #[.val (.long ah), .second, .val (.long aw), .second, .val (.int amd), .val (.int x4), .val (.long j48_l6), .second, .val (.long j48_l8), .second, .unset, .unset, .unset, .unset] [])) rfl (hb hby at_48) (by decide) (by decide)
  obtain ⟨b32, g32⟩ : ∃ z, z = h0.size := ⟨_, rfl⟩
  have g_b32 : n0 ≤ b32 := Nat.le_trans Z0 (Nat.le_of_eq g32.symm)
  rw [← g32] at A32 D32 st32
  have f33 : Fld Z h32 b32 "com/example/crisp_window/crispwindow/window/Int128" "high" "J" (.long (0 : Int64)) := D32 (Or.inl (hw _ (List.mem_of_getElem? (i := 15) rfl))) (ty := .long) (by decide)
  have f34 : Fld Z h32 b32 "com/example/crisp_window/crispwindow/window/Int128" "low" "J" (.long (0 : Int64)) := D32 (Or.inl (hw _ (List.mem_of_getElem? (i := 17) rfl))) (ty := .long) (by decide)
  have z35 : n0 ≤ h32.size := Nat.le_trans Z0 E32.1
  refine own_of (S' := T32.setTop (mkF m 51 #[.val (.long ah), .second, .val (.long aw), .second, .val (.int amd), .val (.int x4), .val (.long j48_l6), .second, .val (.long j48_l8), .second, .unset, .unset, .unset, .unset] [(.ref b32)])) st32 ?_
  refine own_of (S' := T32.setTop (mkF m 52 #[.val (.long ah), .second, .val (.long aw), .second, .val (.int amd), .val (.int x4), .val (.long j48_l6), .second, .val (.long j48_l8), .second, .unset, .unset, .unset, .unset] [(.ref b32), (.ref b32)])) (fun t k => XS.dup X32.here hx rfl (hb hby at_51) rfl rfl k) ?_
  obtain ⟨_, _, ⟨T36, L36, k36, n36⟩, -, X36, ⟨Lc36, hQ36, l36, y36, z36⟩, st36⟩ := X32.specialBack hx (y := (⟨"com/example/crisp_window/crispwindow/window/Int128", "<init>", "()V"⟩ : MethodName)) rfl hown (mvT hZ (hw _ (List.mem_of_getElem? (i := 3) rfl))) (mvT hZ (hw _ (List.mem_of_getElem? (i := 4) rfl))) (mvT hZ (hw _ (List.mem_of_getElem? (i := 5) rfl))) (by decide) (backOf (W := 1) (own_rm1 l Z _ hw [] b32 h32 n0 ) hZ (hw _ (List.mem_of_getElem? (i := 5) rfl)) (hw _ (List.mem_of_getElem? (i := 2) rfl)) (by decide) (by decide)) (g := (mkF m 52 #[.val (.long ah), .second, .val (.long aw), .second, .val (.int amd), .val (.int x4), .val (.long j48_l6), .second, .val (.long j48_l8), .second, .unset, .unset, .unset, .unset] [(.ref b32), (.ref b32)])) rfl (by rw [hml]; rfl) (Steps.refl _) (a := b32) (argsL := []) (rest := [(.ref b32)]) (lenOf own_pd0 rfl) rfl (by show 2 * 0 + _ ≤ _; exact Nat.le_of_eq rfl) (hb hby at_52) (fun _ _ => ⟨rfl, e32, (by decide : 1 + 0 ≤ _), (by decide : 2 + 0 ≤ _)⟩)
  dsimp only [Pt.U, Pt.locs, Pt.cells, Pt.slots] at X36 l36 y36 z36 st36 hQ36
  subst l36 y36 z36
  obtain ⟨rfl, M36, eh36⟩ := hQ36
  have N36 := Fr.app N23 M36
  refine own_of (S' := T36.setTop (mkF m 55 #[.val (.long ah), .second, .val (.long aw), .second, .val (.int amd), .val (.int x4), .val (.long j48_l6), .second, .val (.long j48_l8), .second, .unset, .unset, .unset, .unset] [(.ref b32)])) (fun t k => st36.trans k) ?_
  refine own_of (S' := T36.setTop (mkF m 57 #[.val (.long ah), .second, .val (.long aw), .second, .val (.int amd), .val (.int x4), .val (.long j48_l6), .second, .val (.long j48_l8), .second, .unset, .unset, .unset, .unset] [(.long j48_l6), (.ref b32)])) (fun t k => XS.lload X36.here hx rfl (hb hby at_55) rfl k) ?_
  refine own_of (S' := T36.setTop (mkF m 59 #[.val (.long ah), .second, .val (.long aw), .second, .val (.int amd), .val (.int x4), .val (.long j48_l6), .second, .val (.long j48_l8), .second, .unset, .unset, .unset, .unset] [(.long j48_l8), (.long j48_l6), (.ref b32)])) (fun t k => XS.lload X36.here hx rfl (hb hby at_57) rfl k) ?_
  obtain ⟨cq37, kq37, q37a, q37b, q37c⟩ := isOf hZ eh36 A32
  obtain ⟨_, _, ⟨T37, L37, k37, n37⟩, -, X37, ⟨Lc37, hQ37, l37, y37, z37⟩, st37⟩ := X36.virtualBack hx (y := (⟨"com/example/crisp_window/crispwindow/window/Int128", "set", "(JJ)Lcom/example/crisp_window/crispwindow/window/Int128;"⟩ : MethodName)) (z := (⟨"com/example/crisp_window/crispwindow/window/Int128", "set", "(JJ)Lcom/example/crisp_window/crispwindow/window/Int128;"⟩ : MethodName)) hown (mvT hZ (hw _ (List.mem_of_getElem? (i := 9) rfl))) (mvT hZ (hw _ (List.mem_of_getElem? (i := 10) rfl))) (notFace_of_selects (args := #[]) (mvT hZ (hw _ (List.mem_of_getElem? (i := 12) rfl)))) (mvT hZ (hw _ (List.mem_of_getElem? (i := 12) rfl))) (mvT hZ (hw _ (List.mem_of_getElem? (i := 11) rfl))) (by decide) (backOf (W := 0) (own_rm2 l Z _ hw [] b32 j48_l6 j48_l8 (0 : Int64) (0 : Int64) h32 n0 A32 f33 f34 g_b32) hZ (hw _ (List.mem_of_getElem? (i := 13) rfl)) (hw _ (List.mem_of_getElem? (i := 2) rfl)) (by decide) (by decide)) q37a q37c (g := (mkF m 59 #[.val (.long ah), .second, .val (.long aw), .second, .val (.int amd), .val (.int x4), .val (.long j48_l6), .second, .val (.long j48_l8), .second, .unset, .unset, .unset, .unset] [(.long j48_l8), (.long j48_l6), (.ref b32)])) rfl (by rw [hml]; rfl) (Steps.refl _) (argsL := [(.long j48_l6), (.long j48_l8)]) (rest := []) (lenOf own_pd1 rfl) rfl (by show 2 * 0 + _ ≤ _; exact Nat.le_of_eq rfl) (hb hby at_59) (fun _ _ => ⟨rfl, eh36, (by decide : 1 + 0 ≤ _), (by decide : 2 + 0 ≤ _)⟩)
  dsimp only [Pt.U, Pt.locs, Pt.cells, Pt.slots] at X37 l37 y37 z37 st37 hQ37
  subst l37 y37 z37
  obtain ⟨rfl, M37, K37, p37_0, p37_1, p37_2⟩ := hQ37
  have f38 : Exa Z T37.heap b32 "com/example/crisp_window/crispwindow/window/Int128" := (A32.keep K37)
  have z39 : n0 ≤ T37.heap.size := Nat.le_trans z35 K37.1
  have N37 := Fr.app N36 M37
  refine own_of (S' := T37.setTop (mkF m 62 #[.val (.long ah), .second, .val (.long aw), .second, .val (.int amd), .val (.int x4), .val (.long j48_l6), .second, .val (.long j48_l8), .second, .unset, .unset, .unset, .unset] [(.ref b32)])) (fun t k => st37.trans k) ?_
  refine own_of (S' := T37.setTop (mkF m 64 #[.val (.long ah), .second, .val (.long aw), .second, .val (.int amd), .val (.int x4), .val (.long j48_l6), .second, .val (.long j48_l8), .second, .val (.ref b32), .unset, .unset, .unset] [])) (fun t k => XS.astore X37.here hx rfl (hb hby at_62) rfl rfl (l' := #[.val (.long ah), .second, .val (.long aw), .second, .val (.int amd), .val (.int x4), .val (.long j48_l6), .second, .val (.long j48_l8), .second, .val (.ref b32), .unset, .unset, .unset]) rfl k) ?_
  refine own_of (S' := T37.setTop (mkF m 66 #[.val (.long ah), .second, .val (.long aw), .second, .val (.int amd), .val (.int x4), .val (.long j48_l6), .second, .val (.long j48_l8), .second, .val (.ref b32), .unset, .unset, .unset] [(.ref b32)])) (fun t k => XS.aload X37.here hx rfl (hb hby at_64) rfl rfl k) ?_
  obtain ⟨cq40, kq40, q40a, q40b, q40c⟩ := isOf hZ rfl p37_0
  obtain ⟨_, _, ⟨T40, L40, k40, n40⟩, -, X40, ⟨Lc40, hQ40, l40, y40, z40⟩, st40⟩ := X37.virtualBack hx (y := (⟨"com/example/crisp_window/crispwindow/window/Int128", "signum", "()I"⟩ : MethodName)) (z := (⟨"com/example/crisp_window/crispwindow/window/Int128", "signum", "()I"⟩ : MethodName)) hown (mvT hZ (hw _ (List.mem_of_getElem? (i := 18) rfl))) (mvT hZ (hw _ (List.mem_of_getElem? (i := 19) rfl))) (notFace_of_selects (args := #[]) (mvT hZ (hw _ (List.mem_of_getElem? (i := 21) rfl)))) (mvT hZ (hw _ (List.mem_of_getElem? (i := 21) rfl))) (mvT hZ (hw _ (List.mem_of_getElem? (i := 20) rfl))) (by decide) (backOf (W := 0) (own_rm3 l Z _ hw [] b32 j48_l6 j48_l8 T37.heap n0 p37_1 p37_2) hZ (hw _ (List.mem_of_getElem? (i := 22) rfl)) (hw _ (List.mem_of_getElem? (i := 2) rfl)) (by decide) (by decide)) q40a q40c (g := (mkF m 66 #[.val (.long ah), .second, .val (.long aw), .second, .val (.int amd), .val (.int x4), .val (.long j48_l6), .second, .val (.long j48_l8), .second, .val (.ref b32), .unset, .unset, .unset] [(.ref b32)])) rfl (by rw [hml]; rfl) (Steps.refl _) (argsL := []) (rest := []) (lenOf own_pd2 rfl) rfl (by show 2 * 0 + _ ≤ _; exact Nat.le_of_eq rfl) (hb hby at_66) (fun _ _ => ⟨rfl, rfl, (by decide : 1 + 0 ≤ _), (by decide : 2 + 0 ≤ _)⟩)
  dsimp only [Pt.U, Pt.locs, Pt.cells, Pt.slots] at X40 l40 y40 z40 st40 hQ40
  subst l40 y40 z40
  obtain ⟨rfl, M40, eh40⟩ := hQ40
  have N40 := Fr.app N37 M40
  refine own_of (S' := T40.setTop (mkF m 69 #[.val (.long ah), .second, .val (.long aw), .second, .val (.int amd), .val (.int x4), .val (.long j48_l6), .second, .val (.long j48_l8), .second, .val (.ref b32), .unset, .unset, .unset] [(.int (own_sig j48_l6 j48_l8))])) (fun t k => st40.trans k) ?_
  generalize q66 : (own_sig j48_l6 j48_l8) = r66
  refine own_of (S' := T40.setTop (mkF m 71 #[.val (.long ah), .second, .val (.long aw), .second, .val (.int amd), .val (.int x4), .val (.long j48_l6), .second, .val (.long j48_l8), .second, .val (.ref b32), .val (.int r66), .unset, .unset] [])) (fun t k => XS.istore X40.here hx rfl (hb hby at_69) rfl (l' := #[.val (.long ah), .second, .val (.long aw), .second, .val (.int amd), .val (.int x4), .val (.long j48_l6), .second, .val (.long j48_l8), .second, .val (.ref b32), .val (.int r66), .unset, .unset]) rfl k) ?_
  refine own_of (S' := T40.setTop (mkF m 73 #[.val (.long ah), .second, .val (.long aw), .second, .val (.int amd), .val (.int x4), .val (.long j48_l6), .second, .val (.long j48_l8), .second, .val (.ref b32), .val (.int r66), .unset, .unset] [(.long j48_l6)])) (fun t k => XS.lload X40.here hx rfl (hb hby at_71) rfl k) ?_
  refine own_of (S' := T40.setTop (mkF m 74 #[.val (.long ah), .second, .val (.long aw), .second, .val (.int amd), .val (.int x4), .val (.long j48_l6), .second, .val (.long j48_l8), .second, .val (.ref b32), .val (.int r66), .unset, .unset] [(.long (0 : Int64)), (.long j48_l6)])) (fun t k => XS.lconst X40.here hx rfl (hb hby at_73) k) ?_
  refine own_of (S' := T40.setTop (mkF m 75 #[.val (.long ah), .second, .val (.long aw), .second, .val (.int amd), .val (.int x4), .val (.long j48_l6), .second, .val (.long j48_l8), .second, .val (.ref b32), .val (.int r66), .unset, .unset] [(.int (lcmpW j48_l6 (0 : Int64)))])) (fun t k => XS.lcmp X40.here hx rfl (hb hby at_74) rfl k) ?_
  obtain ⟨j113_l12, qj113_l12⟩ : ∃ z : Int32, z = (if (0 : Int64) < j48_l6 then (1 : Int32) else (if j48_l6 < (0 : Int64) then (-1 : Int32) else (if j48_l8 = (0 : Int64) then (0 : Int32) else (1 : Int32)))) := ⟨_, rfl⟩
  suffices k44 : ∀ (T' : State) (locs' : List Loc), Stand p l e room_1 s m #[(.long ah), (.long aw), (.int amd)] below meth c T' locs' 1 2 → Fr n0 locs' → T'.heap = T37.heap → own_Go p.tables e below G (T'.setTop (mkF m 113 #[.val (.long ah), .second, .val (.long aw), .second, .val (.int amd), .val (.int x4), .val (.long j48_l6), .second, .val (.long j48_l8), .second, .val (.ref b32), .val (.int r66), .val (.int j113_l12), .unset] [])) by
    by_cases hc75 : (0 : Int64) < j48_l6
    · refine own_of (S' := T40.setTop (mkF m 78 #[.val (.long ah), .second, .val (.long aw), .second, .val (.int amd), .val (.int x4), .val (.long j48_l6), .second, .val (.long j48_l8), .second, .val (.ref b32), .val (.int r66), .unset, .unset] [])) (fun t k => XS.ifNo X40.here hx rfl (hb hby at_75) rfl ((if0 _ _).trans (tlt ((lw_gt j48_l6 (0 : Int64)).mpr hc75)).2.2.2) k) ?_
      refine own_of (S' := T40.setTop (mkF m 79 #[.val (.long ah), .second, .val (.long aw), .second, .val (.int amd), .val (.int x4), .val (.long j48_l6), .second, .val (.long j48_l8), .second, .val (.ref b32), .val (.int r66), .unset, .unset] [(.int (1 : Int32))])) (fun t k => XS.iconst X40.here hx rfl (hb hby at_78) k) ?_
      refine own_of (S' := T40.setTop (mkF m 81 #[.val (.long ah), .second, .val (.long aw), .second, .val (.int amd), .val (.int x4), .val (.long j48_l6), .second, .val (.long j48_l8), .second, .val (.ref b32), .val (.int r66), .val (.int (1 : Int32)), .unset] [])) (fun t k => XS.istore X40.here hx rfl (hb hby at_79) rfl (l' := #[.val (.long ah), .second, .val (.long aw), .second, .val (.int amd), .val (.int x4), .val (.long j48_l6), .second, .val (.long j48_l8), .second, .val (.ref b32), .val (.int r66), .val (.int (1 : Int32)), .unset]) rfl k) ?_
      refine own_of (S' := T40.setTop (mkF m 113 #[.val (.long ah), .second, .val (.long aw), .second, .val (.int amd), .val (.int x4), .val (.long j48_l6), .second, .val (.long j48_l8), .second, .val (.ref b32), .val (.int r66), .val (.int (1 : Int32)), .unset] [])) (fun t k => XS.goto X40.here hx rfl (pc0 := 81) (pc' := 113) rfl (hb hby at_81) (by decide) (by decide) k) ?_
      have jw45 : j113_l12 = ((1 : Int32) : Int32) := qj113_l12.trans (if_pos hc75)
      rw [jw45] at k44
      exact k44 T40 _ X40 N40 eh40
    · refine own_of (S' := T40.setTop (mkF m 84 #[.val (.long ah), .second, .val (.long aw), .second, .val (.int amd), .val (.int x4), .val (.long j48_l6), .second, .val (.long j48_l8), .second, .val (.ref b32), .val (.int r66), .unset, .unset] [])) (fun t k => XS.ifYes X40.here hx rfl (pc0 := 75) (pc' := 84) rfl (hb hby at_75) rfl ((if0 _ _).trans (flt (fun q => hc75 ((lw_gt j48_l6 (0 : Int64)).mp q))).2.2.2) (by decide) (by decide) k) ?_
      refine own_of (S' := T40.setTop (mkF m 86 #[.val (.long ah), .second, .val (.long aw), .second, .val (.int amd), .val (.int x4), .val (.long j48_l6), .second, .val (.long j48_l8), .second, .val (.ref b32), .val (.int r66), .unset, .unset] [(.long j48_l6)])) (fun t k => XS.lload X40.here hx rfl (hb hby at_84) rfl k) ?_
      refine own_of (S' := T40.setTop (mkF m 87 #[.val (.long ah), .second, .val (.long aw), .second, .val (.int amd), .val (.int x4), .val (.long j48_l6), .second, .val (.long j48_l8), .second, .val (.ref b32), .val (.int r66), .unset, .unset] [(.long (0 : Int64)), (.long j48_l6)])) (fun t k => XS.lconst X40.here hx rfl (hb hby at_86) k) ?_
      refine own_of (S' := T40.setTop (mkF m 88 #[.val (.long ah), .second, .val (.long aw), .second, .val (.int amd), .val (.int x4), .val (.long j48_l6), .second, .val (.long j48_l8), .second, .val (.ref b32), .val (.int r66), .unset, .unset] [(.int (lcmpW j48_l6 (0 : Int64)))])) (fun t k => XS.lcmp X40.here hx rfl (hb hby at_87) rfl k) ?_
      by_cases hc88 : j48_l6 < (0 : Int64)
      · refine own_of (S' := T40.setTop (mkF m 91 #[.val (.long ah), .second, .val (.long aw), .second, .val (.int amd), .val (.int x4), .val (.long j48_l6), .second, .val (.long j48_l8), .second, .val (.ref b32), .val (.int r66), .unset, .unset] [])) (fun t k => XS.ifNo X40.here hx rfl (hb hby at_88) rfl ((if0 _ _).trans (tlt ((lw_lt j48_l6 (0 : Int64)).mpr hc88)).2.1) k) ?_
        refine own_of (S' := T40.setTop (mkF m 92 #[.val (.long ah), .second, .val (.long aw), .second, .val (.int amd), .val (.int x4), .val (.long j48_l6), .second, .val (.long j48_l8), .second, .val (.ref b32), .val (.int r66), .unset, .unset] [(.int (-1 : Int32))])) (fun t k => XS.iconst X40.here hx rfl (hb hby at_91) k) ?_
        refine own_of (S' := T40.setTop (mkF m 94 #[.val (.long ah), .second, .val (.long aw), .second, .val (.int amd), .val (.int x4), .val (.long j48_l6), .second, .val (.long j48_l8), .second, .val (.ref b32), .val (.int r66), .val (.int (-1 : Int32)), .unset] [])) (fun t k => XS.istore X40.here hx rfl (hb hby at_92) rfl (l' := #[.val (.long ah), .second, .val (.long aw), .second, .val (.int amd), .val (.int x4), .val (.long j48_l6), .second, .val (.long j48_l8), .second, .val (.ref b32), .val (.int r66), .val (.int (-1 : Int32)), .unset]) rfl k) ?_
        refine own_of (S' := T40.setTop (mkF m 113 #[.val (.long ah), .second, .val (.long aw), .second, .val (.int amd), .val (.int x4), .val (.long j48_l6), .second, .val (.long j48_l8), .second, .val (.ref b32), .val (.int r66), .val (.int (-1 : Int32)), .unset] [])) (fun t k => XS.goto X40.here hx rfl (pc0 := 94) (pc' := 113) rfl (hb hby at_94) (by decide) (by decide) k) ?_
        have jw46 : j113_l12 = ((-1 : Int32) : Int32) := qj113_l12.trans ((if_neg hc75).trans (if_pos hc88))
        rw [jw46] at k44
        exact k44 T40 _ X40 N40 eh40
      · refine own_of (S' := T40.setTop (mkF m 97 #[.val (.long ah), .second, .val (.long aw), .second, .val (.int amd), .val (.int x4), .val (.long j48_l6), .second, .val (.long j48_l8), .second, .val (.ref b32), .val (.int r66), .unset, .unset] [])) (fun t k => XS.ifYes X40.here hx rfl (pc0 := 88) (pc' := 97) rfl (hb hby at_88) rfl ((if0 _ _).trans (flt (fun q => hc88 ((lw_lt j48_l6 (0 : Int64)).mp q))).2.1) (by decide) (by decide) k) ?_
        refine own_of (S' := T40.setTop (mkF m 99 #[.val (.long ah), .second, .val (.long aw), .second, .val (.int amd), .val (.int x4), .val (.long j48_l6), .second, .val (.long j48_l8), .second, .val (.ref b32), .val (.int r66), .unset, .unset] [(.long j48_l8)])) (fun t k => XS.lload X40.here hx rfl (hb hby at_97) rfl k) ?_
        refine own_of (S' := T40.setTop (mkF m 100 #[.val (.long ah), .second, .val (.long aw), .second, .val (.int amd), .val (.int x4), .val (.long j48_l6), .second, .val (.long j48_l8), .second, .val (.ref b32), .val (.int r66), .unset, .unset] [(.long (0 : Int64)), (.long j48_l8)])) (fun t k => XS.lconst X40.here hx rfl (hb hby at_99) k) ?_
        refine own_of (S' := T40.setTop (mkF m 101 #[.val (.long ah), .second, .val (.long aw), .second, .val (.int amd), .val (.int x4), .val (.long j48_l6), .second, .val (.long j48_l8), .second, .val (.ref b32), .val (.int r66), .unset, .unset] [(.int (lcmpW j48_l8 (0 : Int64)))])) (fun t k => XS.lcmp X40.here hx rfl (hb hby at_100) rfl k) ?_
        by_cases hc101 : j48_l8 = (0 : Int64)
        · refine own_of (S' := T40.setTop (mkF m 104 #[.val (.long ah), .second, .val (.long aw), .second, .val (.int amd), .val (.int x4), .val (.long j48_l6), .second, .val (.long j48_l8), .second, .val (.ref b32), .val (.int r66), .unset, .unset] [])) (fun t k => XS.ifNo X40.here hx rfl (hb hby at_101) rfl ((if0 _ _).trans (teq ((lw_eq j48_l8 (0 : Int64)).mpr hc101)).2) k) ?_
          refine own_of (S' := T40.setTop (mkF m 105 #[.val (.long ah), .second, .val (.long aw), .second, .val (.int amd), .val (.int x4), .val (.long j48_l6), .second, .val (.long j48_l8), .second, .val (.ref b32), .val (.int r66), .unset, .unset] [(.int (0 : Int32))])) (fun t k => XS.iconst X40.here hx rfl (hb hby at_104) k) ?_
          refine own_of (S' := T40.setTop (mkF m 107 #[.val (.long ah), .second, .val (.long aw), .second, .val (.int amd), .val (.int x4), .val (.long j48_l6), .second, .val (.long j48_l8), .second, .val (.ref b32), .val (.int r66), .val (.int (0 : Int32)), .unset] [])) (fun t k => XS.istore X40.here hx rfl (hb hby at_105) rfl (l' := #[.val (.long ah), .second, .val (.long aw), .second, .val (.int amd), .val (.int x4), .val (.long j48_l6), .second, .val (.long j48_l8), .second, .val (.ref b32), .val (.int r66), .val (.int (0 : Int32)), .unset]) rfl k) ?_
          refine own_of (S' := T40.setTop (mkF m 113 #[.val (.long ah), .second, .val (.long aw), .second, .val (.int amd), .val (.int x4), .val (.long j48_l6), .second, .val (.long j48_l8), .second, .val (.ref b32), .val (.int r66), .val (.int (0 : Int32)), .unset] [])) (fun t k => XS.goto X40.here hx rfl (pc0 := 107) (pc' := 113) rfl (hb hby at_107) (by decide) (by decide) k) ?_
          have jw47 : j113_l12 = ((0 : Int32) : Int32) := qj113_l12.trans ((if_neg hc75).trans ((if_neg hc88).trans (if_pos hc101)))
          rw [jw47] at k44
          exact k44 T40 _ X40 N40 eh40
        · refine own_of (S' := T40.setTop (mkF m 110 #[.val (.long ah), .second, .val (.long aw), .second, .val (.int amd), .val (.int x4), .val (.long j48_l6), .second, .val (.long j48_l8), .second, .val (.ref b32), .val (.int r66), .unset, .unset] [])) (fun t k => XS.ifYes X40.here hx rfl (pc0 := 101) (pc' := 110) rfl (hb hby at_101) rfl ((if0 _ _).trans (feq (fun q => hc101 ((lw_eq j48_l8 (0 : Int64)).mp q))).2) (by decide) (by decide) k) ?_
          refine own_of (S' := T40.setTop (mkF m 111 #[.val (.long ah), .second, .val (.long aw), .second, .val (.int amd), .val (.int x4), .val (.long j48_l6), .second, .val (.long j48_l8), .second, .val (.ref b32), .val (.int r66), .unset, .unset] [(.int (1 : Int32))])) (fun t k => XS.iconst X40.here hx rfl (hb hby at_110) k) ?_
          refine own_of (S' := T40.setTop (mkF m 113 #[.val (.long ah), .second, .val (.long aw), .second, .val (.int amd), .val (.int x4), .val (.long j48_l6), .second, .val (.long j48_l8), .second, .val (.ref b32), .val (.int r66), .val (.int (1 : Int32)), .unset] [])) (fun t k => XS.istore X40.here hx rfl (hb hby at_111) rfl (l' := #[.val (.long ah), .second, .val (.long aw), .second, .val (.int amd), .val (.int x4), .val (.long j48_l6), .second, .val (.long j48_l8), .second, .val (.ref b32), .val (.int r66), .val (.int (1 : Int32)), .unset]) rfl k) ?_
          have jw48 : j113_l12 = ((1 : Int32) : Int32) := qj113_l12.trans ((if_neg hc75).trans ((if_neg hc88).trans (if_neg hc101)))
          rw [jw48] at k44
          exact k44 T40 _ X40 N40 eh40
  intro T44 locs44 X44 N44 e44
  refine own_of (S' := T44.setTop (mkF m 115 #[.val (.long ah), .second, .val (.long aw), .second, .val (.int amd), .val (.int x4), .val (.long j48_l6), .second, .val (.long j48_l8), .second, .val (.ref b32), .val (.int r66), .val (.int j113_l12), .unset] [(.int x4)])) (fun t k => XS.iload X44.here hx rfl (hb hby at_113) rfl k) ?_
  refine own_of (S' := T44.setTop (mkF m 116 #[.val (.long ah), .second, .val (.long aw), .second, .val (.int amd), .val (.int x4), .val (.long j48_l6), .second, .val (.long j48_l8), .second, .val (.ref b32), .val (.int r66), .val (.int j113_l12), .unset] [(.int (2 : Int32)), (.int x4)])) (fun t k => XS.iconst X44.here hx rfl (hb hby at_115) k) ?_
  by_cases hc116 : x4 = (2 : Int32)
  · refine own_of (S' := T44.setTop (mkF m 119 #[.val (.long ah), .second, .val (.long aw), .second, .val (.int amd), .val (.int x4), .val (.long j48_l6), .second, .val (.long j48_l8), .second, .val (.ref b32), .val (.int r66), .val (.int j113_l12), .unset] [])) (fun t k => XS.icmpNo X44.here hx rfl (hb hby at_116) rfl (teq hc116).2 k) ?_
    refine own_of (S' := T44.setTop (mkF m 120 #[.val (.long ah), .second, .val (.long aw), .second, .val (.int amd), .val (.int x4), .val (.long j48_l6), .second, .val (.long j48_l8), .second, .val (.ref b32), .val (.int r66), .val (.int j113_l12), .unset] [(.long aw)])) (fun t k => XS.lloadN X44.here hx rfl (hb hby at_119) rfl k) ?_
    refine own_of (S' := T44.setTop (mkF m 121 #[.val (.long ah), .second, .val (.long aw), .second, .val (.int amd), .val (.int x4), .val (.long j48_l6), .second, .val (.long j48_l8), .second, .val (.ref b32), .val (.int r66), .val (.int j113_l12), .unset] [(.long (0 : Int64)), (.long aw)])) (fun t k => XS.lconst X44.here hx rfl (hb hby at_120) k) ?_
    refine own_of (S' := T44.setTop (mkF m 122 #[.val (.long ah), .second, .val (.long aw), .second, .val (.int amd), .val (.int x4), .val (.long j48_l6), .second, .val (.long j48_l8), .second, .val (.ref b32), .val (.int r66), .val (.int j113_l12), .unset] [(.int (lcmpW aw (0 : Int64)))])) (fun t k => XS.lcmp X44.here hx rfl (hb hby at_121) rfl k) ?_
    obtain ⟨j140_s0, qj140_s0⟩ : ∃ z : Int32, z = (if aw < (0 : Int64) then (-1 : Int32) else (if aw = (0 : Int64) then (0 : Int32) else (1 : Int32))) := ⟨_, rfl⟩
    suffices k52 : ∀ (T' : State) (locs' : List Loc), Stand p l e room_1 s m #[(.long ah), (.long aw), (.int amd)] below meth c T' locs' 1 2 → Fr n0 locs' → T'.heap = T37.heap → own_Go p.tables e below G (T'.setTop (mkF m 140 #[.val (.long ah), .second, .val (.long aw), .second, .val (.int amd), .val (.int x4), .val (.long j48_l6), .second, .val (.long j48_l8), .second, .val (.ref b32), .val (.int r66), .val (.int j113_l12), .unset] [(.int j140_s0)])) by
      by_cases hc122 : aw < (0 : Int64)
      · refine own_of (S' := T44.setTop (mkF m 125 #[.val (.long ah), .second, .val (.long aw), .second, .val (.int amd), .val (.int x4), .val (.long j48_l6), .second, .val (.long j48_l8), .second, .val (.ref b32), .val (.int r66), .val (.int j113_l12), .unset] [])) (fun t k => XS.ifNo X44.here hx rfl (hb hby at_122) rfl ((if0 _ _).trans (tlt ((lw_lt aw (0 : Int64)).mpr hc122)).2.1) k) ?_
        refine own_of (S' := T44.setTop (mkF m 126 #[.val (.long ah), .second, .val (.long aw), .second, .val (.int amd), .val (.int x4), .val (.long j48_l6), .second, .val (.long j48_l8), .second, .val (.ref b32), .val (.int r66), .val (.int j113_l12), .unset] [(.int (-1 : Int32))])) (fun t k => XS.iconst X44.here hx rfl (hb hby at_125) k) ?_
        refine own_of (S' := T44.setTop (mkF m 140 #[.val (.long ah), .second, .val (.long aw), .second, .val (.int amd), .val (.int x4), .val (.long j48_l6), .second, .val (.long j48_l8), .second, .val (.ref b32), .val (.int r66), .val (.int j113_l12), .unset] [(.int (-1 : Int32))])) (fun t k => XS.goto X44.here hx rfl (pc0 := 126) (pc' := 140) rfl (hb hby at_126) (by decide) (by decide) k) ?_
        have jw53 : j140_s0 = ((-1 : Int32) : Int32) := qj140_s0.trans (if_pos hc122)
        rw [jw53] at k52
        exact k52 T44 _ X44 N44 e44
      · refine own_of (S' := T44.setTop (mkF m 129 #[.val (.long ah), .second, .val (.long aw), .second, .val (.int amd), .val (.int x4), .val (.long j48_l6), .second, .val (.long j48_l8), .second, .val (.ref b32), .val (.int r66), .val (.int j113_l12), .unset] [])) (fun t k => XS.ifYes X44.here hx rfl (pc0 := 122) (pc' := 129) rfl (hb hby at_122) rfl ((if0 _ _).trans (flt (fun q => hc122 ((lw_lt aw (0 : Int64)).mp q))).2.1) (by decide) (by decide) k) ?_
        refine own_of (S' := T44.setTop (mkF m 130 #[.val (.long ah), .second, .val (.long aw), .second, .val (.int amd), .val (.int x4), .val (.long j48_l6), .second, .val (.long j48_l8), .second, .val (.ref b32), .val (.int r66), .val (.int j113_l12), .unset] [(.long aw)])) (fun t k => XS.lloadN X44.here hx rfl (hb hby at_129) rfl k) ?_
        refine own_of (S' := T44.setTop (mkF m 131 #[.val (.long ah), .second, .val (.long aw), .second, .val (.int amd), .val (.int x4), .val (.long j48_l6), .second, .val (.long j48_l8), .second, .val (.ref b32), .val (.int r66), .val (.int j113_l12), .unset] [(.long (0 : Int64)), (.long aw)])) (fun t k => XS.lconst X44.here hx rfl (hb hby at_130) k) ?_
        refine own_of (S' := T44.setTop (mkF m 132 #[.val (.long ah), .second, .val (.long aw), .second, .val (.int amd), .val (.int x4), .val (.long j48_l6), .second, .val (.long j48_l8), .second, .val (.ref b32), .val (.int r66), .val (.int j113_l12), .unset] [(.int (lcmpW aw (0 : Int64)))])) (fun t k => XS.lcmp X44.here hx rfl (hb hby at_131) rfl k) ?_
        by_cases hc132 : aw = (0 : Int64)
        · refine own_of (S' := T44.setTop (mkF m 135 #[.val (.long ah), .second, .val (.long aw), .second, .val (.int amd), .val (.int x4), .val (.long j48_l6), .second, .val (.long j48_l8), .second, .val (.ref b32), .val (.int r66), .val (.int j113_l12), .unset] [])) (fun t k => XS.ifNo X44.here hx rfl (hb hby at_132) rfl ((if0 _ _).trans (teq ((lw_eq aw (0 : Int64)).mpr hc132)).2) k) ?_
          refine own_of (S' := T44.setTop (mkF m 136 #[.val (.long ah), .second, .val (.long aw), .second, .val (.int amd), .val (.int x4), .val (.long j48_l6), .second, .val (.long j48_l8), .second, .val (.ref b32), .val (.int r66), .val (.int j113_l12), .unset] [(.int (0 : Int32))])) (fun t k => XS.iconst X44.here hx rfl (hb hby at_135) k) ?_
          refine own_of (S' := T44.setTop (mkF m 140 #[.val (.long ah), .second, .val (.long aw), .second, .val (.int amd), .val (.int x4), .val (.long j48_l6), .second, .val (.long j48_l8), .second, .val (.ref b32), .val (.int r66), .val (.int j113_l12), .unset] [(.int (0 : Int32))])) (fun t k => XS.goto X44.here hx rfl (pc0 := 136) (pc' := 140) rfl (hb hby at_136) (by decide) (by decide) k) ?_
          have jw54 : j140_s0 = ((0 : Int32) : Int32) := qj140_s0.trans ((if_neg hc122).trans (if_pos hc132))
          rw [jw54] at k52
          exact k52 T44 _ X44 N44 e44
        · refine own_of (S' := T44.setTop (mkF m 139 #[.val (.long ah), .second, .val (.long aw), .second, .val (.int amd), .val (.int x4), .val (.long j48_l6), .second, .val (.long j48_l8), .second, .val (.ref b32), .val (.int r66), .val (.int j113_l12), .unset] [])) (fun t k => XS.ifYes X44.here hx rfl (pc0 := 132) (pc' := 139) rfl (hb hby at_132) rfl ((if0 _ _).trans (feq (fun q => hc132 ((lw_eq aw (0 : Int64)).mp q))).2) (by decide) (by decide) k) ?_
          refine own_of (S' := T44.setTop (mkF m 140 #[.val (.long ah), .second, .val (.long aw), .second, .val (.int amd), .val (.int x4), .val (.long j48_l6), .second, .val (.long j48_l8), .second, .val (.ref b32), .val (.int r66), .val (.int j113_l12), .unset] [(.int (1 : Int32))])) (fun t k => XS.iconst X44.here hx rfl (hb hby at_139) k) ?_
          have jw55 : j140_s0 = ((1 : Int32) : Int32) := qj140_s0.trans ((if_neg hc122).trans (if_neg hc132))
          rw [jw55] at k52
          exact k52 T44 _ X44 N44 e44
    intro T52 locs52 X52 N52 e52
    refine own_of (S' := T52.setTop (mkF m 142 #[.val (.long ah), .second, .val (.long aw), .second, .val (.int amd), .val (.int x4), .val (.long j48_l6), .second, .val (.long j48_l8), .second, .val (.ref b32), .val (.int r66), .val (.int j113_l12), .val (.int j140_s0)] [])) (fun t k => XS.istore X52.here hx rfl (hb hby at_140) rfl (l' := #[.val (.long ah), .second, .val (.long aw), .second, .val (.int amd), .val (.int x4), .val (.long j48_l6), .second, .val (.long j48_l8), .second, .val (.ref b32), .val (.int r66), .val (.int j113_l12), .val (.int j140_s0)]) rfl k) ?_
    refine own_of (S' := T52.setTop (mkF m 144 #[.val (.long ah), .second, .val (.long aw), .second, .val (.int amd), .val (.int x4), .val (.long j48_l6), .second, .val (.long j48_l8), .second, .val (.ref b32), .val (.int r66), .val (.int j113_l12), .val (.int j140_s0)] [(.int r66)])) (fun t k => XS.iload X52.here hx rfl (hb hby at_142) rfl k) ?_
    refine own_of (S' := T52.setTop (mkF m 146 #[.val (.long ah), .second, .val (.long aw), .second, .val (.int amd), .val (.int x4), .val (.long j48_l6), .second, .val (.long j48_l8), .second, .val (.ref b32), .val (.int r66), .val (.int j113_l12), .val (.int j140_s0)] [(.int j140_s0), (.int r66)])) (fun t k => XS.iload X52.here hx rfl (hb hby at_144) rfl k) ?_
    have hc146 : r66 = j140_s0 := by rw [qj140_s0, ← q66, show j48_l6 = (aw >>> ((63 : Int32) &&& 0x3f).toInt64) from by rw [qj48_l6, if_neg (by rw [hc116]; decide), if_pos hc116], show j48_l8 = aw from by rw [qj48_l8, if_neg (by rw [hc116]; decide), if_pos hc116]]; exact own_p2 aw
    refine own_of (S' := T52.setTop (mkF m 151 #[.val (.long ah), .second, .val (.long aw), .second, .val (.int amd), .val (.int x4), .val (.long j48_l6), .second, .val (.long j48_l8), .second, .val (.ref b32), .val (.int r66), .val (.int j113_l12), .val (.int j140_s0)] [])) (fun t k => XS.icmpYes X52.here hx rfl (pc0 := 146) (pc' := 151) rfl (hb hby at_146) rfl (teq hc146).1 (by decide) (by decide) k) ?_
    refine own_of (S' := T52.setTop (mkF m 153 #[.val (.long ah), .second, .val (.long aw), .second, .val (.int amd), .val (.int x4), .val (.long j48_l6), .second, .val (.long j48_l8), .second, .val (.ref b32), .val (.int r66), .val (.int j113_l12), .val (.int j140_s0)] [(.int r66)])) (fun t k => XS.iload X52.here hx rfl (hb hby at_151) rfl k) ?_
    refine own_of (S' := T52.setTop (mkF m 155 #[.val (.long ah), .second, .val (.long aw), .second, .val (.int amd), .val (.int x4), .val (.long j48_l6), .second, .val (.long j48_l8), .second, .val (.ref b32), .val (.int r66), .val (.int j113_l12), .val (.int j140_s0)] [(.int j113_l12), (.int r66)])) (fun t k => XS.iload X52.here hx rfl (hb hby at_153) rfl k) ?_
    have hc155 : r66 = j113_l12 := by rw [qj113_l12, ← q66]; exact own_p1 _ _
    refine own_of (S' := T52.setTop (mkF m 158 #[.val (.long ah), .second, .val (.long aw), .second, .val (.int amd), .val (.int x4), .val (.long j48_l6), .second, .val (.long j48_l8), .second, .val (.ref b32), .val (.int r66), .val (.int j113_l12), .val (.int j140_s0)] [])) (fun t k => XS.icmpNo X52.here hx rfl (hb hby at_155) rfl (teq hc155).2 k) ?_
    refine own_of (S' := T52.setTop (mkF m 160 #[.val (.long ah), .second, .val (.long aw), .second, .val (.int amd), .val (.int x4), .val (.long j48_l6), .second, .val (.long j48_l8), .second, .val (.ref b32), .val (.int r66), .val (.int j113_l12), .val (.int j140_s0)] [(.ref b32)])) (fun t k => XS.aload X52.here hx rfl (hb hby at_158) rfl rfl k) ?_
    obtain ⟨cq58, kq58, q58a, q58b, q58c⟩ := isOf hZ e52 p37_0
    obtain ⟨_, _, ⟨T58, L58, k58, n58⟩, -, X58, ⟨Lc58, hQ58, l58, y58, z58⟩, st58⟩ := X52.virtualBack hx (y := (⟨"com/example/crisp_window/crispwindow/window/Int128", "high", "()J"⟩ : MethodName)) (z := (⟨"com/example/crisp_window/crispwindow/window/Int128", "high", "()J"⟩ : MethodName)) hown (mvT hZ (hw _ (List.mem_of_getElem? (i := 23) rfl))) (mvT hZ (hw _ (List.mem_of_getElem? (i := 24) rfl))) (notFace_of_selects (args := #[]) (mvT hZ (hw _ (List.mem_of_getElem? (i := 26) rfl)))) (mvT hZ (hw _ (List.mem_of_getElem? (i := 26) rfl))) (mvT hZ (hw _ (List.mem_of_getElem? (i := 25) rfl))) (by decide) (backOf (W := 0) (own_rm4 l Z _ hw [] b32 j48_l6 T37.heap n0 p37_1) hZ (hw _ (List.mem_of_getElem? (i := 27) rfl)) (hw _ (List.mem_of_getElem? (i := 2) rfl)) (by decide) (by decide)) q58a q58c (g := (mkF m 160 #[.val (.long ah), .second, .val (.long aw), .second, .val (.int amd), .val (.int x4), .val (.long j48_l6), .second, .val (.long j48_l8), .second, .val (.ref b32), .val (.int r66), .val (.int j113_l12), .val (.int j140_s0)] [(.ref b32)])) rfl (by rw [hml]; rfl) (Steps.refl _) (argsL := []) (rest := []) (lenOf own_pd3 rfl) rfl (by show 2 * 0 + _ ≤ _; exact Nat.le_of_eq rfl) (hb hby at_160) (fun _ _ => ⟨rfl, e52, (by decide : 1 + 0 ≤ _), (by decide : 2 + 0 ≤ _)⟩)
    dsimp only [Pt.U, Pt.locs, Pt.cells, Pt.slots] at X58 l58 y58 z58 st58 hQ58
    subst l58 y58 z58
    obtain ⟨rfl, M58, eh58⟩ := hQ58
    have N58 := Fr.app N52 M58
    refine own_of (S' := T58.setTop (mkF m 163 #[.val (.long ah), .second, .val (.long aw), .second, .val (.int amd), .val (.int x4), .val (.long j48_l6), .second, .val (.long j48_l8), .second, .val (.ref b32), .val (.int r66), .val (.int j113_l12), .val (.int j140_s0)] [(.long j48_l6)])) (fun t k => st58.trans k) ?_
    refine own_of (S' := T58.setTop (mkF m 165 #[.val (.long ah), .second, .val (.long aw), .second, .val (.int amd), .val (.int x4), .val (.long j48_l6), .second, .val (.long j48_l8), .second, .val (.ref b32), .val (.int r66), .val (.int j113_l12), .val (.int j140_s0)] [(.long j48_l6), (.long j48_l6)])) (fun t k => XS.lload X58.here hx rfl (hb hby at_163) rfl k) ?_
    refine own_of (S' := T58.setTop (mkF m 166 #[.val (.long ah), .second, .val (.long aw), .second, .val (.int amd), .val (.int x4), .val (.long j48_l6), .second, .val (.long j48_l8), .second, .val (.ref b32), .val (.int r66), .val (.int j113_l12), .val (.int j140_s0)] [(.int (lcmpW j48_l6 j48_l6))])) (fun t k => XS.lcmp X58.here hx rfl (hb hby at_165) rfl k) ?_
    have hc166 : j48_l6 = j48_l6 := by rfl
    refine own_of (S' := T58.setTop (mkF m 169 #[.val (.long ah), .second, .val (.long aw), .second, .val (.int amd), .val (.int x4), .val (.long j48_l6), .second, .val (.long j48_l8), .second, .val (.ref b32), .val (.int r66), .val (.int j113_l12), .val (.int j140_s0)] [])) (fun t k => XS.ifNo X58.here hx rfl (hb hby at_166) rfl ((if0 _ _).trans (teq ((lw_eq j48_l6 j48_l6).mpr hc166)).2) k) ?_
    refine own_of (S' := T58.setTop (mkF m 171 #[.val (.long ah), .second, .val (.long aw), .second, .val (.int amd), .val (.int x4), .val (.long j48_l6), .second, .val (.long j48_l8), .second, .val (.ref b32), .val (.int r66), .val (.int j113_l12), .val (.int j140_s0)] [(.ref b32)])) (fun t k => XS.aload X58.here hx rfl (hb hby at_169) rfl rfl k) ?_
    obtain ⟨cq60, kq60, q60a, q60b, q60c⟩ := isOf hZ eh58 p37_0
    obtain ⟨_, _, ⟨T60, L60, k60, n60⟩, -, X60, ⟨Lc60, hQ60, l60, y60, z60⟩, st60⟩ := X58.virtualBack hx (y := (⟨"com/example/crisp_window/crispwindow/window/Int128", "low", "()J"⟩ : MethodName)) (z := (⟨"com/example/crisp_window/crispwindow/window/Int128", "low", "()J"⟩ : MethodName)) hown (mvT hZ (hw _ (List.mem_of_getElem? (i := 28) rfl))) (mvT hZ (hw _ (List.mem_of_getElem? (i := 29) rfl))) (notFace_of_selects (args := #[]) (mvT hZ (hw _ (List.mem_of_getElem? (i := 31) rfl)))) (mvT hZ (hw _ (List.mem_of_getElem? (i := 31) rfl))) (mvT hZ (hw _ (List.mem_of_getElem? (i := 30) rfl))) (by decide) (backOf (W := 0) (own_rm5 l Z _ hw [] b32 j48_l8 T37.heap n0 p37_2) hZ (hw _ (List.mem_of_getElem? (i := 32) rfl)) (hw _ (List.mem_of_getElem? (i := 2) rfl)) (by decide) (by decide)) q60a q60c (g := (mkF m 171 #[.val (.long ah), .second, .val (.long aw), .second, .val (.int amd), .val (.int x4), .val (.long j48_l6), .second, .val (.long j48_l8), .second, .val (.ref b32), .val (.int r66), .val (.int j113_l12), .val (.int j140_s0)] [(.ref b32)])) rfl (by rw [hml]; rfl) (Steps.refl _) (argsL := []) (rest := []) (lenOf own_pd3 rfl) rfl (by show 2 * 0 + _ ≤ _; exact Nat.le_of_eq rfl) (hb hby at_171) (fun _ _ => ⟨rfl, eh58, (by decide : 1 + 0 ≤ _), (by decide : 2 + 0 ≤ _)⟩)
    dsimp only [Pt.U, Pt.locs, Pt.cells, Pt.slots] at X60 l60 y60 z60 st60 hQ60
    subst l60 y60 z60
    obtain ⟨rfl, M60, eh60⟩ := hQ60
    have N60 := Fr.app N58 M60
    refine own_of (S' := T60.setTop (mkF m 174 #[.val (.long ah), .second, .val (.long aw), .second, .val (.int amd), .val (.int x4), .val (.long j48_l6), .second, .val (.long j48_l8), .second, .val (.ref b32), .val (.int r66), .val (.int j113_l12), .val (.int j140_s0)] [(.long j48_l8)])) (fun t k => st60.trans k) ?_
    refine own_of (S' := T60.setTop (mkF m 176 #[.val (.long ah), .second, .val (.long aw), .second, .val (.int amd), .val (.int x4), .val (.long j48_l6), .second, .val (.long j48_l8), .second, .val (.ref b32), .val (.int r66), .val (.int j113_l12), .val (.int j140_s0)] [(.long j48_l8), (.long j48_l8)])) (fun t k => XS.lload X60.here hx rfl (hb hby at_174) rfl k) ?_
    refine own_of (S' := T60.setTop (mkF m 177 #[.val (.long ah), .second, .val (.long aw), .second, .val (.int amd), .val (.int x4), .val (.long j48_l6), .second, .val (.long j48_l8), .second, .val (.ref b32), .val (.int r66), .val (.int j113_l12), .val (.int j140_s0)] [(.int (lcmpW j48_l8 j48_l8))])) (fun t k => XS.lcmp X60.here hx rfl (hb hby at_176) rfl k) ?_
    have hc177 : j48_l8 = j48_l8 := by rfl
    refine own_of (S' := T60.setTop (mkF m 180 #[.val (.long ah), .second, .val (.long aw), .second, .val (.int amd), .val (.int x4), .val (.long j48_l6), .second, .val (.long j48_l8), .second, .val (.ref b32), .val (.int r66), .val (.int j113_l12), .val (.int j140_s0)] [])) (fun t k => XS.ifNo X60.here hx rfl (hb hby at_177) rfl ((if0 _ _).trans (teq ((lw_eq j48_l8 j48_l8).mpr hc177)).2) k) ?_
    refine own_of (S' := T60.setTop (mkF m 181 #[.val (.long ah), .second, .val (.long aw), .second, .val (.int amd), .val (.int x4), .val (.long j48_l6), .second, .val (.long j48_l8), .second, .val (.ref b32), .val (.int r66), .val (.int j113_l12), .val (.int j140_s0)] [(.int (1 : Int32))])) (fun t k => XS.iconst X60.here hx rfl (hb hby at_180) k) ?_
    refine own_of (S' := T60.setTop (mkF m 185 #[.val (.long ah), .second, .val (.long aw), .second, .val (.int amd), .val (.int x4), .val (.long j48_l6), .second, .val (.long j48_l8), .second, .val (.ref b32), .val (.int r66), .val (.int j113_l12), .val (.int j140_s0)] [(.int (1 : Int32))])) (fun t k => XS.goto X60.here hx rfl (pc0 := 181) (pc' := 185) rfl (hb hby at_181) (by decide) (by decide) k) ?_
    obtain ⟨fs, hr, hrun, hended, hW, hsame⟩ := X60.leave (v := some (.int (nar .boolean (1 : Int32)))) (fun h => by rw [Bd.returns] at h; cases h)
    refine ⟨_, _, retN X60 hx (t := .boolean) Bd.returns (by simp) (hb hby at_185) hr, hrun, hended, hG _ _ ⟨_, _, rfl, ?_, ⟨_, rfl⟩, hW, hsame.mono (by decide) (by decide)⟩⟩
    show own_Q0 Z ah aw amd h0 n0 _ T60.heap _
    rw [eh60]
    exact ⟨rfl, N60⟩
  · refine own_of (S' := T44.setTop (mkF m 151 #[.val (.long ah), .second, .val (.long aw), .second, .val (.int amd), .val (.int x4), .val (.long j48_l6), .second, .val (.long j48_l8), .second, .val (.ref b32), .val (.int r66), .val (.int j113_l12), .unset] [])) (fun t k => XS.icmpYes X44.here hx rfl (pc0 := 116) (pc' := 151) rfl (hb hby at_116) rfl (feq hc116).2 (by decide) (by decide) k) ?_
    refine own_of (S' := T44.setTop (mkF m 153 #[.val (.long ah), .second, .val (.long aw), .second, .val (.int amd), .val (.int x4), .val (.long j48_l6), .second, .val (.long j48_l8), .second, .val (.ref b32), .val (.int r66), .val (.int j113_l12), .unset] [(.int r66)])) (fun t k => XS.iload X44.here hx rfl (hb hby at_151) rfl k) ?_
    refine own_of (S' := T44.setTop (mkF m 155 #[.val (.long ah), .second, .val (.long aw), .second, .val (.int amd), .val (.int x4), .val (.long j48_l6), .second, .val (.long j48_l8), .second, .val (.ref b32), .val (.int r66), .val (.int j113_l12), .unset] [(.int j113_l12), (.int r66)])) (fun t k => XS.iload X44.here hx rfl (hb hby at_153) rfl k) ?_
    have hc155 : r66 = j113_l12 := by rw [qj113_l12, ← q66]; exact own_p1 _ _
    refine own_of (S' := T44.setTop (mkF m 158 #[.val (.long ah), .second, .val (.long aw), .second, .val (.int amd), .val (.int x4), .val (.long j48_l6), .second, .val (.long j48_l8), .second, .val (.ref b32), .val (.int r66), .val (.int j113_l12), .unset] [])) (fun t k => XS.icmpNo X44.here hx rfl (hb hby at_155) rfl (teq hc155).2 k) ?_
    refine own_of (S' := T44.setTop (mkF m 160 #[.val (.long ah), .second, .val (.long aw), .second, .val (.int amd), .val (.int x4), .val (.long j48_l6), .second, .val (.long j48_l8), .second, .val (.ref b32), .val (.int r66), .val (.int j113_l12), .unset] [(.ref b32)])) (fun t k => XS.aload X44.here hx rfl (hb hby at_158) rfl rfl k) ?_
    obtain ⟨cq63, kq63, q63a, q63b, q63c⟩ := isOf hZ e44 p37_0
    obtain ⟨_, _, ⟨T63, L63, k63, n63⟩, -, X63, ⟨Lc63, hQ63, l63, y63, z63⟩, st63⟩ := X44.virtualBack hx (y := (⟨"com/example/crisp_window/crispwindow/window/Int128", "high", "()J"⟩ : MethodName)) (z := (⟨"com/example/crisp_window/crispwindow/window/Int128", "high", "()J"⟩ : MethodName)) hown (mvT hZ (hw _ (List.mem_of_getElem? (i := 23) rfl))) (mvT hZ (hw _ (List.mem_of_getElem? (i := 24) rfl))) (notFace_of_selects (args := #[]) (mvT hZ (hw _ (List.mem_of_getElem? (i := 26) rfl)))) (mvT hZ (hw _ (List.mem_of_getElem? (i := 26) rfl))) (mvT hZ (hw _ (List.mem_of_getElem? (i := 25) rfl))) (by decide) (backOf (W := 0) (own_rm4 l Z _ hw [] b32 j48_l6 T37.heap n0 p37_1) hZ (hw _ (List.mem_of_getElem? (i := 27) rfl)) (hw _ (List.mem_of_getElem? (i := 2) rfl)) (by decide) (by decide)) q63a q63c (g := (mkF m 160 #[.val (.long ah), .second, .val (.long aw), .second, .val (.int amd), .val (.int x4), .val (.long j48_l6), .second, .val (.long j48_l8), .second, .val (.ref b32), .val (.int r66), .val (.int j113_l12), .unset] [(.ref b32)])) rfl (by rw [hml]; rfl) (Steps.refl _) (argsL := []) (rest := []) (lenOf own_pd3 rfl) rfl (by show 2 * 0 + _ ≤ _; exact Nat.le_of_eq rfl) (hb hby at_160) (fun _ _ => ⟨rfl, e44, (by decide : 1 + 0 ≤ _), (by decide : 2 + 0 ≤ _)⟩)
    dsimp only [Pt.U, Pt.locs, Pt.cells, Pt.slots] at X63 l63 y63 z63 st63 hQ63
    subst l63 y63 z63
    obtain ⟨rfl, M63, eh63⟩ := hQ63
    have N63 := Fr.app N44 M63
    refine own_of (S' := T63.setTop (mkF m 163 #[.val (.long ah), .second, .val (.long aw), .second, .val (.int amd), .val (.int x4), .val (.long j48_l6), .second, .val (.long j48_l8), .second, .val (.ref b32), .val (.int r66), .val (.int j113_l12), .unset] [(.long j48_l6)])) (fun t k => st63.trans k) ?_
    refine own_of (S' := T63.setTop (mkF m 165 #[.val (.long ah), .second, .val (.long aw), .second, .val (.int amd), .val (.int x4), .val (.long j48_l6), .second, .val (.long j48_l8), .second, .val (.ref b32), .val (.int r66), .val (.int j113_l12), .unset] [(.long j48_l6), (.long j48_l6)])) (fun t k => XS.lload X63.here hx rfl (hb hby at_163) rfl k) ?_
    refine own_of (S' := T63.setTop (mkF m 166 #[.val (.long ah), .second, .val (.long aw), .second, .val (.int amd), .val (.int x4), .val (.long j48_l6), .second, .val (.long j48_l8), .second, .val (.ref b32), .val (.int r66), .val (.int j113_l12), .unset] [(.int (lcmpW j48_l6 j48_l6))])) (fun t k => XS.lcmp X63.here hx rfl (hb hby at_165) rfl k) ?_
    have hc166 : j48_l6 = j48_l6 := by rfl
    refine own_of (S' := T63.setTop (mkF m 169 #[.val (.long ah), .second, .val (.long aw), .second, .val (.int amd), .val (.int x4), .val (.long j48_l6), .second, .val (.long j48_l8), .second, .val (.ref b32), .val (.int r66), .val (.int j113_l12), .unset] [])) (fun t k => XS.ifNo X63.here hx rfl (hb hby at_166) rfl ((if0 _ _).trans (teq ((lw_eq j48_l6 j48_l6).mpr hc166)).2) k) ?_
    refine own_of (S' := T63.setTop (mkF m 171 #[.val (.long ah), .second, .val (.long aw), .second, .val (.int amd), .val (.int x4), .val (.long j48_l6), .second, .val (.long j48_l8), .second, .val (.ref b32), .val (.int r66), .val (.int j113_l12), .unset] [(.ref b32)])) (fun t k => XS.aload X63.here hx rfl (hb hby at_169) rfl rfl k) ?_
    obtain ⟨cq65, kq65, q65a, q65b, q65c⟩ := isOf hZ eh63 p37_0
    obtain ⟨_, _, ⟨T65, L65, k65, n65⟩, -, X65, ⟨Lc65, hQ65, l65, y65, z65⟩, st65⟩ := X63.virtualBack hx (y := (⟨"com/example/crisp_window/crispwindow/window/Int128", "low", "()J"⟩ : MethodName)) (z := (⟨"com/example/crisp_window/crispwindow/window/Int128", "low", "()J"⟩ : MethodName)) hown (mvT hZ (hw _ (List.mem_of_getElem? (i := 28) rfl))) (mvT hZ (hw _ (List.mem_of_getElem? (i := 29) rfl))) (notFace_of_selects (args := #[]) (mvT hZ (hw _ (List.mem_of_getElem? (i := 31) rfl)))) (mvT hZ (hw _ (List.mem_of_getElem? (i := 31) rfl))) (mvT hZ (hw _ (List.mem_of_getElem? (i := 30) rfl))) (by decide) (backOf (W := 0) (own_rm5 l Z _ hw [] b32 j48_l8 T37.heap n0 p37_2) hZ (hw _ (List.mem_of_getElem? (i := 32) rfl)) (hw _ (List.mem_of_getElem? (i := 2) rfl)) (by decide) (by decide)) q65a q65c (g := (mkF m 171 #[.val (.long ah), .second, .val (.long aw), .second, .val (.int amd), .val (.int x4), .val (.long j48_l6), .second, .val (.long j48_l8), .second, .val (.ref b32), .val (.int r66), .val (.int j113_l12), .unset] [(.ref b32)])) rfl (by rw [hml]; rfl) (Steps.refl _) (argsL := []) (rest := []) (lenOf own_pd3 rfl) rfl (by show 2 * 0 + _ ≤ _; exact Nat.le_of_eq rfl) (hb hby at_171) (fun _ _ => ⟨rfl, eh63, (by decide : 1 + 0 ≤ _), (by decide : 2 + 0 ≤ _)⟩)
    dsimp only [Pt.U, Pt.locs, Pt.cells, Pt.slots] at X65 l65 y65 z65 st65 hQ65
    subst l65 y65 z65
    obtain ⟨rfl, M65, eh65⟩ := hQ65
    have N65 := Fr.app N63 M65
    refine own_of (S' := T65.setTop (mkF m 174 #[.val (.long ah), .second, .val (.long aw), .second, .val (.int amd), .val (.int x4), .val (.long j48_l6), .second, .val (.long j48_l8), .second, .val (.ref b32), .val (.int r66), .val (.int j113_l12), .unset] [(.long j48_l8)])) (fun t k => st65.trans k) ?_
    refine own_of (S' := T65.setTop (mkF m 176 #[.val (.long ah), .second, .val (.long aw), .second, .val (.int amd), .val (.int x4), .val (.long j48_l6), .second, .val (.long j48_l8), .second, .val (.ref b32), .val (.int r66), .val (.int j113_l12), .unset] [(.long j48_l8), (.long j48_l8)])) (fun t k => XS.lload X65.here hx rfl (hb hby at_174) rfl k) ?_
    refine own_of (S' := T65.setTop (mkF m 177 #[.val (.long ah), .second, .val (.long aw), .second, .val (.int amd), .val (.int x4), .val (.long j48_l6), .second, .val (.long j48_l8), .second, .val (.ref b32), .val (.int r66), .val (.int j113_l12), .unset] [(.int (lcmpW j48_l8 j48_l8))])) (fun t k => XS.lcmp X65.here hx rfl (hb hby at_176) rfl k) ?_
    have hc177 : j48_l8 = j48_l8 := by rfl
    refine own_of (S' := T65.setTop (mkF m 180 #[.val (.long ah), .second, .val (.long aw), .second, .val (.int amd), .val (.int x4), .val (.long j48_l6), .second, .val (.long j48_l8), .second, .val (.ref b32), .val (.int r66), .val (.int j113_l12), .unset] [])) (fun t k => XS.ifNo X65.here hx rfl (hb hby at_177) rfl ((if0 _ _).trans (teq ((lw_eq j48_l8 j48_l8).mpr hc177)).2) k) ?_
    refine own_of (S' := T65.setTop (mkF m 181 #[.val (.long ah), .second, .val (.long aw), .second, .val (.int amd), .val (.int x4), .val (.long j48_l6), .second, .val (.long j48_l8), .second, .val (.ref b32), .val (.int r66), .val (.int j113_l12), .unset] [(.int (1 : Int32))])) (fun t k => XS.iconst X65.here hx rfl (hb hby at_180) k) ?_
    refine own_of (S' := T65.setTop (mkF m 185 #[.val (.long ah), .second, .val (.long aw), .second, .val (.int amd), .val (.int x4), .val (.long j48_l6), .second, .val (.long j48_l8), .second, .val (.ref b32), .val (.int r66), .val (.int j113_l12), .unset] [(.int (1 : Int32))])) (fun t k => XS.goto X65.here hx rfl (pc0 := 181) (pc' := 185) rfl (hb hby at_181) (by decide) (by decide) k) ?_
    obtain ⟨fs, hr, hrun, hended, hW, hsame⟩ := X65.leave (v := some (.int (nar .boolean (1 : Int32)))) (fun h => by rw [Bd.returns] at h; cases h)
    refine ⟨_, _, retN X65 hx (t := .boolean) Bd.returns (by simp) (hb hby at_185) hr, hrun, hended, hG _ _ ⟨_, _, rfl, ?_, ⟨_, rfl⟩, hW, hsame.mono (by decide) (by decide)⟩⟩
    show own_Q0 Z ah aw amd h0 n0 _ T65.heap _
    rw [eh65]
    exact ⟨rfl, N65⟩
set_option maxRecDepth 65536 in
set_option maxHeartbeats 40000000 in
theorem own_comes {Post : Tables → Env → Array Value → State → Outcome → State → Prop} (hpost : ∀ tb e args s v u, (limb_1_1.after args s (.returned v) u = true ∧ limb_1_2.after args s (.returned v) u = true ∧ True) → FrameEnd s (.returned v) u (Jvm.fieldLocs frame_1_writes args s ++ Jvm.arrayLocs frame_1_arrays args s ++ Jvm.staticLocs frame_1_statics s) 16 128 → Post tb e args s (.returned v) u) :
    ArmFor flags0 classFile x code maxLocals ret World_1 tables_1 room_1 Calls_1 rest_1 Pre_1 Post := by
  intro l hfl _ _ p e ha hc hk s m args below hf hA hF happ hP
  obtain ⟨hcalls, hrest, hpre⟩ := hP
  obtain ⟨-, -, -, hnamed, -, -, -, hat⟩ := (Spec.applies_iff hf).mp happ
  obtain ⟨hg, hn⟩ := and_e (Cond.before_iff.mp (show (Jvm.Cond.and given_1 narrow_1).before args s = true from hpre))
  obtain ⟨hcount, hg0⟩ := and_e hg
  obtain ⟨ha0, hg1⟩ := and_e hg0
  obtain ⟨ha1, hg2⟩ := and_e hg1
  obtain ⟨w0, w1, w2, rfl⟩ : ∃ w0 w1 w2 : Value, args = #[w0, w1, w2] := by
    have hs : args.size = 3 := by simpa [Cond.value, given_1] using hcount
    obtain ⟨L⟩ := args
    match L, hs with
    | [w0, w1, w2], _ => exact ⟨w0, w1, w2, rfl⟩
  have hw := fun d (hd : d ∈ tables_1) => atoms_spec (ws := Jvm.Cond.code x code maxLocals ret :: tables_1) hat d (List.mem_cons_of_mem _ hd)
  obtain ⟨i0, ei0⟩ := isL_v ha0
  obtain rfl : w0 = (.long i0) := Option.some.inj ei0
  obtain ⟨i1, ei1⟩ := isL_v ha1
  obtain rfl : w1 = (.long i1) := Option.some.inj ei1
  obtain ⟨i2, ei2⟩ := is_v hg2
  obtain rfl : w2 = (.int i2) := Option.some.inj ei2
  obtain ⟨n, o, h1, h2, h3, _, L, rfl, ⟨rfl, N⟩, hq⟩ := own_rm0 l s _ hw tables_1 i0 i1 i2 s.heap s.heap.size (Nat.le_refl _) p e ha hc hk s m _ below hf ((Spec.applies_iff_loose hf).mp happ).1 ⟨rfl, State.Warmed39.refl s, rfl⟩ trivial
  exact ⟨n, _, h1, h2, h3, hpost _ _ _ _ _ _ ⟨Cond.after_iff.mpr rfl, Cond.after_iff.mpr (eq_i res_at (Term.int_eval (1)) rfl), trivial⟩ ⟨hq.1, hq.2.1, (hq.2.2.sift fun y hy => Or.inr (N y hy)).mono (by decide) (by decide)⟩⟩
theorem main_1_1 : Claimed_1_1 := own_comes fun _ _ _ _ _ _ h hF => ⟨h.1, hF⟩
theorem main_1_2 : Claimed_1_2 := own_comes fun _ _ _ _ _ _ h hF => ⟨h.2.1, hF⟩
end Jvm.Pilot.@@N@@
namespace Jvm.Pilot.@@N@@
open Jvm Jvm.ClassFile Sem Op Lib Jvm.Free Jvm.Stand Jvm.Pilot.@@N@@.Jvm.D
/-! MADE BY PROGRAM (witnessworld.py) out of the Statement's table words and the real class files: 9 classes; the members and pool entries that the words name. The judged class is class 1, her method 1. -/
namespace start1
open Jvm.ClassFile
def u (s : String) : CpInfo := .utf8 (stringToUtf16 s)
/-- a pool by its gaps: so many unusable entries, then the entry; so many at the end -/
def gap : Nat → List CpInfo → List CpInfo
  | 0, r => r
  | n + 1, r => .unusable :: gap n r
def poolList (es : List (Nat × CpInfo)) (last : Nat) : List CpInfo := es.foldr (fun e r => gap e.1 (e.2 :: r)) (gap last [])
def pool (es : List (Nat × CpInfo)) (last : Nat) : Array CpInfo := ⟨poolList es last⟩
def fileOf (pool : Array CpInfo) (this : Nat) (attrs : Array Attribute := #[]) (ms : Array MethodInfo := #[]) (fl : Nat := 33) (sup : Nat := 0) (ifs : Array Nat := #[]) (fds : Array FieldInfo := #[]) : ClassFile where
  minorVersion := 0
  majorVersion := 65
  constantPool := pool
  accessFlags := fl
  thisClass := this
  superClass := sup
  interfaces := ifs
  fields := fds
  methods := ms
  attributes := attrs
def plain (name : String) (sup : Option ClassId) : Class where
  name := name
  kind := .ordinary
  loader := none
  accessFlags := 33
  super := sup
  interfaces := #[]
  cf := none
  fields := #[]
  methods := #[]
  instanceTypes := #[]
  staticTypes := #[]
  resolved := #[]
  callSites := []
  init := .initialized
  statics := none
  mirror := none

def pool0 : Array CpInfo := pool [(5, u "<init>"), (0, u "()V"), (1, .class_ 10), (1, u "java/lang/Object")] 113

def k0c0 : Code := { maxStack := 0, maxLocals := 1, code := object_method_1_code, exceptionTable := #[], attributes := #[] }
def k0m0 : Method := { name := "<init>", desc := "()V", sig := { parameters := [], returnType := none }, accessFlags := 1, code := some k0c0 }
/-- java/lang/Object -/
def k0 : Class := { plain "java/lang/Object" none with
  accessFlags := 33
  interfaces := #[]
  cf := some (fileOf pool0 8 #[] #[{ accessFlags := 1, nameIndex := 5, descriptorIndex := 6, attributes := #[] }] 33 0 #[] #[])
  fields := #[]
  methods := #[k0m0]
  instanceTypes := #[]
  staticTypes := #[]
  resolved := Array.replicate 124 none
  statics := none }

def pool1 : Array CpInfo := pool [(2, .class_ 4), (0, .nameAndType 5 6), (0, u "java/lang/Object"), (0, u "<init>"), (0, u "()V"), (0, .class_ 8), (0, u "com/example/crisp_window/crispwindow/window/Int128"), (0, .methodref 7 3), (0, .methodref 7 11), (0, .nameAndType 12 13), (0, u "set"), (0, u "(JJ)Lcom/example/crisp_window/crispwindow/window/Int128;"), (0, .methodref 7 15), (0, .nameAndType 16 17), (0, u "signum"), (0, u "()I"), (0, .methodref 7 19), (0, .nameAndType 20 21), (0, u "high"), (0, u "()J"), (0, .methodref 7 23), (0, .nameAndType 24 21), (0, u "low"), (0, .class_ 26), (0, u "com/example/crisp_window/crispwindow/window/Int128SignumPinLaw"), (2, u "law"), (0, u "(JJI)Z")] 3

def k1m0 : Method := { name := "<init>", desc := "()V", sig := { parameters := [], returnType := none }, accessFlags := 1, code := none }
def k1c1 : Code := { maxStack := 5, maxLocals := 14, code := code, exceptionTable := #[], attributes := #[] }
def k1m1 : Method := { name := "law", desc := "(JJI)Z", sig := { parameters := [.long, .long, .int], returnType := some .boolean }, accessFlags := 9, code := some k1c1 }
/-- com/example/crisp_window/crispwindow/window/Int128SignumPinLaw -/
def k1 : Class := { plain "com/example/crisp_window/crispwindow/window/Int128SignumPinLaw" (some 0) with
  accessFlags := 49
  interfaces := #[]
  cf := some (fileOf pool1 25 #[] #[{ accessFlags := 1, nameIndex := 5, descriptorIndex := 6, attributes := #[] }, { accessFlags := 9, nameIndex := 29, descriptorIndex := 30, attributes := #[] }] 49 2 #[] #[])
  fields := #[]
  methods := #[k1m0, k1m1]
  instanceTypes := #[]
  staticTypes := #[]
  resolved := Array.replicate 34 none
  statics := none }

def pool2 : Array CpInfo := pool [(1, .methodref 2 3), (0, .class_ 4), (0, .nameAndType 5 6), (0, u "java/lang/Object"), (0, u "<init>"), (0, u "()V"), (0, .fieldref 8 9), (0, .class_ 10), (0, .nameAndType 11 12), (0, u "com/example/crisp_window/crispwindow/window/Int128"), (0, u "high"), (0, u "J"), (0, .fieldref 8 14), (0, .nameAndType 15 12), (0, u "low"), (9, u "(JJ)Lcom/example/crisp_window/crispwindow/window/Int128;"), (41, u "set"), (0, u "()J"), (6, u "signum"), (0, u "()I")] 10

def k2c0 : Code := { maxStack := 1, maxLocals := 1, code := prog_91_method_1_code, exceptionTable := #[], attributes := #[] }
def k2m0 : Method := { name := "<init>", desc := "()V", sig := { parameters := [], returnType := none }, accessFlags := 0, code := some k2c0 }
def k2c1 : Code := { maxStack := 3, maxLocals := 5, code := prog_91_method_2_code, exceptionTable := #[], attributes := #[] }
def k2m1 : Method := { name := "set", desc := "(JJ)Lcom/example/crisp_window/crispwindow/window/Int128;", sig := { parameters := [.long, .long], returnType := some (.object "com/example/crisp_window/crispwindow/window/Int128") }, accessFlags := 0, code := some k2c1 }
def k2c2 : Code := { maxStack := 2, maxLocals := 1, code := prog_91_method_3_code, exceptionTable := #[], attributes := #[] }
def k2m2 : Method := { name := "high", desc := "()J", sig := { parameters := [], returnType := some .long }, accessFlags := 0, code := some k2c2 }
def k2c3 : Code := { maxStack := 2, maxLocals := 1, code := prog_91_method_4_code, exceptionTable := #[], attributes := #[] }
def k2m3 : Method := { name := "low", desc := "()J", sig := { parameters := [], returnType := some .long }, accessFlags := 0, code := some k2c3 }
def k2c4 : Code := { maxStack := 4, maxLocals := 1, code := prog_91_method_9_code, exceptionTable := #[], attributes := #[] }
def k2m4 : Method := { name := "signum", desc := "()I", sig := { parameters := [], returnType := some .int }, accessFlags := 0, code := some k2c4 }
/-- com/example/crisp_window/crispwindow/window/Int128 -/
def k2 : Class := { plain "com/example/crisp_window/crispwindow/window/Int128" (some 0) with
  accessFlags := 48
  interfaces := #[]
  cf := some (fileOf pool2 8 #[] #[{ accessFlags := 0, nameIndex := 5, descriptorIndex := 6, attributes := #[] }, { accessFlags := 0, nameIndex := 67, descriptorIndex := 25, attributes := #[] }, { accessFlags := 0, nameIndex := 11, descriptorIndex := 68, attributes := #[] }, { accessFlags := 0, nameIndex := 15, descriptorIndex := 68, attributes := #[] }, { accessFlags := 0, nameIndex := 75, descriptorIndex := 76, attributes := #[] }] 48 2 #[] #[{ accessFlags := 2, nameIndex := 11, descriptorIndex := 12, attributes := #[] }, { accessFlags := 2, nameIndex := 15, descriptorIndex := 12, attributes := #[] }])
  fields := #[{ name := "high", type := .long, accessFlags := 2, slot := 0, constantValue := 0 }, { name := "low", type := .long, accessFlags := 2, slot := 1, constantValue := 0 }]
  methods := #[k2m0, k2m1, k2m2, k2m3, k2m4]
  instanceTypes := #[.long, .long]
  staticTypes := #[]
  resolved := Array.replicate 87 none
  statics := none }

def pool3 : Array CpInfo := pool [(1, u "java/lang/Cloneable"), (0, .class_ 1), (0, u "java/lang/Object"), (0, .class_ 3)] 3

/-- java/lang/Cloneable -/
def k3 : Class := { plain "java/lang/Cloneable" (some 0) with
  accessFlags := 1537
  interfaces := #[]
  cf := some (fileOf pool3 2 #[] #[] 1537 4 #[] #[])
  fields := #[]
  methods := #[]
  instanceTypes := #[]
  staticTypes := #[]
  resolved := Array.replicate 8 none
  statics := none }

def pool4 : Array CpInfo := pool [(1, u "java/io/Serializable"), (0, .class_ 1), (0, u "java/lang/Object"), (0, .class_ 3)] 3

/-- java/io/Serializable -/
def k4 : Class := { plain "java/io/Serializable" (some 0) with
  accessFlags := 1537
  interfaces := #[]
  cf := some (fileOf pool4 2 #[] #[] 1537 4 #[] #[])
  fields := #[]
  methods := #[]
  instanceTypes := #[]
  staticTypes := #[]
  resolved := Array.replicate 8 none
  statics := none }

/-- the primitive byte -/
def k5 : Class := { plain "byte" none with kind := .primitive 'B', accessFlags := 0x411 }
/-- [B -/
def k6 : Class := { plain "[B" (some 0) with kind := .array 5 .byte, interfaces := #[3, 4], accessFlags := 1041 }

/-- the primitive int -/
def k7 : Class := { plain "int" none with kind := .primitive 'I', accessFlags := 0x411 }
/-- [I -/
def k8 : Class := { plain "[I" (some 0) with kind := .array 7 .int, interfaces := #[3, 4], accessFlags := 1041 }

def heap : Heap := #[]
def classes : Array Class := #[k0, k1, k2, k3, k4, k5, k6, k7, k8]
def interned : List (Array UInt16 × Addr) := []
def slotsUsed : Nat := 0
def theMethod : MethodId := ⟨1, 1⟩
def args0 : Array Value := #[.long 5, .long 7, .int 2]
def aboutOver (below : List Frame) : State where
  vm := { classes := classes, interned := interned.toArray }
  heap := heap
  slotsUsed := slotsUsed
  threads := #[{ frames := .invoking theMethod args0 :: below }]
def below0 : List Frame := [.native { method := ⟨0, 0⟩, args := #[] }]
def about1 : State := aboutOver below0
def p0 : Program := .bare "" "" ""
def e0 : Env := launch0.env 0 0 0
theorem w_frames : about1.frames = Frame.invoking theMethod args0 :: below0 := rfl
set_option maxRecDepth 65536 in
theorem w_args : argsFit about1.vm theMethod args0 = true := by decide +kernel
set_option maxRecDepth 65536 in
theorem w_heap : heapFits about1 = true := by decide +kernel
set_option maxRecDepth 65536 in
theorem w_runnable : about1.curStatus? = some .runnable := by decide +kernel
set_option maxRecDepth 65536 in
theorem w_alone : about1.alone = true := by decide +kernel
set_option maxRecDepth 65536 in
theorem w_named : about1.methodNamed? x = some theMethod := by decide +kernel
set_option maxRecDepth 65536 in
theorem w_hears : about1.hears theMethod below0 = true := by decide +kernel
set_option maxRecDepth 65536 in
theorem w_ripe : about1.ripe theMethod args0 below0 = true := by decide +kernel
theorem w_running : about1.status = .running := rfl
set_option maxRecDepth 65536 in
theorem w_room : about1.hasRoom e0.platform room_1 = true :=
  launch0.hasRoom_least _ room_1 (by decide +kernel) (by decide +kernel) (by decide +kernel) (by decide +kernel) (by decide +kernel) (by decide +kernel)
theorem allAtoms_all (ts : List Jvm.Cond) (a : Array Jvm.Value) (st : Jvm.State) : (allAtoms ts).before a st = ts.all (fun c => c.before a st) := by
  induction ts with
  | nil => rfl
  | cons c t ih =>
    show (Jvm.Cond.and c (allAtoms t)).before a st = _
    rw [Jvm.Cond.before_and, ih, List.all_cons]
def words1 : List Jvm.Cond := Jvm.Cond.code x code maxLocals ret :: tables_1
/-- a 'code' word, met by the world's own term for the bytes: nothing is compared byte by byte -/
theorem code_word {y : MethodName} {bytes : ByteArray} {mx : Nat} {rt : Option FieldType} {a : Array Value} {s : State} {m : MethodId} {meth : Method} {c : Code} (h1 : s.methodNamed? y = some m) (h2 : s.vm.method? m = some meth) (h3 : meth.code = some c) (h4 : c.code = bytes)
    (h5 : (c.maxLocals == mx && c.exceptionTable.isEmpty && decide (c.maxStack ≤ mostOperands) && decide (meth.sig.returnType = rt) && !meth.locks && decide (parseMethodDescriptor y.desc = some meth.sig)) = true) : (Jvm.Cond.code y bytes mx rt).before a s = true := by
  simp only [Bool.and_eq_true, beq_iff_eq, Bool.not_eq_true', decide_eq_true_eq] at h5
  obtain ⟨⟨⟨⟨⟨g1, g2⟩, g3⟩, g4⟩, g5⟩, g6⟩ := h5
  simp [Cond.before, Cond.holds, Cond.value, h1, h2, h3, h4, g1, g2, g3, g4, g5, g6]
def isCode : Jvm.Cond → Bool
  | .code _ _ _ _ => true
  | _ => false
theorem all_split {L : List Jvm.Cond} {P : Jvm.Cond → Bool} (h1 : L.all (fun c => isCode c || P c) = true) (h2 : ∀ c ∈ L.filter isCode, P c = true) : L.all P = true := by
  refine List.all_eq_true.mpr fun c hc => ?_
  have h := List.all_eq_true.mp h1 c hc
  rcases Bool.eq_false_or_eq_true (isCode c) with hi | hi
  · exact h2 c (List.mem_filter.mpr ⟨hc, hi⟩)
  · simpa [hi] using h
set_option maxRecDepth 65536 in
theorem w_c0 : (Jvm.Cond.code x code maxLocals ret).before args0 about1 = true := code_word (m := ⟨1, 1⟩) (meth := k1m1) (c := k1c1) (by decide +kernel) rfl rfl rfl (by decide +kernel)
set_option maxRecDepth 65536 in
theorem w_c1 : (Jvm.Cond.code ({ cls := "com/example/crisp_window/crispwindow/window/Int128", name := "<init>", desc := "()V" } : Jvm.MethodName) prog_91_method_1_code (1 : Nat) (Option.none : Option Jvm.ClassFile.FieldType)).before args0 about1 = true := code_word (m := ⟨2, 0⟩) (meth := k2m0) (c := k2c0) (by decide +kernel) rfl rfl rfl (by decide +kernel)
set_option maxRecDepth 65536 in
theorem w_c2 : (Jvm.Cond.code ({ cls := "java/lang/Object", name := "<init>", desc := "()V" } : Jvm.MethodName) object_method_1_code (1 : Nat) (Option.none : Option Jvm.ClassFile.FieldType)).before args0 about1 = true := code_word (m := ⟨0, 0⟩) (meth := k0m0) (c := k0c0) (by decide +kernel) rfl rfl rfl (by decide +kernel)
set_option maxRecDepth 65536 in
theorem w_c3 : (Jvm.Cond.code ({ cls := "com/example/crisp_window/crispwindow/window/Int128", name := "set", desc := "(JJ)Lcom/example/crisp_window/crispwindow/window/Int128;" } : Jvm.MethodName) prog_91_method_2_code (5 : Nat) (Option.some (Jvm.ClassFile.FieldType.object "com/example/crisp_window/crispwindow/window/Int128"))).before args0 about1 = true := code_word (m := ⟨2, 1⟩) (meth := k2m1) (c := k2c1) (by decide +kernel) rfl rfl rfl (by decide +kernel)
set_option maxRecDepth 65536 in
theorem w_c4 : (Jvm.Cond.code ({ cls := "com/example/crisp_window/crispwindow/window/Int128", name := "signum", desc := "()I" } : Jvm.MethodName) prog_91_method_9_code (1 : Nat) (Option.some Jvm.ClassFile.FieldType.int)).before args0 about1 = true := code_word (m := ⟨2, 4⟩) (meth := k2m4) (c := k2c4) (by decide +kernel) rfl rfl rfl (by decide +kernel)
set_option maxRecDepth 65536 in
theorem w_c5 : (Jvm.Cond.code ({ cls := "com/example/crisp_window/crispwindow/window/Int128", name := "high", desc := "()J" } : Jvm.MethodName) prog_91_method_3_code (1 : Nat) (Option.some Jvm.ClassFile.FieldType.long)).before args0 about1 = true := code_word (m := ⟨2, 2⟩) (meth := k2m2) (c := k2c2) (by decide +kernel) rfl rfl rfl (by decide +kernel)
set_option maxRecDepth 65536 in
theorem w_c6 : (Jvm.Cond.code ({ cls := "com/example/crisp_window/crispwindow/window/Int128", name := "low", desc := "()J" } : Jvm.MethodName) prog_91_method_4_code (1 : Nat) (Option.some Jvm.ClassFile.FieldType.long)).before args0 about1 = true := code_word (m := ⟨2, 3⟩) (meth := k2m3) (c := k2c3) (by decide +kernel) rfl rfl rfl (by decide +kernel)
def codes1 : List Jvm.Cond := [Jvm.Cond.code x code maxLocals ret, Jvm.Cond.code ({ cls := "com/example/crisp_window/crispwindow/window/Int128", name := "<init>", desc := "()V" } : Jvm.MethodName) prog_91_method_1_code (1 : Nat) (Option.none : Option Jvm.ClassFile.FieldType), Jvm.Cond.code ({ cls := "java/lang/Object", name := "<init>", desc := "()V" } : Jvm.MethodName) object_method_1_code (1 : Nat) (Option.none : Option Jvm.ClassFile.FieldType), Jvm.Cond.code ({ cls := "com/example/crisp_window/crispwindow/window/Int128", name := "set", desc := "(JJ)Lcom/example/crisp_window/crispwindow/window/Int128;" } : Jvm.MethodName) prog_91_method_2_code (5 : Nat) (Option.some (Jvm.ClassFile.FieldType.object "com/example/crisp_window/crispwindow/window/Int128")), Jvm.Cond.code ({ cls := "com/example/crisp_window/crispwindow/window/Int128", name := "signum", desc := "()I" } : Jvm.MethodName) prog_91_method_9_code (1 : Nat) (Option.some Jvm.ClassFile.FieldType.int), Jvm.Cond.code ({ cls := "com/example/crisp_window/crispwindow/window/Int128", name := "high", desc := "()J" } : Jvm.MethodName) prog_91_method_3_code (1 : Nat) (Option.some Jvm.ClassFile.FieldType.long), Jvm.Cond.code ({ cls := "com/example/crisp_window/crispwindow/window/Int128", name := "low", desc := "()J" } : Jvm.MethodName) prog_91_method_4_code (1 : Nat) (Option.some Jvm.ClassFile.FieldType.long)]
set_option maxRecDepth 65536 in
theorem codes_eq : words1.filter isCode = codes1 := rfl
theorem w_codes : ∀ c ∈ words1.filter isCode, c.before args0 about1 = true := by
  rw [codes_eq]
  intro c hc
  simp only [codes1, List.mem_cons, List.not_mem_nil, or_false] at hc
  rcases hc with rfl | rfl | rfl | rfl | rfl | rfl | rfl
  · exact w_c0
  · exact w_c1
  · exact w_c2
  · exact w_c3
  · exact w_c4
  · exact w_c5
  · exact w_c6
set_option maxRecDepth 65536 in
theorem w_t1 : (words1.take 24).all (fun c => isCode c || c.before args0 about1) = true := by decide +kernel
set_option maxRecDepth 65536 in
theorem w_t2 : (words1.drop 24).all (fun c => isCode c || c.before args0 about1) = true := by decide +kernel
theorem w_tables : (allAtoms (Jvm.Cond.code x code maxLocals ret :: tables_1)).before args0 about1 = true := by
  rw [allAtoms_all]
  show words1.all (fun c => c.before args0 about1) = true
  refine all_split ?_ w_codes
  rw [← List.take_append_drop 24 words1, List.all_append, w_t1, w_t2]
  rfl
set_option maxRecDepth 65536 in
theorem w_case : (Jvm.Cond.and given_1 narrow_1).before args0 about1 = true := by decide +kernel
theorem w_applies : (headSpec (Jvm.Cond.code x code maxLocals ret :: tables_1) room_1).applies x e0.platform about1 = true :=
  (Spec.applies_iff w_frames).mpr ⟨w_running, w_runnable, w_alone, w_named, w_hears, w_ripe, w_room, w_tables⟩
theorem atStart : AtStart classFile x code maxLocals ret World_1 tables_1 room_1 Calls_1 rest_1 Pre_1 launch0 p0 e0 about1 theMethod args0 below0 :=
  ⟨lists_1, trivial, launch0.admits_env _ _ _, launch0.least_env, fairChoices_fair.cas, fairChoices_fair.clock, w_frames, w_args, w_heap, w_applies, trivial, trivial, w_case⟩
end start1
theorem witness_1 : WitnessClaimed_1 := ⟨start1.p0, start1.e0, start1.about1, start1.theMethod, start1.args0, start1.below0, start1.atStart⟩
end Jvm.Pilot.@@N@@
