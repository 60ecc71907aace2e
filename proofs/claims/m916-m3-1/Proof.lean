import JvmDerived
import JvmDerived.Pilot.@@N@@Statement
import JvmDerived.Pilot.@@N@@Code
set_option linter.unusedVariables false
set_option linter.unusedSimpArgs false
namespace Jvm.Pilot.@@N@@
open Jvm Jvm.ClassFile Sem Op Lib Jvm.Free Jvm.Stand Jvm.LawKit Jvm.RoadKit Bundle Jvm.Pilot.@@N@@.Jvm.D
section Own
variable {p : Program} {l : Launch} {e : Env} {R : Room} {s : State} {m : MethodId} {args : Array Value} {below : List Frame} {meth : Method} {c : Code} {T : State} {locs : List Loc} {cells slots : Nat} {Z : State} {h h' : Heap} {a b : Addr} {k k' : ClassId} {ty : FieldType} {n : Int32}
/-- from the state S the run ends, and G holds of the end -/
def own_Go (tb : Tables) (e : Env) (below : List Frame) (G : State → Outcome → Prop) (S : State) : Prop := ∃ s₂ o, Steps tb e below S s₂ ∧ s₂.status = .running ∧ Ended s₂ below o ∧ G s₂ o
theorem own_of {tb : Tables} {G : State → Outcome → Prop} {S S' : State} (f : ∀ t, Steps tb e below S' t → Steps tb e below S t) (g : own_Go tb e below G S') : own_Go tb e below G S := by
  obtain ⟨x, y, h1, h2⟩ := g
  exact ⟨x, y, f x h1, h2⟩
theorem own_out {tb : Tables} {Q : State → Outcome → Prop} {S : State} (f : ∀ G : State → Outcome → Prop, (∀ s₂ o, Q s₂ o → G s₂ o) → own_Go tb e below G S) : ∃ s₂ o, Steps tb e below S s₂ ∧ s₂.status = .running ∧ Ended s₂ below o ∧ Q s₂ o := f Q fun _ _ q => q
theorem own_retI (X : Stand p l e R s m args below meth c T locs cells slots) (hx : p.tables.exec = Jvm.exec) {pc : Nat} {Ls : Array Slot} {z : Int32} {rest : List Value} (hret : meth.sig.returnType = some .int) (hd : decode c.code pc = .ok (.ireturn, 1)) {fs : List Frame}
    (hl : ∀ (f : JFrame) (acts : List Action), f.method = m → f.locked = none → f.entered = [] → (doReturn e (T.setTop f) acts (some (.int z))).1 = T.setFrames fs) : Steps p.tables e below (T.setTop (mkF m pc Ls (.int z :: rest))) (T.setFrames fs) :=
  retOut X hx hret rfl (Or.inl ⟨rfl, Or.inl rfl, z, rfl⟩) hd hl
theorem own_retL (X : Stand p l e R s m args below meth c T locs cells slots) (hx : p.tables.exec = Jvm.exec) {pc : Nat} {Ls : Array Slot} {z : Int64} {rest : List Value} (hret : meth.sig.returnType = some .long) (hd : decode c.code pc = .ok (.lreturn, 1)) {fs : List Frame}
    (hl : ∀ (f : JFrame) (acts : List Action), f.method = m → f.locked = none → f.entered = [] → (doReturn e (T.setTop f) acts (some (.long z))).1 = T.setFrames fs) : Steps p.tables e below (T.setTop (mkF m pc Ls (.long z :: rest))) (T.setFrames fs) :=
  retOut X hx hret rfl (Or.inr (Or.inl ⟨rfl, rfl, z, rfl⟩)) hd hl
theorem own_retA (X : Stand p l e R s m args below meth c T locs cells slots) (hx : p.tables.exec = Jvm.exec) {pc : Nat} {Ls : Array Slot} {z : Addr} {C : String} {rest : List Value} (hret : meth.sig.returnType = some (.object C)) (hd : decode c.code pc = .ok (.areturn, 1)) {fs : List Frame}
    (hl : ∀ (f : JFrame) (acts : List Action), f.method = m → f.locked = none → f.entered = [] → (doReturn e (T.setTop f) acts (some (.ref z))).1 = T.setFrames fs) : Steps p.tables e below (T.setTop (mkF m pc Ls (.ref z :: rest))) (T.setFrames fs) :=
  retOut X hx hret rfl (Or.inr (Or.inr (Or.inr (Or.inr ⟨rfl, rfl, rfl⟩)))) hd hl
/-- an array of ints (or bytes) at a, whole: its class, element type, length and values -/
def own_AI (Z : State) (h : Heap) (a : Addr) (k : ClassId) (ty : FieldType) (n : Int32) (xs : List Int32) : Prop := Arv Z h a k ty n (xs.map Value.int) (.int 0) ∧ xs.length = n.toNatClampNeg
theorem own_AI.ext {xs : List Int32} (F : own_AI Z h a k ty n xs) (E : Ext h h') : own_AI Z h' a k ty n xs := ⟨F.1.ext E, F.2⟩
theorem own_AI.other {xs : List Int32} {sl : Nat} {v : Value} (F : own_AI Z h b k ty n xs) (W : Wr h h' a sl v) (q : b ≠ a) : own_AI Z h' b k ty n xs := ⟨F.1.other W q, F.2⟩
theorem own_AI.keep {xs : List Int32} {ws : List Addr} (F : own_AI Z h a k ty n xs) (K : Keep h h' ws) (q : a ∉ ws) : own_AI Z h' a k ty n xs := ⟨F.1.keep K q, F.2⟩
theorem own_AI.lt {xs : List Int32} (F : own_AI Z h a k ty n xs) : a < h.size := F.1.lt
def own_AJ (Z : State) (h : Heap) (a : Addr) (k : ClassId) (n : Int32) (xs : List Int64) : Prop := Arv Z h a k .long n (xs.map Value.long) (.long 0) ∧ xs.length = n.toNatClampNeg
theorem own_AJ.ext {xs : List Int64} (F : own_AJ Z h a k n xs) (E : Ext h h') : own_AJ Z h' a k n xs := ⟨F.1.ext E, F.2⟩
theorem own_AJ.other {xs : List Int64} {sl : Nat} {v : Value} (F : own_AJ Z h b k n xs) (W : Wr h h' a sl v) (q : b ≠ a) : own_AJ Z h' b k n xs := ⟨F.1.other W q, F.2⟩
theorem own_AJ.keep {xs : List Int64} {ws : List Addr} (F : own_AJ Z h a k n xs) (K : Keep h h' ws) (q : a ∉ ws) : own_AJ Z h' a k n xs := ⟨F.1.keep K q, F.2⟩
theorem own_AJ.lt {xs : List Int64} (F : own_AJ Z h a k n xs) : a < h.size := F.1.lt
theorem own_ltn {j n : Int32} (q : ¬ j < 0 ∧ j < n) : j.toNatClampNeg < n.toNatClampNeg := by
  obtain ⟨q1, q2⟩ := q
  rw [Int32.lt_iff_toInt_lt] at q1 q2
  have e0 : (0 : Int32).toInt = 0 := rfl
  simp only [Int32.toNatClampNeg]; omega
theorem own_newI (A : Arr Z h a (newA k ty n) ty) (q : ¬ n < 0) (cnt : Nat) (hc : n.toNatClampNeg = cnt) (hd : defaultValue ty = .int 0) : own_AI Z h a k ty n (List.replicate cnt 0) := by
  have F := Arv.new A q
  rw [hd] at F
  exact ⟨by rw [List.map_replicate]; exact F.pad (pad_rep [] (.int 0) cnt), by rw [List.length_replicate, hc]⟩
theorem own_newJ (A : Arr Z h a (newA k .long n) .long) (q : ¬ n < 0) (cnt : Nat) (hc : n.toNatClampNeg = cnt) : own_AJ Z h a k n (List.replicate cnt 0) := by
  have F := Arv.new A q
  exact ⟨by rw [List.map_replicate]; exact F.pad (pad_rep [] (.long 0) cnt), by rw [List.length_replicate, hc]⟩
theorem own_stI (X : Stand p l e R s m args below meth c T locs cells slots) (hx : p.tables.exec = Jvm.exec) (hZ : Z.Warmed39 s.vm) (eT : T.heap = h) {xs : List Int32} (F : own_AI Z h a k .int n xs) {j x : Int32} (q : ¬ j < 0 ∧ j < n) {g : JFrame} (hg : g.method = m) {rest : List Value} (hs : g.stack = .int x :: .int j :: .ref a :: rest) (hd : decode c.code g.pc = .ok (.iastore, 1)) :
    ∃ T' h', Stand p l e R s m args below meth c T' (locs ++ [⟨a, j.toNatClampNeg⟩]) cells slots ∧ T'.heap = h' ∧ Wr h h' a j.toNatClampNeg (.int x) ∧ own_AI Z h' a k .int n (xs.set j.toNatClampNeg x) ∧ ∀ target, Steps p.tables e below (T'.setTop { g with pc := g.pc + 1, stack := rest }) target → Steps p.tables e below (T.setTop g) target := by
  obtain ⟨⟨cl, A, q1, S, q3, H, G⟩, hl⟩ := F
  obtain ⟨T', h', X', e', W, st⟩ := stI X hx hZ eT A (inb_of S q) hg hs hd
  refine ⟨T', h', X', e', W, ⟨?_, by rw [List.length_set]; exact hl⟩, st⟩
  rw [List.map_set]
  exact Arv.set A q1 S q3 H G rfl W _ rfl (by rw [List.length_map, hl]; exact own_ltn q)
theorem own_stB (X : Stand p l e R s m args below meth c T locs cells slots) (hx : p.tables.exec = Jvm.exec) (hZ : Z.Warmed39 s.vm) (eT : T.heap = h) {xs : List Int32} (F : own_AI Z h a k .byte n xs) {j x : Int32} (q : ¬ j < 0 ∧ j < n) {g : JFrame} (hg : g.method = m) {rest : List Value} (hs : g.stack = .int x :: .int j :: .ref a :: rest) (hd : decode c.code g.pc = .ok (.bastore, 1)) :
    ∃ T' h', Stand p l e R s m args below meth c T' (locs ++ [⟨a, j.toNatClampNeg⟩]) cells slots ∧ T'.heap = h' ∧ Wr h h' a j.toNatClampNeg (.int x.toInt8.toInt32) ∧ own_AI Z h' a k .byte n (xs.set j.toNatClampNeg x.toInt8.toInt32) ∧ ∀ target, Steps p.tables e below (T'.setTop { g with pc := g.pc + 1, stack := rest }) target → Steps p.tables e below (T.setTop g) target := by
  obtain ⟨⟨cl, A, q1, S, q3, H, G⟩, hl⟩ := F
  obtain ⟨T', h', X', e', W, st⟩ := stB X hx hZ eT A (inb_of S q) hg hs hd
  refine ⟨T', h', X', e', W, ⟨?_, by rw [List.length_set]; exact hl⟩, st⟩
  rw [List.map_set]
  exact Arv.set A q1 S q3 H G (fits_nar_byte _) W _ rfl (by rw [List.length_map, hl]; exact own_ltn q)
theorem own_stJ (X : Stand p l e R s m args below meth c T locs cells slots) (hx : p.tables.exec = Jvm.exec) (hZ : Z.Warmed39 s.vm) (eT : T.heap = h) {xs : List Int64} (F : own_AJ Z h a k n xs) {j : Int32} {x : Int64} (q : ¬ j < 0 ∧ j < n) {g : JFrame} (hg : g.method = m) {rest : List Value} (hs : g.stack = .long x :: .int j :: .ref a :: rest) (hd : decode c.code g.pc = .ok (.lastore, 1)) :
    ∃ T' h', Stand p l e R s m args below meth c T' (locs ++ [⟨a, j.toNatClampNeg⟩]) cells slots ∧ T'.heap = h' ∧ Wr h h' a j.toNatClampNeg (.long x) ∧ own_AJ Z h' a k n (xs.set j.toNatClampNeg x) ∧ ∀ target, Steps p.tables e below (T'.setTop { g with pc := g.pc + 1, stack := rest }) target → Steps p.tables e below (T.setTop g) target := by
  obtain ⟨⟨cl, A, q1, S, q3, H, G⟩, hl⟩ := F
  obtain ⟨T', h', X', e', W, st⟩ := stJ X hx hZ eT A (inb_of S q) hg hs hd
  refine ⟨T', h', X', e', W, ⟨?_, by rw [List.length_set]; exact hl⟩, st⟩
  rw [List.map_set]
  exact Arv.set A q1 S q3 H G rfl W _ rfl (by rw [List.length_map, hl]; exact own_ltn q)
theorem own_getI (xs : List Int32) (i : Nat) : (xs.map Value.int).getD i (.int 0) = .int (xs.getD i 0) := by
  simp only [List.getD_eq_getElem?_getD, List.getElem?_map]
  cases xs[i]? <;> rfl
theorem own_getJ (xs : List Int64) (i : Nat) : (xs.map Value.long).getD i (.long 0) = .long (xs.getD i 0) := by
  simp only [List.getD_eq_getElem?_getD, List.getElem?_map]
  cases xs[i]? <;> rfl
theorem own_ldI (X : Stand p l e R s m args below meth c T locs cells slots) (hx : p.tables.exec = Jvm.exec) (hZ : Z.Warmed39 s.vm) (eT : T.heap = h) {xs : List Int32} (F : own_AI Z h a k .int n xs) {j : Int32} (q : ¬ j < 0 ∧ j < n) {g : JFrame} (hg : g.method = m) {rest : List Value} (hs : g.stack = .int j :: .ref a :: rest) (hd : decode c.code g.pc = .ok (.iaload, 1)) :
    ∀ target, Steps p.tables e below (T.setTop { g with pc := g.pc + 1, stack := .int (xs.getD j.toNatClampNeg 0) :: rest }) target → Steps p.tables e below (T.setTop g) target := by
  obtain ⟨⟨cl, A, q1, S, q3, H, G⟩, hl⟩ := F
  intro target hr
  exact X.iaload hx (by rw [eT]; exact A.1) (State.isArrayOf_alike hZ.alike A.2.1) A.2.2 (inb_of S q) (H.at (inb_of S q) (own_getI xs _)) hg hs hd target hr
theorem own_ldB (X : Stand p l e R s m args below meth c T locs cells slots) (hx : p.tables.exec = Jvm.exec) (hZ : Z.Warmed39 s.vm) (eT : T.heap = h) {xs : List Int32} (F : own_AI Z h a k .byte n xs) {j : Int32} (q : ¬ j < 0 ∧ j < n) {g : JFrame} (hg : g.method = m) {rest : List Value} (hs : g.stack = .int j :: .ref a :: rest) (hd : decode c.code g.pc = .ok (.baload, 1)) :
    ∀ target, Steps p.tables e below (T.setTop { g with pc := g.pc + 1, stack := .int (xs.getD j.toNatClampNeg 0) :: rest }) target → Steps p.tables e below (T.setTop g) target := by
  obtain ⟨⟨cl, A, q1, S, q3, H, G⟩, hl⟩ := F
  intro target hr
  exact X.baloadBytes hx (by rw [eT]; exact A.1) (State.isArrayOf_alike hZ.alike A.2.1) A.2.2 (inb_of S q) (H.at (inb_of S q) (own_getI xs _)) hg hs hd target hr
theorem own_ldJ (X : Stand p l e R s m args below meth c T locs cells slots) (hx : p.tables.exec = Jvm.exec) (hZ : Z.Warmed39 s.vm) (eT : T.heap = h) {xs : List Int64} (F : own_AJ Z h a k n xs) {j : Int32} (q : ¬ j < 0 ∧ j < n) {g : JFrame} (hg : g.method = m) {rest : List Value} (hs : g.stack = .int j :: .ref a :: rest) (hd : decode c.code g.pc = .ok (.laload, 1)) :
    ∀ target, Steps p.tables e below (T.setTop { g with pc := g.pc + 1, stack := .long (xs.getD j.toNatClampNeg 0) :: rest }) target → Steps p.tables e below (T.setTop g) target := by
  obtain ⟨⟨cl, A, q1, S, q3, H, G⟩, hl⟩ := F
  intro target hr
  exact X.laload hx (by rw [eT]; exact A.1) (State.isArrayOf_alike hZ.alike A.2.1) A.2.2 (inb_of S q) (H.at (inb_of S q) (own_getJ xs _)) hg hs hd target hr
theorem own_lenJ (X : Stand p l e R s m args below meth c T locs cells slots) (hx : p.tables.exec = Jvm.exec) (hZ : Z.Warmed39 s.vm) (eT : T.heap = h) {xs : List Int64} (F : own_AJ Z h a k n xs) {g : JFrame} (hg : g.method = m) {rest : List Value} (hs : g.stack = .ref a :: rest) (hd : decode c.code g.pc = .ok (.arraylength, 1)) :
    ∀ target, Steps p.tables e below (T.setTop { g with pc := g.pc + 1, stack := .int n :: rest }) target → Steps p.tables e below (T.setTop g) target := by
  obtain ⟨⟨cl, A, q1, S, q3, H, G⟩, hl⟩ := F
  intro target hr
  refine X.arraylength hx (by rw [eT]; exact A.1) (State.isArrayOf_alike hZ.alike A.2.1) hg hs hd target ?_
  rw [len_of S q3]; exact hr
theorem own_rng {α : Type} (d : α) (xs : List α) (n : Nat) (hn : xs.length = n) : (List.range n).map (fun i => xs.getD (0 + i) d) = xs := by
  subst hn
  apply List.ext_getElem?
  intro i
  simp only [List.getElem?_map, List.getD_eq_getElem?_getD, Nat.zero_add]
  by_cases q : i < xs.length
  · simp [List.getElem?_range q, List.getElem?_eq_getElem q]
  · have q' : xs.length ≤ i := Nat.le_of_not_lt q
    rw [List.getElem?_eq_none (by simpa using q'), List.getElem?_eq_none q']; rfl
theorem own_cpJ (X : Stand p l e R s m args below meth c T locs cells slots) (hx : p.tables.exec = Jvm.exec) (hZ : Z.Warmed39 s.vm) {a0 : Array Value} {own : String} {index : Nat} (hown : s.vm.findClass own = some m.cls)
    (w1 : (Cond.methodLink own index Jvm.Stand.acN).before a0 Z = true) (w2 : (Cond.native Jvm.Stand.acN).before a0 Z = true) (w3 : (Cond.static Jvm.Stand.acN).before a0 Z = true) (w4 : (Cond.initialized "java/lang/System").before a0 Z = true) (eT : T.heap = h)
    {xs ys : List Int64} (A : own_AJ Z h a k n xs) (B : own_AJ Z h b k' n ys) (h3 : ¬ n < 0) (h4 : (0 : Int32).toNatClampNeg = 0) {n0 : Nat} (N : Fr n0 locs) (ge : n0 ≤ b)
    {g : JFrame} (hg : g.method = m) (hsize : g.locals.size = c.maxLocals) {rest : List Value} (hs : g.stack = .int n :: .int 0 :: .ref b :: .int 0 :: .ref a :: rest) (hd : decode c.code g.pc = .ok (.invokestatic index, 3))
    (hf : 1 ≤ R.frames) {W : Nat} (hW : 2 * g.monitorRoom + (rest.map fun v => v.category).sum ≤ W) (hlo : W + (nativeFrameWords "java/lang/System" "arraycopy" 5 + 11) ≤ R.locals) :
    ∃ T' h' L, Stand p l e R s m args below meth c T' L cells slots ∧ T'.heap = h' ∧ Fr n0 L ∧ Keep h h' [b] ∧ own_AJ Z h' b k' n xs ∧
      ∀ target, Steps p.tables e below (T'.setTop { g with pc := g.pc + 3, stack := rest }) target → Steps p.tables e below (T.setTop g) target := by
  obtain ⟨A, la⟩ := A
  obtain ⟨B, lb⟩ := B
  obtain ⟨T', h', L, X', e', N', K', V', st⟩ := cpA X hx hZ hown w1 w2 w3 w4 eT A B (Or.inl ⟨rfl, rfl⟩) (sp := 0) (dp := 0) (nn := n) (by decide) (by decide) h3 (by rw [h4]; omega) (by rw [h4]; omega) rfl (by rw [h4, List.length_map, lb]; omega) N ge hg hsize hs hd hf hW hlo
  refine ⟨T', h', L, X', e', N', K', ⟨?_, la⟩, st⟩
  rw [h4] at V'
  rw [own_rng (.long 0) (xs.map Value.long) _ (by rw [List.length_map, la])] at V'
  have q : List.drop (0 + n.toNatClampNeg) (ys.map Value.long) = [] := by rw [List.drop_eq_nil_iff, List.length_map, lb]; omega
  rw [q] at V'
  simpa using V'
end Own

def own_lb (c : Int32) : Int32 := if c = 10 then 1 else if c = 13 then 1 else 0
theorem own_pd0 : parseMethodDescriptor "(I)Z" = some ⟨[.int], some .boolean⟩ := by decide +kernel
theorem own_d1_0 : decode prog_30_method_5_code 0 = .ok (.iload_n 0, 1) := by decide +kernel
theorem own_d1_1 : decode prog_30_method_5_code 1 = .ok (.bipush 10, 2) := by decide +kernel
theorem own_d1_3 : decode prog_30_method_5_code 3 = .ok (.if_icmp .eq 9, 3) := by decide +kernel
theorem own_d1_6 : decode prog_30_method_5_code 6 = .ok (.iload_n 0, 1) := by decide +kernel
theorem own_d1_7 : decode prog_30_method_5_code 7 = .ok (.bipush 13, 2) := by decide +kernel
theorem own_d1_9 : decode prog_30_method_5_code 9 = .ok (.if_icmp .ne 7, 3) := by decide +kernel
theorem own_d1_12 : decode prog_30_method_5_code 12 = .ok (.iconst 1, 1) := by decide +kernel
theorem own_d1_13 : decode prog_30_method_5_code 13 = .ok (.goto 4, 3) := by decide +kernel
theorem own_d1_16 : decode prog_30_method_5_code 16 = .ok (.iconst 0, 1) := by decide +kernel
theorem own_d1_17 : decode prog_30_method_5_code 17 = .ok (.ireturn, 1) := by decide +kernel
abbrev own_room1 : Room := { frames := 0, cells := 0, slots := 0, locals := 0 }
theorem own_pn1 : plainName "com/example/libjtree/libjtree/Refusals" = true := by first | (simp [plainName, overriddenIn]; done) | decide +kernel
theorem own_ef1 (m : MethodId) (c0 : Int32) : entryFrame m #[(.int c0)] 1 = mkF m 0 #[.val (.int c0)] [] := by first | (simp [entryFrame, mkF, argsToLocals, Value.category]; done) | rfl
def own_Q1 (Z : State) (c0 : Int32) (h0 : Heap) (n0 : Nat) (v : Option Value) (h : Heap) (L : List Loc) : Prop := v = some (.int (own_lb c0)) ∧ Fr n0 L ∧ h = h0
set_option maxRecDepth 65536 in
set_option maxHeartbeats 40000000 in
theorem own_rm1 (l : Launch) (Z : State) (a0 : Array Value) (hw : ∀ d ∈ tables_1, d.before a0 Z = true) (ws : List Jvm.Cond) (c0 : Int32) (h0 : Heap) (n0 : Nat)  :
    MetFree l (⟨"com/example/libjtree/libjtree/Refusals", "isLineBreak", "(I)Z"⟩ : MethodName) (head1 (Jvm.Cond.code (⟨"com/example/libjtree/libjtree/Refusals", "isLineBreak", "(I)Z"⟩ : MethodName) prog_30_method_5_code 1 (some .boolean) :: ws) (own_room1 : Room)) (fun a U => a = #[(.int c0)] ∧ Z.Warmed39 U.vm ∧ U.heap = h0) (fun _ _ _ _ _ => True) (fun _ U o U' => ∃ v L, o = .returned v ∧ own_Q1 Z c0 h0 n0 v U'.heap L ∧ FrameEnd U o U' L (own_room1 : Room).cells (own_room1 : Room).slots) := by
  refine MetFree.of_bodySF (plainFor_of_name own_pn1) hisR ?_
  intro p e s m args below meth c s₁ Bd hml0 hP hK
  obtain ⟨rfl, hZ, hh⟩ := hP
  have hx := Bd.exec
  have hby := Bd.bytes
  have hml : c.maxLocals = 1 := hml0
  have hown : s.vm.findClass "com/example/libjtree/libjtree/Refusals" = some m.cls := findClass_of_methodNamed Bd.named
  have hnm := (name_of_methodNamed Bd.named Bd.method).1
  have X0 : Stand p l e (own_room1 : Room) s m #[(.int c0)] below meth c s₁ [] 0 0 := Stand.of_body Bd
  have e0 : s₁.heap = h0 := by rw [← hh, Bd.state]; rfl
  have N0 := Fr.nil n0
  refine own_out fun G hG => ?_
  rw [own_ef1 m c0]
  show own_Go p.tables e below G (s₁.setTop (mkF m 0 #[.val (.int c0)] []))
  refine own_of (S' := s₁.setTop (mkF m 1 #[.val (.int c0)] [(.int c0)])) (fun t k => XS.iloadN X0.here hx rfl (hb hby own_d1_0) rfl k) ?_
  refine own_of (S' := s₁.setTop (mkF m 3 #[.val (.int c0)] [(.int (10 : Int32)), (.int c0)])) (fun t k => XS.bipush X0.here hx rfl (hb hby own_d1_1) k) ?_
  by_cases hc3 : c0 = (10 : Int32)
  · refine own_of (S' := s₁.setTop (mkF m 12 #[.val (.int c0)] [])) (fun t k => XS.icmpYes X0.here hx rfl (pc0 := 3) (pc' := 12) rfl (hb hby own_d1_3) rfl (teq hc3).1 (by decide) (by decide) k) ?_
    refine own_of (S' := s₁.setTop (mkF m 13 #[.val (.int c0)] [(.int (1 : Int32))])) (fun t k => XS.iconst X0.here hx rfl (hb hby own_d1_12) k) ?_
    refine own_of (S' := s₁.setTop (mkF m 17 #[.val (.int c0)] [(.int (1 : Int32))])) (fun t k => XS.goto X0.here hx rfl (pc0 := 13) (pc' := 17) rfl (hb hby own_d1_13) (by decide) (by decide) k) ?_
    obtain ⟨fs, hr, hrun, hended, hW, hsame⟩ := X0.leave (v := some (.int (nar .boolean (1 : Int32)))) (fun h => by rw [Bd.returns] at h; cases h)
    refine ⟨_, _, retN X0 hx (t := .boolean) Bd.returns (by simp) (hb hby own_d1_17) hr, hrun, hended, hG _ _ ⟨_, _, rfl, ?_, ⟨_, rfl⟩, hW, hsame.mono (by decide) (by decide)⟩⟩
    show own_Q1 Z c0 h0 n0 _ s₁.heap _
    rw [e0]
    have hl : nar .boolean (1 : Int32) = (own_lb c0) := by simp [own_lb, nar, *]
    exact ⟨congrArg (fun w => some (Value.int w)) hl, N0, rfl⟩
  · refine own_of (S' := s₁.setTop (mkF m 6 #[.val (.int c0)] [])) (fun t k => XS.icmpNo X0.here hx rfl (hb hby own_d1_3) rfl (feq hc3).1 k) ?_
    refine own_of (S' := s₁.setTop (mkF m 7 #[.val (.int c0)] [(.int c0)])) (fun t k => XS.iloadN X0.here hx rfl (hb hby own_d1_6) rfl k) ?_
    refine own_of (S' := s₁.setTop (mkF m 9 #[.val (.int c0)] [(.int (13 : Int32)), (.int c0)])) (fun t k => XS.bipush X0.here hx rfl (hb hby own_d1_7) k) ?_
    by_cases hc9 : c0 = (13 : Int32)
    · refine own_of (S' := s₁.setTop (mkF m 12 #[.val (.int c0)] [])) (fun t k => XS.icmpNo X0.here hx rfl (hb hby own_d1_9) rfl (teq hc9).2 k) ?_
      refine own_of (S' := s₁.setTop (mkF m 13 #[.val (.int c0)] [(.int (1 : Int32))])) (fun t k => XS.iconst X0.here hx rfl (hb hby own_d1_12) k) ?_
      refine own_of (S' := s₁.setTop (mkF m 17 #[.val (.int c0)] [(.int (1 : Int32))])) (fun t k => XS.goto X0.here hx rfl (pc0 := 13) (pc' := 17) rfl (hb hby own_d1_13) (by decide) (by decide) k) ?_
      obtain ⟨fs, hr, hrun, hended, hW, hsame⟩ := X0.leave (v := some (.int (nar .boolean (1 : Int32)))) (fun h => by rw [Bd.returns] at h; cases h)
      refine ⟨_, _, retN X0 hx (t := .boolean) Bd.returns (by simp) (hb hby own_d1_17) hr, hrun, hended, hG _ _ ⟨_, _, rfl, ?_, ⟨_, rfl⟩, hW, hsame.mono (by decide) (by decide)⟩⟩
      show own_Q1 Z c0 h0 n0 _ s₁.heap _
      rw [e0]
      have hl : nar .boolean (1 : Int32) = (own_lb c0) := by simp [own_lb, nar, *]
      exact ⟨congrArg (fun w => some (Value.int w)) hl, N0, rfl⟩
    · refine own_of (S' := s₁.setTop (mkF m 16 #[.val (.int c0)] [])) (fun t k => XS.icmpYes X0.here hx rfl (pc0 := 9) (pc' := 16) rfl (hb hby own_d1_9) rfl (feq hc9).2 (by decide) (by decide) k) ?_
      refine own_of (S' := s₁.setTop (mkF m 17 #[.val (.int c0)] [(.int (0 : Int32))])) (fun t k => XS.iconst X0.here hx rfl (hb hby own_d1_16) k) ?_
      obtain ⟨fs, hr, hrun, hended, hW, hsame⟩ := X0.leave (v := some (.int (nar .boolean (0 : Int32)))) (fun h => by rw [Bd.returns] at h; cases h)
      refine ⟨_, _, retN X0 hx (t := .boolean) Bd.returns (by simp) (hb hby own_d1_17) hr, hrun, hended, hG _ _ ⟨_, _, rfl, ?_, ⟨_, rfl⟩, hW, hsame.mono (by decide) (by decide)⟩⟩
      show own_Q1 Z c0 h0 n0 _ s₁.heap _
      rw [e0]
      have hl : nar .boolean (0 : Int32) = (own_lb c0) := by simp [own_lb, nar, *]
      exact ⟨congrArg (fun w => some (Value.int w)) hl, N0, rfl⟩
theorem own_d2_0 : decode method_2_code 0 = .ok (.iload_n 0, 1) := by decide +kernel
theorem own_d2_1 : decode method_2_code 1 = .ok (.bipush 10, 2) := by decide +kernel
theorem own_d2_3 : decode method_2_code 3 = .ok (.if_icmp .eq 9, 3) := by decide +kernel
theorem own_d2_6 : decode method_2_code 6 = .ok (.iload_n 0, 1) := by decide +kernel
theorem own_d2_7 : decode method_2_code 7 = .ok (.bipush 13, 2) := by decide +kernel
theorem own_d2_9 : decode method_2_code 9 = .ok (.if_icmp .ne 7, 3) := by decide +kernel
theorem own_d2_12 : decode method_2_code 12 = .ok (.iconst 1, 1) := by decide +kernel
theorem own_d2_13 : decode method_2_code 13 = .ok (.goto 4, 3) := by decide +kernel
theorem own_d2_16 : decode method_2_code 16 = .ok (.iconst 0, 1) := by decide +kernel
theorem own_d2_17 : decode method_2_code 17 = .ok (.ireturn, 1) := by decide +kernel
abbrev own_room2 : Room := { frames := 0, cells := 0, slots := 0, locals := 0 }
theorem own_pn2 : plainName "com/example/libjtree/libjtree/RefusalsIsLineBreakPinLaw" = true := by first | (simp [plainName, overriddenIn]; done) | decide +kernel
theorem own_ef2 (m : MethodId) (c0 : Int32) : entryFrame m #[(.int c0)] 1 = mkF m 0 #[.val (.int c0)] [] := by first | (simp [entryFrame, mkF, argsToLocals, Value.category]; done) | rfl
def own_Q2 (Z : State) (c0 : Int32) (h0 : Heap) (n0 : Nat) (v : Option Value) (h : Heap) (L : List Loc) : Prop := v = some (.int (own_lb c0)) ∧ Fr n0 L ∧ h = h0
set_option maxRecDepth 65536 in
set_option maxHeartbeats 40000000 in
theorem own_rm2 (l : Launch) (Z : State) (a0 : Array Value) (hw : ∀ d ∈ tables_1, d.before a0 Z = true) (ws : List Jvm.Cond) (c0 : Int32) (h0 : Heap) (n0 : Nat)  :
    MetFree l (⟨"com/example/libjtree/libjtree/RefusalsIsLineBreakPinLaw", "expected", "(I)Z"⟩ : MethodName) (head1 (Jvm.Cond.code (⟨"com/example/libjtree/libjtree/RefusalsIsLineBreakPinLaw", "expected", "(I)Z"⟩ : MethodName) method_2_code 1 (some .boolean) :: ws) (own_room2 : Room)) (fun a U => a = #[(.int c0)] ∧ Z.Warmed39 U.vm ∧ U.heap = h0) (fun _ _ _ _ _ => True) (fun _ U o U' => ∃ v L, o = .returned v ∧ own_Q2 Z c0 h0 n0 v U'.heap L ∧ FrameEnd U o U' L (own_room2 : Room).cells (own_room2 : Room).slots) := by
  refine MetFree.of_bodySF (plainFor_of_name own_pn2) hisR ?_
  intro p e s m args below meth c s₁ Bd hml0 hP hK
  obtain ⟨rfl, hZ, hh⟩ := hP
  have hx := Bd.exec
  have hby := Bd.bytes
  have hml : c.maxLocals = 1 := hml0
  have hown : s.vm.findClass "com/example/libjtree/libjtree/RefusalsIsLineBreakPinLaw" = some m.cls := findClass_of_methodNamed Bd.named
  have hnm := (name_of_methodNamed Bd.named Bd.method).1
  have X0 : Stand p l e (own_room2 : Room) s m #[(.int c0)] below meth c s₁ [] 0 0 := Stand.of_body Bd
  have e0 : s₁.heap = h0 := by rw [← hh, Bd.state]; rfl
  have N0 := Fr.nil n0
  refine own_out fun G hG => ?_
  rw [own_ef2 m c0]
  show own_Go p.tables e below G (s₁.setTop (mkF m 0 #[.val (.int c0)] []))
  refine own_of (S' := s₁.setTop (mkF m 1 #[.val (.int c0)] [(.int c0)])) (fun t k => XS.iloadN X0.here hx rfl (hb hby own_d2_0) rfl k) ?_
  refine own_of (S' := s₁.setTop (mkF m 3 #[.val (.int c0)] [(.int (10 : Int32)), (.int c0)])) (fun t k => XS.bipush X0.here hx rfl (hb hby own_d2_1) k) ?_
  by_cases hc3 : c0 = (10 : Int32)
  · refine own_of (S' := s₁.setTop (mkF m 12 #[.val (.int c0)] [])) (fun t k => XS.icmpYes X0.here hx rfl (pc0 := 3) (pc' := 12) rfl (hb hby own_d2_3) rfl (teq hc3).1 (by decide) (by decide) k) ?_
    refine own_of (S' := s₁.setTop (mkF m 13 #[.val (.int c0)] [(.int (1 : Int32))])) (fun t k => XS.iconst X0.here hx rfl (hb hby own_d2_12) k) ?_
    refine own_of (S' := s₁.setTop (mkF m 17 #[.val (.int c0)] [(.int (1 : Int32))])) (fun t k => XS.goto X0.here hx rfl (pc0 := 13) (pc' := 17) rfl (hb hby own_d2_13) (by decide) (by decide) k) ?_
    obtain ⟨fs, hr, hrun, hended, hW, hsame⟩ := X0.leave (v := some (.int (nar .boolean (1 : Int32)))) (fun h => by rw [Bd.returns] at h; cases h)
    refine ⟨_, _, retN X0 hx (t := .boolean) Bd.returns (by simp) (hb hby own_d2_17) hr, hrun, hended, hG _ _ ⟨_, _, rfl, ?_, ⟨_, rfl⟩, hW, hsame.mono (by decide) (by decide)⟩⟩
    show own_Q2 Z c0 h0 n0 _ s₁.heap _
    rw [e0]
    have hl : nar .boolean (1 : Int32) = (own_lb c0) := by simp [own_lb, nar, *]
    exact ⟨congrArg (fun w => some (Value.int w)) hl, N0, rfl⟩
  · refine own_of (S' := s₁.setTop (mkF m 6 #[.val (.int c0)] [])) (fun t k => XS.icmpNo X0.here hx rfl (hb hby own_d2_3) rfl (feq hc3).1 k) ?_
    refine own_of (S' := s₁.setTop (mkF m 7 #[.val (.int c0)] [(.int c0)])) (fun t k => XS.iloadN X0.here hx rfl (hb hby own_d2_6) rfl k) ?_
    refine own_of (S' := s₁.setTop (mkF m 9 #[.val (.int c0)] [(.int (13 : Int32)), (.int c0)])) (fun t k => XS.bipush X0.here hx rfl (hb hby own_d2_7) k) ?_
    by_cases hc9 : c0 = (13 : Int32)
    · refine own_of (S' := s₁.setTop (mkF m 12 #[.val (.int c0)] [])) (fun t k => XS.icmpNo X0.here hx rfl (hb hby own_d2_9) rfl (teq hc9).2 k) ?_
      refine own_of (S' := s₁.setTop (mkF m 13 #[.val (.int c0)] [(.int (1 : Int32))])) (fun t k => XS.iconst X0.here hx rfl (hb hby own_d2_12) k) ?_
      refine own_of (S' := s₁.setTop (mkF m 17 #[.val (.int c0)] [(.int (1 : Int32))])) (fun t k => XS.goto X0.here hx rfl (pc0 := 13) (pc' := 17) rfl (hb hby own_d2_13) (by decide) (by decide) k) ?_
      obtain ⟨fs, hr, hrun, hended, hW, hsame⟩ := X0.leave (v := some (.int (nar .boolean (1 : Int32)))) (fun h => by rw [Bd.returns] at h; cases h)
      refine ⟨_, _, retN X0 hx (t := .boolean) Bd.returns (by simp) (hb hby own_d2_17) hr, hrun, hended, hG _ _ ⟨_, _, rfl, ?_, ⟨_, rfl⟩, hW, hsame.mono (by decide) (by decide)⟩⟩
      show own_Q2 Z c0 h0 n0 _ s₁.heap _
      rw [e0]
      have hl : nar .boolean (1 : Int32) = (own_lb c0) := by simp [own_lb, nar, *]
      exact ⟨congrArg (fun w => some (Value.int w)) hl, N0, rfl⟩
    · refine own_of (S' := s₁.setTop (mkF m 16 #[.val (.int c0)] [])) (fun t k => XS.icmpYes X0.here hx rfl (pc0 := 9) (pc' := 16) rfl (hb hby own_d2_9) rfl (feq hc9).2 (by decide) (by decide) k) ?_
      refine own_of (S' := s₁.setTop (mkF m 17 #[.val (.int c0)] [(.int (0 : Int32))])) (fun t k => XS.iconst X0.here hx rfl (hb hby own_d2_16) k) ?_
      obtain ⟨fs, hr, hrun, hended, hW, hsame⟩ := X0.leave (v := some (.int (nar .boolean (0 : Int32)))) (fun h => by rw [Bd.returns] at h; cases h)
      refine ⟨_, _, retN X0 hx (t := .boolean) Bd.returns (by simp) (hb hby own_d2_17) hr, hrun, hended, hG _ _ ⟨_, _, rfl, ?_, ⟨_, rfl⟩, hW, hsame.mono (by decide) (by decide)⟩⟩
      show own_Q2 Z c0 h0 n0 _ s₁.heap _
      rw [e0]
      have hl : nar .boolean (0 : Int32) = (own_lb c0) := by simp [own_lb, nar, *]
      exact ⟨congrArg (fun w => some (Value.int w)) hl, N0, rfl⟩
theorem own_pn0 : plainName "com/example/libjtree/libjtree/RefusalsIsLineBreakPinLaw" = true := by first | (simp [plainName, overriddenIn]; done) | decide +kernel
theorem own_ef0 (m : MethodId) (p0 : Int32) (p1 : Int32) (p2 : Int32) : entryFrame m #[(.int p0), (.int p1), (.int p2)] maxLocals = mkF m 0 #[.val (.int p0), .val (.int p1), .val (.int p2), .unset, .unset, .unset, .unset, .unset] [] := by first | (simp [entryFrame, mkF, argsToLocals, Value.category, maxLocals]; done) | rfl
def own_Q0 (Z : State) (p0 : Int32) (p1 : Int32) (p2 : Int32) (h0 : Heap) (n0 : Nat) (v : Option Value) (h : Heap) (L : List Loc) : Prop := v = some (.int 1) ∧ Fr n0 L
set_option maxRecDepth 65536 in
set_option maxHeartbeats 40000000 in
theorem own_rm0 (l : Launch) (Z : State) (a0 : Array Value) (hw : ∀ d ∈ tables_1, d.before a0 Z = true) (ws : List Jvm.Cond) (p0 : Int32) (p1 : Int32) (p2 : Int32) (h0 : Heap) (n0 : Nat) (Z0 : n0 ≤ h0.size) :
    MetFree l x (head1 (Jvm.Cond.code x code maxLocals ret :: ws) room_1) (fun a U => a = #[(.int p0), (.int p1), (.int p2)] ∧ Z.Warmed39 U.vm ∧ U.heap = h0) (fun _ _ _ _ _ => True) (fun _ U o U' => ∃ v L, o = .returned v ∧ own_Q0 Z p0 p1 p2 h0 n0 v U'.heap L ∧ FrameEnd U o U' L 0 0) := by
  refine MetFree.of_bodySF (plainFor_of_name own_pn0) hisR ?_
  intro p e s m args below meth c s₁ Bd hml0 hP hK
  obtain ⟨rfl, hZ, hh⟩ := hP
  have hx := Bd.exec
  have hby := Bd.bytes
  have hml : c.maxLocals = 8 := hml0
  have hown : s.vm.findClass "com/example/libjtree/libjtree/RefusalsIsLineBreakPinLaw" = some m.cls := findClass_of_methodNamed Bd.named
  have hnm := (name_of_methodNamed Bd.named Bd.method).1
  have X0 : Stand p l e room_1 s m #[(.int p0), (.int p1), (.int p2)] below meth c s₁ [] 0 0 := Stand.of_body Bd
  have e0 : s₁.heap = h0 := by rw [← hh, Bd.state]; rfl
  have N0 := Fr.nil n0
  refine own_out fun G hG => ?_
  rw [own_ef0 m p0 p1 p2]
  show own_Go p.tables e below G (s₁.setTop (mkF m 0 #[.val (.int p0), .val (.int p1), .val (.int p2), .unset, .unset, .unset, .unset, .unset] []))
  refine own_of (S' := s₁.setTop (mkF m 1 #[.val (.int p0), .val (.int p1), .val (.int p2), .unset, .unset, .unset, .unset, .unset] [(.int p0)])) (fun t k => XS.iloadN X0.here hx rfl (hb hby at_0) rfl k) ?_
  obtain ⟨_, _, ⟨T5, L5, k5, n5⟩, -, X5, ⟨Lc5, hQ5, l5, y5, z5⟩, st5⟩ := Jvm.LawKit.callS X0 hx (y := (⟨"com/example/libjtree/libjtree/Refusals", "isLineBreak", "(I)Z"⟩ : MethodName)) hown (mvT hZ (hw _ (List.mem_of_getElem? (i := 0) rfl))) (mvT hZ (hw _ (List.mem_of_getElem? (i := 1) rfl))) (mvT hZ (hw _ (List.mem_of_getElem? (i := 2) rfl))) (mvT hZ (hw _ (List.mem_of_getElem? (i := 3) rfl))) (by decide) (backOf (W := 0) (own_rm1 l Z _ hw [] p0 h0 n0 ) hZ (hw _ (List.mem_of_getElem? (i := 3) rfl)) (hw _ (List.mem_of_getElem? (i := 2) rfl)) (by decide) (by decide)) (g := (mkF m 1 #[.val (.int p0), .val (.int p1), .val (.int p2), .unset, .unset, .unset, .unset, .unset] [(.int p0)])) rfl (by rw [hml]; rfl) (argsL := [(.int p0)]) (rest := []) (lenOf own_pd0 rfl) rfl (by show 2 * 0 + _ ≤ _; exact Nat.le_of_eq rfl) (hb hby at_1) (fun _ _ => ⟨rfl, e0, (by decide : 0 + 0 ≤ _), (by decide : 0 + 0 ≤ _)⟩)
  dsimp only [Pt.U, Pt.locs, Pt.cells, Pt.slots] at X5 l5 y5 z5 st5 hQ5
  subst l5 y5 z5
  obtain ⟨rfl, M5, eh5⟩ := hQ5
  have N5 := Fr.app N0 M5
  refine own_of (S' := T5.setTop (mkF m 4 #[.val (.int p0), .val (.int p1), .val (.int p2), .unset, .unset, .unset, .unset, .unset] [(.int (own_lb p0))])) (fun t k => st5 _ k) ?_
  generalize q1 : (own_lb p0) = r1
  refine own_of (S' := T5.setTop (mkF m 5 #[.val (.int p0), .val (.int p1), .val (.int p2), .unset, .unset, .unset, .unset, .unset] [(.int p0), (.int r1)])) (fun t k => XS.iloadN X5.here hx rfl (hb hby at_4) rfl k) ?_
  obtain ⟨_, _, ⟨T6, L6, k6, n6⟩, -, X6, ⟨Lc6, hQ6, l6, y6, z6⟩, st6⟩ := Jvm.LawKit.callS X5 hx (y := (⟨"com/example/libjtree/libjtree/RefusalsIsLineBreakPinLaw", "expected", "(I)Z"⟩ : MethodName)) hown (mvT hZ (hw _ (List.mem_of_getElem? (i := 4) rfl))) (mvT hZ (hw _ (List.mem_of_getElem? (i := 5) rfl))) (mvT hZ (hw _ (List.mem_of_getElem? (i := 6) rfl))) (mvT hZ (hw _ (List.mem_of_getElem? (i := 7) rfl))) (by decide) (backOf (W := 1) (own_rm2 l Z _ hw [] p0 h0 n0 ) hZ (hw _ (List.mem_of_getElem? (i := 7) rfl)) (hw _ (List.mem_of_getElem? (i := 6) rfl)) (by decide) (by decide)) (g := (mkF m 5 #[.val (.int p0), .val (.int p1), .val (.int p2), .unset, .unset, .unset, .unset, .unset] [(.int p0), (.int r1)])) rfl (by rw [hml]; rfl) (argsL := [(.int p0)]) (rest := [(.int r1)]) (lenOf own_pd0 rfl) rfl (by show 2 * 0 + _ ≤ _; exact Nat.le_of_eq rfl) (hb hby at_5) (fun _ _ => ⟨rfl, eh5, (by decide : 0 + 0 ≤ _), (by decide : 0 + 0 ≤ _)⟩)
  dsimp only [Pt.U, Pt.locs, Pt.cells, Pt.slots] at X6 l6 y6 z6 st6 hQ6
  subst l6 y6 z6
  obtain ⟨rfl, M6, eh6⟩ := hQ6
  have N6 := Fr.app N5 M6
  refine own_of (S' := T6.setTop (mkF m 8 #[.val (.int p0), .val (.int p1), .val (.int p2), .unset, .unset, .unset, .unset, .unset] [(.int (own_lb p0)), (.int r1)])) (fun t k => st6 _ k) ?_
  generalize q5 : (own_lb p0) = r5
  have hc8 : r1 = r5 := by exact q1.symm.trans q5
  refine own_of (S' := T6.setTop (mkF m 11 #[.val (.int p0), .val (.int p1), .val (.int p2), .unset, .unset, .unset, .unset, .unset] [])) (fun t k => XS.icmpNo X6.here hx rfl (hb hby at_8) rfl (teq hc8).2 k) ?_
  refine own_of (S' := T6.setTop (mkF m 12 #[.val (.int p0), .val (.int p1), .val (.int p2), .unset, .unset, .unset, .unset, .unset] [(.int (1 : Int32))])) (fun t k => XS.iconst X6.here hx rfl (hb hby at_11) k) ?_
  refine own_of (S' := T6.setTop (mkF m 16 #[.val (.int p0), .val (.int p1), .val (.int p2), .unset, .unset, .unset, .unset, .unset] [(.int (1 : Int32))])) (fun t k => XS.goto X6.here hx rfl (pc0 := 12) (pc' := 16) rfl (hb hby at_12) (by decide) (by decide) k) ?_
  refine own_of (S' := T6.setTop (mkF m 17 #[.val (.int p0), .val (.int p1), .val (.int p2), .val (.int (1 : Int32)), .unset, .unset, .unset, .unset] [])) (fun t k => XS.istoreN X6.here hx rfl (hb hby at_16) rfl (l' := #[.val (.int p0), .val (.int p1), .val (.int p2), .val (.int (1 : Int32)), .unset, .unset, .unset, .unset]) rfl k) ?_
  refine own_of (S' := T6.setTop (mkF m 19 #[.val (.int p0), .val (.int p1), .val (.int p2), .val (.int (1 : Int32)), .unset, .unset, .unset, .unset] [(.int (8 : Int32))])) (fun t k => XS.bipush X6.here hx rfl (hb hby at_17) k) ?_
  refine own_of (S' := T6.setTop (mkF m 20 #[.val (.int p0), .val (.int p1), .val (.int p2), .val (.int (1 : Int32)), .unset, .unset, .unset, .unset] [(.int p1), (.int (8 : Int32))])) (fun t k => XS.iloadN X6.here hx rfl (hb hby at_19) rfl k) ?_
  refine own_of (S' := T6.setTop (mkF m 22 #[.val (.int p0), .val (.int p1), .val (.int p2), .val (.int (1 : Int32)), .unset, .unset, .unset, .unset] [(.int (7 : Int32)), (.int p1), (.int (8 : Int32))])) (fun t k => XS.bipush X6.here hx rfl (hb hby at_20) k) ?_
  refine own_of (S' := T6.setTop (mkF m 23 #[.val (.int p0), .val (.int p1), .val (.int p2), .val (.int (1 : Int32)), .unset, .unset, .unset, .unset] [(.int (p1 &&& (7 : Int32))), (.int (8 : Int32))])) (fun t k => XS.iand X6.here hx rfl (hb hby at_22) rfl k) ?_
  refine own_of (S' := T6.setTop (mkF m 24 #[.val (.int p0), .val (.int p1), .val (.int p2), .val (.int (1 : Int32)), .unset, .unset, .unset, .unset] [(.int ((8 : Int32) + (p1 &&& (7 : Int32))))])) (fun t k => XS.iadd X6.here hx rfl (hb hby at_23) rfl k) ?_
  generalize q24 : ((8 : Int32) + (p1 &&& (7 : Int32))) = x24
  refine own_of (S' := T6.setTop (mkF m 26 #[.val (.int p0), .val (.int p1), .val (.int p2), .val (.int (1 : Int32)), .val (.int x24), .unset, .unset, .unset] [])) (fun t k => XS.istore X6.here hx rfl (hb hby at_24) rfl (l' := #[.val (.int p0), .val (.int p1), .val (.int p2), .val (.int (1 : Int32)), .val (.int x24), .unset, .unset, .unset]) rfl k) ?_
  refine own_of (S' := T6.setTop (mkF m 28 #[.val (.int p0), .val (.int p1), .val (.int p2), .val (.int (1 : Int32)), .val (.int x24), .unset, .unset, .unset] [(.int x24)])) (fun t k => XS.iload X6.here hx rfl (hb hby at_26) rfl k) ?_
  obtain ⟨_, _, ⟨T8, L8, k8, n8⟩, -, X8, ⟨Lc8, hQ8, l8, y8, z8⟩, st8⟩ := Jvm.LawKit.callS X6 hx (y := (⟨"com/example/libjtree/libjtree/Refusals", "isLineBreak", "(I)Z"⟩ : MethodName)) hown (mvT hZ (hw _ (List.mem_of_getElem? (i := 0) rfl))) (mvT hZ (hw _ (List.mem_of_getElem? (i := 1) rfl))) (mvT hZ (hw _ (List.mem_of_getElem? (i := 2) rfl))) (mvT hZ (hw _ (List.mem_of_getElem? (i := 3) rfl))) (by decide) (backOf (W := 0) (own_rm1 l Z _ hw [] x24 h0 n0 ) hZ (hw _ (List.mem_of_getElem? (i := 3) rfl)) (hw _ (List.mem_of_getElem? (i := 2) rfl)) (by decide) (by decide)) (g := (mkF m 28 #[.val (.int p0), .val (.int p1), .val (.int p2), .val (.int (1 : Int32)), .val (.int x24), .unset, .unset, .unset] [(.int x24)])) rfl (by rw [hml]; rfl) (argsL := [(.int x24)]) (rest := []) (lenOf own_pd0 rfl) rfl (by show 2 * 0 + _ ≤ _; exact Nat.le_of_eq rfl) (hb hby at_28) (fun _ _ => ⟨rfl, eh6, (by decide : 0 + 0 ≤ _), (by decide : 0 + 0 ≤ _)⟩)
  dsimp only [Pt.U, Pt.locs, Pt.cells, Pt.slots] at X8 l8 y8 z8 st8 hQ8
  subst l8 y8 z8
  obtain ⟨rfl, M8, eh8⟩ := hQ8
  have N8 := Fr.app N6 M8
  refine own_of (S' := T8.setTop (mkF m 31 #[.val (.int p0), .val (.int p1), .val (.int p2), .val (.int (1 : Int32)), .val (.int x24), .unset, .unset, .unset] [(.int (own_lb x24))])) (fun t k => st8 _ k) ?_
  generalize q28 : (own_lb x24) = r28
  refine own_of (S' := T8.setTop (mkF m 33 #[.val (.int p0), .val (.int p1), .val (.int p2), .val (.int (1 : Int32)), .val (.int x24), .unset, .unset, .unset] [(.int x24), (.int r28)])) (fun t k => XS.iload X8.here hx rfl (hb hby at_31) rfl k) ?_
  obtain ⟨_, _, ⟨T9, L9, k9, n9⟩, -, X9, ⟨Lc9, hQ9, l9, y9, z9⟩, st9⟩ := Jvm.LawKit.callS X8 hx (y := (⟨"com/example/libjtree/libjtree/RefusalsIsLineBreakPinLaw", "expected", "(I)Z"⟩ : MethodName)) hown (mvT hZ (hw _ (List.mem_of_getElem? (i := 4) rfl))) (mvT hZ (hw _ (List.mem_of_getElem? (i := 5) rfl))) (mvT hZ (hw _ (List.mem_of_getElem? (i := 6) rfl))) (mvT hZ (hw _ (List.mem_of_getElem? (i := 7) rfl))) (by decide) (backOf (W := 1) (own_rm2 l Z _ hw [] x24 h0 n0 ) hZ (hw _ (List.mem_of_getElem? (i := 7) rfl)) (hw _ (List.mem_of_getElem? (i := 6) rfl)) (by decide) (by decide)) (g := (mkF m 33 #[.val (.int p0), .val (.int p1), .val (.int p2), .val (.int (1 : Int32)), .val (.int x24), .unset, .unset, .unset] [(.int x24), (.int r28)])) rfl (by rw [hml]; rfl) (argsL := [(.int x24)]) (rest := [(.int r28)]) (lenOf own_pd0 rfl) rfl (by show 2 * 0 + _ ≤ _; exact Nat.le_of_eq rfl) (hb hby at_33) (fun _ _ => ⟨rfl, eh8, (by decide : 0 + 0 ≤ _), (by decide : 0 + 0 ≤ _)⟩)
  dsimp only [Pt.U, Pt.locs, Pt.cells, Pt.slots] at X9 l9 y9 z9 st9 hQ9
  subst l9 y9 z9
  obtain ⟨rfl, M9, eh9⟩ := hQ9
  have N9 := Fr.app N8 M9
  refine own_of (S' := T9.setTop (mkF m 36 #[.val (.int p0), .val (.int p1), .val (.int p2), .val (.int (1 : Int32)), .val (.int x24), .unset, .unset, .unset] [(.int (own_lb x24)), (.int r28)])) (fun t k => st9 _ k) ?_
  generalize q33 : (own_lb x24) = r33
  have hc36 : r28 = r33 := by exact q28.symm.trans q33
  refine own_of (S' := T9.setTop (mkF m 39 #[.val (.int p0), .val (.int p1), .val (.int p2), .val (.int (1 : Int32)), .val (.int x24), .unset, .unset, .unset] [])) (fun t k => XS.icmpNo X9.here hx rfl (hb hby at_36) rfl (teq hc36).2 k) ?_
  refine own_of (S' := T9.setTop (mkF m 40 #[.val (.int p0), .val (.int p1), .val (.int p2), .val (.int (1 : Int32)), .val (.int x24), .unset, .unset, .unset] [(.int (1 : Int32))])) (fun t k => XS.iconst X9.here hx rfl (hb hby at_39) k) ?_
  refine own_of (S' := T9.setTop (mkF m 44 #[.val (.int p0), .val (.int p1), .val (.int p2), .val (.int (1 : Int32)), .val (.int x24), .unset, .unset, .unset] [(.int (1 : Int32))])) (fun t k => XS.goto X9.here hx rfl (pc0 := 40) (pc' := 44) rfl (hb hby at_40) (by decide) (by decide) k) ?_
  refine own_of (S' := T9.setTop (mkF m 46 #[.val (.int p0), .val (.int p1), .val (.int p2), .val (.int (1 : Int32)), .val (.int x24), .val (.int (1 : Int32)), .unset, .unset] [])) (fun t k => XS.istore X9.here hx rfl (hb hby at_44) rfl (l' := #[.val (.int p0), .val (.int p1), .val (.int p2), .val (.int (1 : Int32)), .val (.int x24), .val (.int (1 : Int32)), .unset, .unset]) rfl k) ?_
  refine own_of (S' := T9.setTop (mkF m 47 #[.val (.int p0), .val (.int p1), .val (.int p2), .val (.int (1 : Int32)), .val (.int x24), .val (.int (1 : Int32)), .unset, .unset] [(.int p2)])) (fun t k => XS.iloadN X9.here hx rfl (hb hby at_46) rfl k) ?_
  refine own_of (S' := T9.setTop (mkF m 50 #[.val (.int p0), .val (.int p1), .val (.int p2), .val (.int (1 : Int32)), .val (.int x24), .val (.int (1 : Int32)), .unset, .unset] [(.int (256 : Int32)), (.int p2)])) (fun t k => XS.sipush X9.here hx rfl (hb hby at_47) k) ?_
  refine own_of (S' := T9.setTop (mkF m 51 #[.val (.int p0), .val (.int p1), .val (.int p2), .val (.int (1 : Int32)), .val (.int x24), .val (.int (1 : Int32)), .unset, .unset] [(.int (p2 ||| (256 : Int32)))])) (fun t k => XS.ior X9.here hx rfl (hb hby at_50) rfl k) ?_
  refine own_of (S' := T9.setTop (mkF m 52 #[.val (.int p0), .val (.int p1), .val (.int p2), .val (.int (1 : Int32)), .val (.int x24), .val (.int (1 : Int32)), .unset, .unset] [(.int p1), (.int (p2 ||| (256 : Int32)))])) (fun t k => XS.iloadN X9.here hx rfl (hb hby at_51) rfl k) ?_
  refine own_of (S' := T9.setTop (mkF m 55 #[.val (.int p0), .val (.int p1), .val (.int p2), .val (.int (1 : Int32)), .val (.int x24), .val (.int (1 : Int32)), .unset, .unset] [(.int (255 : Int32)), (.int p1), (.int (p2 ||| (256 : Int32)))])) (fun t k => XS.sipush X9.here hx rfl (hb hby at_52) k) ?_
  refine own_of (S' := T9.setTop (mkF m 56 #[.val (.int p0), .val (.int p1), .val (.int p2), .val (.int (1 : Int32)), .val (.int x24), .val (.int (1 : Int32)), .unset, .unset] [(.int (p1 &&& (255 : Int32))), (.int (p2 ||| (256 : Int32)))])) (fun t k => XS.iand X9.here hx rfl (hb hby at_55) rfl k) ?_
  refine own_of (S' := T9.setTop (mkF m 57 #[.val (.int p0), .val (.int p1), .val (.int p2), .val (.int (1 : Int32)), .val (.int x24), .val (.int (1 : Int32)), .unset, .unset] [(.int ((p2 ||| (256 : Int32)) ^^^ (p1 &&& (255 : Int32))))])) (fun t k => XS.ixor X9.here hx rfl (hb hby at_56) rfl k) ?_
  generalize q57 : ((p2 ||| (256 : Int32)) ^^^ (p1 &&& (255 : Int32))) = x57
  refine own_of (S' := T9.setTop (mkF m 59 #[.val (.int p0), .val (.int p1), .val (.int p2), .val (.int (1 : Int32)), .val (.int x24), .val (.int (1 : Int32)), .val (.int x57), .unset] [])) (fun t k => XS.istore X9.here hx rfl (hb hby at_57) rfl (l' := #[.val (.int p0), .val (.int p1), .val (.int p2), .val (.int (1 : Int32)), .val (.int x24), .val (.int (1 : Int32)), .val (.int x57), .unset]) rfl k) ?_
  refine own_of (S' := T9.setTop (mkF m 61 #[.val (.int p0), .val (.int p1), .val (.int p2), .val (.int (1 : Int32)), .val (.int x24), .val (.int (1 : Int32)), .val (.int x57), .unset] [(.int x57)])) (fun t k => XS.iload X9.here hx rfl (hb hby at_59) rfl k) ?_
  obtain ⟨_, _, ⟨T11, L11, k11, n11⟩, -, X11, ⟨Lc11, hQ11, l11, y11, z11⟩, st11⟩ := Jvm.LawKit.callS X9 hx (y := (⟨"com/example/libjtree/libjtree/Refusals", "isLineBreak", "(I)Z"⟩ : MethodName)) hown (mvT hZ (hw _ (List.mem_of_getElem? (i := 0) rfl))) (mvT hZ (hw _ (List.mem_of_getElem? (i := 1) rfl))) (mvT hZ (hw _ (List.mem_of_getElem? (i := 2) rfl))) (mvT hZ (hw _ (List.mem_of_getElem? (i := 3) rfl))) (by decide) (backOf (W := 0) (own_rm1 l Z _ hw [] x57 h0 n0 ) hZ (hw _ (List.mem_of_getElem? (i := 3) rfl)) (hw _ (List.mem_of_getElem? (i := 2) rfl)) (by decide) (by decide)) (g := (mkF m 61 #[.val (.int p0), .val (.int p1), .val (.int p2), .val (.int (1 : Int32)), .val (.int x24), .val (.int (1 : Int32)), .val (.int x57), .unset] [(.int x57)])) rfl (by rw [hml]; rfl) (argsL := [(.int x57)]) (rest := []) (lenOf own_pd0 rfl) rfl (by show 2 * 0 + _ ≤ _; exact Nat.le_of_eq rfl) (hb hby at_61) (fun _ _ => ⟨rfl, eh9, (by decide : 0 + 0 ≤ _), (by decide : 0 + 0 ≤ _)⟩)
  dsimp only [Pt.U, Pt.locs, Pt.cells, Pt.slots] at X11 l11 y11 z11 st11 hQ11
  subst l11 y11 z11
  obtain ⟨rfl, M11, eh11⟩ := hQ11
  have N11 := Fr.app N9 M11
  refine own_of (S' := T11.setTop (mkF m 64 #[.val (.int p0), .val (.int p1), .val (.int p2), .val (.int (1 : Int32)), .val (.int x24), .val (.int (1 : Int32)), .val (.int x57), .unset] [(.int (own_lb x57))])) (fun t k => st11 _ k) ?_
  generalize q61 : (own_lb x57) = r61
  refine own_of (S' := T11.setTop (mkF m 66 #[.val (.int p0), .val (.int p1), .val (.int p2), .val (.int (1 : Int32)), .val (.int x24), .val (.int (1 : Int32)), .val (.int x57), .unset] [(.int x57), (.int r61)])) (fun t k => XS.iload X11.here hx rfl (hb hby at_64) rfl k) ?_
  obtain ⟨_, _, ⟨T12, L12, k12, n12⟩, -, X12, ⟨Lc12, hQ12, l12, y12, z12⟩, st12⟩ := Jvm.LawKit.callS X11 hx (y := (⟨"com/example/libjtree/libjtree/RefusalsIsLineBreakPinLaw", "expected", "(I)Z"⟩ : MethodName)) hown (mvT hZ (hw _ (List.mem_of_getElem? (i := 4) rfl))) (mvT hZ (hw _ (List.mem_of_getElem? (i := 5) rfl))) (mvT hZ (hw _ (List.mem_of_getElem? (i := 6) rfl))) (mvT hZ (hw _ (List.mem_of_getElem? (i := 7) rfl))) (by decide) (backOf (W := 1) (own_rm2 l Z _ hw [] x57 h0 n0 ) hZ (hw _ (List.mem_of_getElem? (i := 7) rfl)) (hw _ (List.mem_of_getElem? (i := 6) rfl)) (by decide) (by decide)) (g := (mkF m 66 #[.val (.int p0), .val (.int p1), .val (.int p2), .val (.int (1 : Int32)), .val (.int x24), .val (.int (1 : Int32)), .val (.int x57), .unset] [(.int x57), (.int r61)])) rfl (by rw [hml]; rfl) (argsL := [(.int x57)]) (rest := [(.int r61)]) (lenOf own_pd0 rfl) rfl (by show 2 * 0 + _ ≤ _; exact Nat.le_of_eq rfl) (hb hby at_66) (fun _ _ => ⟨rfl, eh11, (by decide : 0 + 0 ≤ _), (by decide : 0 + 0 ≤ _)⟩)
  dsimp only [Pt.U, Pt.locs, Pt.cells, Pt.slots] at X12 l12 y12 z12 st12 hQ12
  subst l12 y12 z12
  obtain ⟨rfl, M12, eh12⟩ := hQ12
  have N12 := Fr.app N11 M12
  refine own_of (S' := T12.setTop (mkF m 69 #[.val (.int p0), .val (.int p1), .val (.int p2), .val (.int (1 : Int32)), .val (.int x24), .val (.int (1 : Int32)), .val (.int x57), .unset] [(.int (own_lb x57)), (.int r61)])) (fun t k => st12 _ k) ?_
  generalize q66 : (own_lb x57) = r66
  have hc69 : r61 = r66 := by exact q61.symm.trans q66
  refine own_of (S' := T12.setTop (mkF m 72 #[.val (.int p0), .val (.int p1), .val (.int p2), .val (.int (1 : Int32)), .val (.int x24), .val (.int (1 : Int32)), .val (.int x57), .unset] [])) (fun t k => XS.icmpNo X12.here hx rfl (hb hby at_69) rfl (teq hc69).2 k) ?_
  refine own_of (S' := T12.setTop (mkF m 73 #[.val (.int p0), .val (.int p1), .val (.int p2), .val (.int (1 : Int32)), .val (.int x24), .val (.int (1 : Int32)), .val (.int x57), .unset] [(.int (1 : Int32))])) (fun t k => XS.iconst X12.here hx rfl (hb hby at_72) k) ?_
  refine own_of (S' := T12.setTop (mkF m 77 #[.val (.int p0), .val (.int p1), .val (.int p2), .val (.int (1 : Int32)), .val (.int x24), .val (.int (1 : Int32)), .val (.int x57), .unset] [(.int (1 : Int32))])) (fun t k => XS.goto X12.here hx rfl (pc0 := 73) (pc' := 77) rfl (hb hby at_73) (by decide) (by decide) k) ?_
  refine own_of (S' := T12.setTop (mkF m 79 #[.val (.int p0), .val (.int p1), .val (.int p2), .val (.int (1 : Int32)), .val (.int x24), .val (.int (1 : Int32)), .val (.int x57), .val (.int (1 : Int32))] [])) (fun t k => XS.istore X12.here hx rfl (hb hby at_77) rfl (l' := #[.val (.int p0), .val (.int p1), .val (.int p2), .val (.int (1 : Int32)), .val (.int x24), .val (.int (1 : Int32)), .val (.int x57), .val (.int (1 : Int32))]) rfl k) ?_
  refine own_of (S' := T12.setTop (mkF m 80 #[.val (.int p0), .val (.int p1), .val (.int p2), .val (.int (1 : Int32)), .val (.int x24), .val (.int (1 : Int32)), .val (.int x57), .val (.int (1 : Int32))] [(.int (1 : Int32))])) (fun t k => XS.iloadN X12.here hx rfl (hb hby at_79) rfl k) ?_
  have hc80 : ¬ ((1 : Int32) = (0 : Int32)) := by decide
  refine own_of (S' := T12.setTop (mkF m 83 #[.val (.int p0), .val (.int p1), .val (.int p2), .val (.int (1 : Int32)), .val (.int x24), .val (.int (1 : Int32)), .val (.int x57), .val (.int (1 : Int32))] [])) (fun t k => XS.ifNo X12.here hx rfl (hb hby at_80) rfl ((if0 _ _).trans (feq hc80).1) k) ?_
  refine own_of (S' := T12.setTop (mkF m 85 #[.val (.int p0), .val (.int p1), .val (.int p2), .val (.int (1 : Int32)), .val (.int x24), .val (.int (1 : Int32)), .val (.int x57), .val (.int (1 : Int32))] [(.int (1 : Int32))])) (fun t k => XS.iload X12.here hx rfl (hb hby at_83) rfl k) ?_
  have hc85 : ¬ ((1 : Int32) = (0 : Int32)) := by decide
  refine own_of (S' := T12.setTop (mkF m 88 #[.val (.int p0), .val (.int p1), .val (.int p2), .val (.int (1 : Int32)), .val (.int x24), .val (.int (1 : Int32)), .val (.int x57), .val (.int (1 : Int32))] [])) (fun t k => XS.ifNo X12.here hx rfl (hb hby at_85) rfl ((if0 _ _).trans (feq hc85).1) k) ?_
  refine own_of (S' := T12.setTop (mkF m 90 #[.val (.int p0), .val (.int p1), .val (.int p2), .val (.int (1 : Int32)), .val (.int x24), .val (.int (1 : Int32)), .val (.int x57), .val (.int (1 : Int32))] [(.int (1 : Int32))])) (fun t k => XS.iload X12.here hx rfl (hb hby at_88) rfl k) ?_
  have hc90 : ¬ ((1 : Int32) = (0 : Int32)) := by decide
  refine own_of (S' := T12.setTop (mkF m 93 #[.val (.int p0), .val (.int p1), .val (.int p2), .val (.int (1 : Int32)), .val (.int x24), .val (.int (1 : Int32)), .val (.int x57), .val (.int (1 : Int32))] [])) (fun t k => XS.ifNo X12.here hx rfl (hb hby at_90) rfl ((if0 _ _).trans (feq hc90).1) k) ?_
  refine own_of (S' := T12.setTop (mkF m 94 #[.val (.int p0), .val (.int p1), .val (.int p2), .val (.int (1 : Int32)), .val (.int x24), .val (.int (1 : Int32)), .val (.int x57), .val (.int (1 : Int32))] [(.int (1 : Int32))])) (fun t k => XS.iconst X12.here hx rfl (hb hby at_93) k) ?_
  refine own_of (S' := T12.setTop (mkF m 98 #[.val (.int p0), .val (.int p1), .val (.int p2), .val (.int (1 : Int32)), .val (.int x24), .val (.int (1 : Int32)), .val (.int x57), .val (.int (1 : Int32))] [(.int (1 : Int32))])) (fun t k => XS.goto X12.here hx rfl (pc0 := 94) (pc' := 98) rfl (hb hby at_94) (by decide) (by decide) k) ?_
  obtain ⟨fs, hr, hrun, hended, hW, hsame⟩ := X12.leave (v := some (.int (nar .boolean (1 : Int32)))) (fun h => by rw [Bd.returns] at h; cases h)
  refine ⟨_, _, retN X12 hx (t := .boolean) Bd.returns (by simp) (hb hby at_98) hr, hrun, hended, hG _ _ ⟨_, _, rfl, ?_, ⟨_, rfl⟩, hW, hsame.mono (by decide) (by decide)⟩⟩
  show own_Q0 Z p0 p1 p2 h0 n0 _ T12.heap _
  rw [eh12]
  exact ⟨rfl, N12⟩
set_option maxRecDepth 65536 in
set_option maxHeartbeats 40000000 in
theorem own_comes {Post : Tables → Env → Array Value → State → Outcome → State → Prop} (hpost : ∀ tb e args s v u, (limb_1_1.after args s (.returned v) u = true ∧ limb_1_2.after args s (.returned v) u = true ∧ True) → FrameEnd s (.returned v) u (Jvm.fieldLocs frame_1_writes args s ++ Jvm.arrayLocs frame_1_arrays args s ++ Jvm.staticLocs frame_1_statics s) 0 0 → Post tb e args s (.returned v) u) :
    ArmFor flags0 classFile x code maxLocals ret World_1 tables_1 room_1 Calls_1 rest_1 Pre_1 Post := by
  intro l hfl _ _ p e ha hc hk s m args below hf hA hF happ hP
  obtain ⟨hcalls, hrest, hpre⟩ := hP
  obtain ⟨-, -, -, hnamed, -, -, -, hat⟩ := (Spec.applies_iff hf).mp happ
  obtain ⟨hg, hn⟩ := and_e (Cond.before_iff.mp (show (Jvm.Cond.and given_1 narrow_1).before args s = true from hpre))
  obtain ⟨hcount, hg0⟩ := and_e hg
  obtain ⟨ha0, hg1⟩ := and_e hg0
  obtain ⟨ha1, hg2⟩ := and_e hg1
  obtain ⟨w0, w1, w2, rfl⟩ : ∃ w0 w1 w2 : Value, args = #[w0, w1, w2] := by
    have hs : args.size = 3 := by simpa [Cond.value, given_1] using hcount
    obtain ⟨L⟩ := args
    match L, hs with
    | [w0, w1, w2], _ => exact ⟨w0, w1, w2, rfl⟩
  have hw := fun d (hd : d ∈ tables_1) => atoms_spec (ws := Jvm.Cond.code x code maxLocals ret :: tables_1) hat d (List.mem_cons_of_mem _ hd)
  obtain ⟨i0, ei0⟩ := is_v ha0
  obtain rfl : w0 = (.int i0) := Option.some.inj ei0
  obtain ⟨i1, ei1⟩ := is_v ha1
  obtain rfl : w1 = (.int i1) := Option.some.inj ei1
  obtain ⟨i2, ei2⟩ := is_v hg2
  obtain rfl : w2 = (.int i2) := Option.some.inj ei2
  obtain ⟨n, o, h1, h2, h3, _, L, rfl, ⟨rfl, N⟩, hq⟩ := own_rm0 l s _ hw tables_1 i0 i1 i2 s.heap s.heap.size (Nat.le_refl _) p e ha hc hk s m _ below hf ((Spec.applies_iff_loose hf).mp happ).1 ⟨rfl, State.Warmed39.refl s, rfl⟩ trivial
  exact ⟨n, _, h1, h2, h3, hpost _ _ _ _ _ _ ⟨Cond.after_iff.mpr rfl, Cond.after_iff.mpr (eq_i res_at (Term.int_eval (1)) rfl), trivial⟩ ⟨hq.1, hq.2.1, (hq.2.2.sift fun y hy => Or.inr (N y hy)).mono (by decide) (by decide)⟩⟩
theorem main_1_1 : Claimed_1_1 := own_comes fun _ _ _ _ _ _ h hF => ⟨h.1, hF⟩
theorem main_1_2 : Claimed_1_2 := own_comes fun _ _ _ _ _ _ h hF => ⟨h.2.1, hF⟩
end Jvm.Pilot.@@N@@
namespace Jvm.Pilot.@@N@@
open Jvm Jvm.ClassFile Sem Op Lib Jvm.Free Jvm.Stand Jvm.Pilot.@@N@@.Jvm.D
/-! MADE BY PROGRAM (witnessworld.py) out of the Statement's table words and the real class files: 9 classes; the members and pool entries that the words name. The judged class is class 1, her method 2. -/
namespace start1
open Jvm.ClassFile
def u (s : String) : CpInfo := .utf8 (stringToUtf16 s)
/-- a pool by its gaps: so many unusable entries, then the entry; so many at the end -/
def gap : Nat → List CpInfo → List CpInfo
  | 0, r => r
  | n + 1, r => .unusable :: gap n r
def poolList (es : List (Nat × CpInfo)) (last : Nat) : List CpInfo := es.foldr (fun e r => gap e.1 (e.2 :: r)) (gap last [])
def pool (es : List (Nat × CpInfo)) (last : Nat) : Array CpInfo := ⟨poolList es last⟩
def fileOf (pool : Array CpInfo) (this : Nat) (attrs : Array Attribute := #[]) (ms : Array MethodInfo := #[]) (fl : Nat := 33) (sup : Nat := 0) (ifs : Array Nat := #[]) (fds : Array FieldInfo := #[]) : ClassFile where
  minorVersion := 0
  majorVersion := 65
  constantPool := pool
  accessFlags := fl
  thisClass := this
  superClass := sup
  interfaces := ifs
  fields := fds
  methods := ms
  attributes := attrs
def plain (name : String) (sup : Option ClassId) : Class where
  name := name
  kind := .ordinary
  loader := none
  accessFlags := 33
  super := sup
  interfaces := #[]
  cf := none
  fields := #[]
  methods := #[]
  instanceTypes := #[]
  staticTypes := #[]
  resolved := #[]
  callSites := []
  init := .initialized
  statics := none
  mirror := none

def pool0 : Array CpInfo := pool [(5, u "<init>"), (0, u "()V"), (1, .class_ 10), (1, u "java/lang/Object")] 113

def k0m0 : Method := { name := "<init>", desc := "()V", sig := { parameters := [], returnType := none }, accessFlags := 1, code := none }
/-- java/lang/Object -/
def k0 : Class := { plain "java/lang/Object" none with
  accessFlags := 33
  interfaces := #[]
  cf := some (fileOf pool0 8 #[] #[{ accessFlags := 1, nameIndex := 5, descriptorIndex := 6, attributes := #[] }] 33 0 #[] #[])
  fields := #[]
  methods := #[k0m0]
  instanceTypes := #[]
  staticTypes := #[]
  resolved := Array.replicate 124 none
  statics := none }

def pool1 : Array CpInfo := pool [(2, .class_ 4), (1, u "java/lang/Object"), (0, u "<init>"), (0, u "()V"), (0, .methodref 8 9), (0, .class_ 10), (0, .nameAndType 11 12), (0, u "com/example/libjtree/libjtree/Refusals"), (0, u "isLineBreak"), (0, u "(I)Z"), (0, .methodref 14 15), (0, .class_ 16), (0, .nameAndType 17 12), (0, u "com/example/libjtree/libjtree/RefusalsIsLineBreakPinLaw"), (0, u "expected"), (3, u "law"), (0, u "(III)Z")] 2

def k1m0 : Method := { name := "<init>", desc := "()V", sig := { parameters := [], returnType := none }, accessFlags := 2, code := none }
def k1c1 : Code := { maxStack := 2, maxLocals := 1, code := method_2_code, exceptionTable := #[], attributes := #[] }
def k1m1 : Method := { name := "expected", desc := "(I)Z", sig := { parameters := [.int], returnType := some .boolean }, accessFlags := 10, code := some k1c1 }
def k1c2 : Code := { maxStack := 3, maxLocals := 8, code := code, exceptionTable := #[], attributes := #[] }
def k1m2 : Method := { name := "law", desc := "(III)Z", sig := { parameters := [.int, .int, .int], returnType := some .boolean }, accessFlags := 9, code := some k1c2 }
/-- com/example/libjtree/libjtree/RefusalsIsLineBreakPinLaw -/
def k1 : Class := { plain "com/example/libjtree/libjtree/RefusalsIsLineBreakPinLaw" (some 0) with
  accessFlags := 49
  interfaces := #[]
  cf := some (fileOf pool1 14 #[] #[{ accessFlags := 2, nameIndex := 5, descriptorIndex := 6, attributes := #[] }, { accessFlags := 10, nameIndex := 17, descriptorIndex := 12, attributes := #[] }, { accessFlags := 9, nameIndex := 21, descriptorIndex := 22, attributes := #[] }] 49 2 #[] #[])
  fields := #[]
  methods := #[k1m0, k1m1, k1m2]
  instanceTypes := #[]
  staticTypes := #[]
  resolved := Array.replicate 25 none
  statics := none }

def pool2 : Array CpInfo := pool [(2, .class_ 4), (1, u "java/lang/Object"), (0, u "<init>"), (0, u "()V"), (23, .class_ 32), (1, u "com/example/libjtree/libjtree/Refusals"), (15, u "isLineBreak"), (0, u "(I)Z"), (39, u "MAX_EXCERPT"), (0, u "I"), (2, u "CUT"), (0, u "Ljava/lang/String;")] 32

def k2m0 : Method := { name := "<init>", desc := "()V", sig := { parameters := [], returnType := none }, accessFlags := 2, code := none }
def k2c1 : Code := { maxStack := 2, maxLocals := 1, code := prog_30_method_5_code, exceptionTable := #[], attributes := #[] }
def k2m1 : Method := { name := "isLineBreak", desc := "(I)Z", sig := { parameters := [.int], returnType := some .boolean }, accessFlags := 9, code := some k2c1 }
/-- com/example/libjtree/libjtree/Refusals -/
def k2 : Class := { plain "com/example/libjtree/libjtree/Refusals" (some 0) with
  accessFlags := 33
  interfaces := #[]
  cf := some (fileOf pool2 30 #[] #[{ accessFlags := 2, nameIndex := 5, descriptorIndex := 6, attributes := #[] }, { accessFlags := 9, nameIndex := 48, descriptorIndex := 49, attributes := #[] }] 33 2 #[] #[{ accessFlags := 26, nameIndex := 89, descriptorIndex := 90, attributes := #[] }, { accessFlags := 26, nameIndex := 93, descriptorIndex := 94, attributes := #[] }])
  fields := #[{ name := "MAX_EXCERPT", type := .int, accessFlags := 26, slot := 0, constantValue := 0 }, { name := "CUT", type := (.object "java/lang/String"), accessFlags := 26, slot := 1, constantValue := 0 }]
  methods := #[k2m0, k2m1]
  instanceTypes := #[]
  staticTypes := #[.int, (.object "java/lang/String")]
  resolved := Array.replicate 127 none
  statics := none }

def pool3 : Array CpInfo := pool [(1, u "java/lang/Cloneable"), (0, .class_ 1), (0, u "java/lang/Object"), (0, .class_ 3)] 3

/-- java/lang/Cloneable -/
def k3 : Class := { plain "java/lang/Cloneable" (some 0) with
  accessFlags := 1537
  interfaces := #[]
  cf := some (fileOf pool3 2 #[] #[] 1537 4 #[] #[])
  fields := #[]
  methods := #[]
  instanceTypes := #[]
  staticTypes := #[]
  resolved := Array.replicate 8 none
  statics := none }

def pool4 : Array CpInfo := pool [(1, u "java/io/Serializable"), (0, .class_ 1), (0, u "java/lang/Object"), (0, .class_ 3)] 3

/-- java/io/Serializable -/
def k4 : Class := { plain "java/io/Serializable" (some 0) with
  accessFlags := 1537
  interfaces := #[]
  cf := some (fileOf pool4 2 #[] #[] 1537 4 #[] #[])
  fields := #[]
  methods := #[]
  instanceTypes := #[]
  staticTypes := #[]
  resolved := Array.replicate 8 none
  statics := none }

/-- the primitive byte -/
def k5 : Class := { plain "byte" none with kind := .primitive 'B', accessFlags := 0x411 }
/-- [B -/
def k6 : Class := { plain "[B" (some 0) with kind := .array 5 .byte, interfaces := #[3, 4], accessFlags := 1041 }

/-- the primitive int -/
def k7 : Class := { plain "int" none with kind := .primitive 'I', accessFlags := 0x411 }
/-- [I -/
def k8 : Class := { plain "[I" (some 0) with kind := .array 7 .int, interfaces := #[3, 4], accessFlags := 1041 }

def heap : Heap := #[]
def classes : Array Class := #[k0, k1, k2, k3, k4, k5, k6, k7, k8]
def interned : List (Array UInt16 × Addr) := []
def slotsUsed : Nat := 0
def theMethod : MethodId := ⟨1, 2⟩
def args0 : Array Value := #[.int 10, .int 3, .int 7]
def aboutOver (below : List Frame) : State where
  vm := { classes := classes, interned := interned.toArray }
  heap := heap
  slotsUsed := slotsUsed
  threads := #[{ frames := .invoking theMethod args0 :: below }]
def below0 : List Frame := [.native { method := ⟨0, 0⟩, args := #[] }]
def about1 : State := aboutOver below0
def p0 : Program := .bare "" "" ""
def e0 : Env := launch0.env 0 0 0
theorem w_frames : about1.frames = Frame.invoking theMethod args0 :: below0 := rfl
set_option maxRecDepth 65536 in
theorem w_args : argsFit about1.vm theMethod args0 = true := by decide +kernel
set_option maxRecDepth 65536 in
theorem w_heap : heapFits about1 = true := by decide +kernel
set_option maxRecDepth 65536 in
theorem w_runnable : about1.curStatus? = some .runnable := by decide +kernel
set_option maxRecDepth 65536 in
theorem w_alone : about1.alone = true := by decide +kernel
set_option maxRecDepth 65536 in
theorem w_named : about1.methodNamed? x = some theMethod := by decide +kernel
set_option maxRecDepth 65536 in
theorem w_hears : about1.hears theMethod below0 = true := by decide +kernel
set_option maxRecDepth 65536 in
theorem w_ripe : about1.ripe theMethod args0 below0 = true := by decide +kernel
theorem w_running : about1.status = .running := rfl
set_option maxRecDepth 65536 in
theorem w_room : about1.hasRoom e0.platform room_1 = true :=
  launch0.hasRoom_least _ room_1 (by decide +kernel) (by decide +kernel) (by decide +kernel) (by decide +kernel) (by decide +kernel) (by decide +kernel)
theorem allAtoms_all (ts : List Jvm.Cond) (a : Array Jvm.Value) (st : Jvm.State) : (allAtoms ts).before a st = ts.all (fun c => c.before a st) := by
  induction ts with
  | nil => rfl
  | cons c t ih =>
    show (Jvm.Cond.and c (allAtoms t)).before a st = _
    rw [Jvm.Cond.before_and, ih, List.all_cons]
def words1 : List Jvm.Cond := Jvm.Cond.code x code maxLocals ret :: tables_1
/-- a 'code' word, met by the world's own term for the bytes: nothing is compared byte by byte -/
theorem code_word {y : MethodName} {bytes : ByteArray} {mx : Nat} {rt : Option FieldType} {a : Array Value} {s : State} {m : MethodId} {meth : Method} {c : Code} (h1 : s.methodNamed? y = some m) (h2 : s.vm.method? m = some meth) (h3 : meth.code = some c) (h4 : c.code = bytes)
    (h5 : (c.maxLocals == mx && c.exceptionTable.isEmpty && decide (c.maxStack ≤ mostOperands) && decide (meth.sig.returnType = rt) && !meth.locks && decide (parseMethodDescriptor y.desc = some meth.sig)) = true) : (Jvm.Cond.code y bytes mx rt).before a s = true := by
  simp only [Bool.and_eq_true, beq_iff_eq, Bool.not_eq_true', decide_eq_true_eq] at h5
  obtain ⟨⟨⟨⟨⟨g1, g2⟩, g3⟩, g4⟩, g5⟩, g6⟩ := h5
  simp [Cond.before, Cond.holds, Cond.value, h1, h2, h3, h4, g1, g2, g3, g4, g5, g6]
def isCode : Jvm.Cond → Bool
  | .code _ _ _ _ => true
  | _ => false
theorem all_split {L : List Jvm.Cond} {P : Jvm.Cond → Bool} (h1 : L.all (fun c => isCode c || P c) = true) (h2 : ∀ c ∈ L.filter isCode, P c = true) : L.all P = true := by
  refine List.all_eq_true.mpr fun c hc => ?_
  have h := List.all_eq_true.mp h1 c hc
  rcases Bool.eq_false_or_eq_true (isCode c) with hi | hi
  · exact h2 c (List.mem_filter.mpr ⟨hc, hi⟩)
  · simpa [hi] using h
set_option maxRecDepth 65536 in
theorem w_c0 : (Jvm.Cond.code x code maxLocals ret).before args0 about1 = true := code_word (m := ⟨1, 2⟩) (meth := k1m2) (c := k1c2) (by decide +kernel) rfl rfl rfl (by decide +kernel)
set_option maxRecDepth 65536 in
theorem w_c1 : (Jvm.Cond.code ({ cls := "com/example/libjtree/libjtree/Refusals", name := "isLineBreak", desc := "(I)Z" } : Jvm.MethodName) prog_30_method_5_code (1 : Nat) (Option.some Jvm.ClassFile.FieldType.boolean)).before args0 about1 = true := code_word (m := ⟨2, 1⟩) (meth := k2m1) (c := k2c1) (by decide +kernel) rfl rfl rfl (by decide +kernel)
set_option maxRecDepth 65536 in
theorem w_c2 : (Jvm.Cond.code ({ cls := "com/example/libjtree/libjtree/RefusalsIsLineBreakPinLaw", name := "expected", desc := "(I)Z" } : Jvm.MethodName) method_2_code (1 : Nat) (Option.some Jvm.ClassFile.FieldType.boolean)).before args0 about1 = true := code_word (m := ⟨1, 1⟩) (meth := k1m1) (c := k1c1) (by decide +kernel) rfl rfl rfl (by decide +kernel)
def codes1 : List Jvm.Cond := [Jvm.Cond.code x code maxLocals ret, Jvm.Cond.code ({ cls := "com/example/libjtree/libjtree/Refusals", name := "isLineBreak", desc := "(I)Z" } : Jvm.MethodName) prog_30_method_5_code (1 : Nat) (Option.some Jvm.ClassFile.FieldType.boolean), Jvm.Cond.code ({ cls := "com/example/libjtree/libjtree/RefusalsIsLineBreakPinLaw", name := "expected", desc := "(I)Z" } : Jvm.MethodName) method_2_code (1 : Nat) (Option.some Jvm.ClassFile.FieldType.boolean)]
set_option maxRecDepth 65536 in
theorem codes_eq : words1.filter isCode = codes1 := rfl
theorem w_codes : ∀ c ∈ words1.filter isCode, c.before args0 about1 = true := by
  rw [codes_eq]
  intro c hc
  simp only [codes1, List.mem_cons, List.not_mem_nil, or_false] at hc
  rcases hc with rfl | rfl | rfl
  · exact w_c0
  · exact w_c1
  · exact w_c2
set_option maxRecDepth 65536 in
theorem w_t1 : words1.all (fun c => isCode c || c.before args0 about1) = true := by decide +kernel
theorem w_tables : (allAtoms (Jvm.Cond.code x code maxLocals ret :: tables_1)).before args0 about1 = true := by
  rw [allAtoms_all]
  show words1.all (fun c => c.before args0 about1) = true
  refine all_split ?_ w_codes
  rw [w_t1]
set_option maxRecDepth 65536 in
theorem w_case : (Jvm.Cond.and given_1 narrow_1).before args0 about1 = true := by decide +kernel
theorem w_applies : (headSpec (Jvm.Cond.code x code maxLocals ret :: tables_1) room_1).applies x e0.platform about1 = true :=
  (Spec.applies_iff w_frames).mpr ⟨w_running, w_runnable, w_alone, w_named, w_hears, w_ripe, w_room, w_tables⟩
theorem atStart : AtStart classFile x code maxLocals ret World_1 tables_1 room_1 Calls_1 rest_1 Pre_1 launch0 p0 e0 about1 theMethod args0 below0 :=
  ⟨lists_1, trivial, launch0.admits_env _ _ _, launch0.least_env, fairChoices_fair.cas, fairChoices_fair.clock, w_frames, w_args, w_heap, w_applies, trivial, trivial, w_case⟩
end start1
theorem witness_1 : WitnessClaimed_1 := ⟨start1.p0, start1.e0, start1.about1, start1.theMethod, start1.args0, start1.below0, start1.atStart⟩
end Jvm.Pilot.@@N@@
